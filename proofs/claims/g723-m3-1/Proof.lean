import JvmDerived
import JvmDerived.Pilot.@@N@@Statement
import JvmDerived.Pilot.@@N@@Code
set_option linter.unusedVariables false
set_option linter.unusedSimpArgs false
@@BLOCK:NumsL.lean.txt@@
namespace Jvm.Pilot.@@N@@
open Jvm Jvm.ClassFile Sem Op Lib Jvm.Free Jvm.Stand Jvm.LawKit Jvm.RoadKit Bundle Jvm.Pilot.@@N@@.Jvm.D
/-- the run from t comes to a state of G -/
def Go (p : Program) (e : Env) (below : List Frame) (G : State → Prop) (t : State) : Prop := ∃ s₂, Steps p.tables e below t s₂ ∧ G s₂
/-- the end of a body -/
def Done (below : List Frame) (s : State) (n0 : Nat) (Q : Option Value → Heap → Prop) (C N : Nat) (s₂ : State) : Prop := ∃ o, s₂.status = .running ∧ Ended s₂ below o ∧ ∃ v L, o = .returned v ∧ (Fr n0 L ∧ Q v s₂.heap) ∧ FrameEnd s o s₂ L C N
def Val (Q : Value → Heap → Prop) : Option Value → Heap → Prop := fun o h => ∃ v, o = some v ∧ Q v h
def Non (Q : Heap → Prop) : Option Value → Heap → Prop := fun o h => o = none ∧ Q h
theorem go_of {p : Program} {e : Env} {below : List Frame} {G : State → Prop} {t t' : State} (f : ∀ target, Steps p.tables e below t' target → Steps p.tables e below t target) (k : Go p e below G t') : Go p e below G t := by
  obtain ⟨s₂, h, g⟩ := k; exact ⟨s₂, f _ h, g⟩
/-- where a run stands: the heap, fresh writes only, the body's own facts -/
def Sd (l : Launch) (Z : State) (n0 : Nat) (y : MethodName) (bytes : ByteArray) (maxL : Nat) (ret : Option FieldType) (R : Room) (p : Program) (e : Env) (s : State) (m : MethodId) (args : Array Value) (below : List Frame) (T : State) (h : Heap) (cells slots : Nat) : Prop :=
  ∃ meth c locs, Stand p l e R s m args below meth c T locs cells slots ∧ T.heap = h ∧ Fr n0 locs ∧ p.tables.exec = Jvm.exec ∧ c.code = bytes ∧ c.maxLocals = maxL ∧ s.vm.findClass y.cls = some m.cls ∧ meth.name = y.name ∧ meth.sig.returnType = ret ∧ meth.locks = false ∧ Z.Warmed39 s.vm ∧ n0 ≤ s.heap.size
/-- a body's contract -/
def Con (l : Launch) (Z : State) (n0 : Nat) (y : MethodName) (bytes : ByteArray) (maxL : Nat) (ret : Option FieldType) (rm : Room) (as' : Array Value) (h : Heap) (Q : Option Value → Heap → Prop) : Prop :=
  ∀ ws, MetFree l y (head1 (Jvm.Cond.code y bytes maxL ret :: ws) rm) (fun a U => a = as' ∧ Z.Warmed39 U.vm ∧ U.heap = h) (fun _ _ _ _ _ => True) (fun _ U o U' => ∃ v L, o = .returned v ∧ (Fr n0 L ∧ Q v U'.heap) ∧ FrameEnd U o U' L rm.cells rm.slots)
theorem con_intro {l : Launch} {Z : State} {n0 : Nat} {y : MethodName} {bytes : ByteArray} {maxL : Nat} {ret : Option FieldType} {rm : Room} {as' : Array Value} {h : Heap} {Q : Option Value → Heap → Prop} (hp : plainFor y = true) (hn : n0 ≤ h.size) {fr : MethodId → JFrame} (ef : ∀ m, entryFrame m as' maxL = fr m)
    (body : ∀ p e s m below s₁, s.heap = h → Sd l Z n0 y bytes maxL ret rm p e s m as' below s₁ h 0 0 → Go p e below (Done below s n0 Q rm.cells rm.slots) (s₁.setTop (fr m))) : Con l Z n0 y bytes maxL ret rm as' h Q := by
  intro ws
  refine MetFree.of_bodySF hp hisR ?_
  intro p e s m args below meth c s₁ Bd hml0 hP hK
  obtain ⟨rfl, hZ, hh⟩ := hP
  have e0 : s₁.heap = h := by rw [← hh, Bd.state]; rfl
  obtain ⟨s₂, st, o, r1, r2, r3⟩ := body p e s m below s₁ hh ⟨meth, c, [], Stand.of_body Bd, e0, Fr.nil n0, Bd.exec, Bd.bytes, hml0, findClass_of_methodNamed Bd.named, (name_of_methodNamed Bd.named Bd.method).1, Bd.returns, Bd.notSynchronized, hZ, by rw [hh]; exact hn⟩
  exact ⟨s₂, o, castTop (ef m) st, r1, r2, r3⟩
theorem con_mono {l : Launch} {Z : State} {n0 : Nat} {y : MethodName} {bytes : ByteArray} {maxL : Nat} {ret : Option FieldType} {rm : Room} {as' : Array Value} {h : Heap} {Q Q' : Option Value → Heap → Prop} (hq : ∀ v h', Q v h' → Q' v h') (H : Con l Z n0 y bytes maxL ret rm as' h Q) : Con l Z n0 y bytes maxL ret rm as' h Q' := by
  intro ws p e ha hc hk s m args below hf happ hP hK
  obtain ⟨n, o, h1, h2, h3, v, L, h4, h5, h6⟩ := H ws p e ha hc hk s m args below hf happ hP hK
  exact ⟨n, o, h1, h2, h3, v, L, h4, ⟨h5.1, hq _ _ h5.2⟩, h6⟩
section Walk
variable {l : Launch} {Z : State} {n0 : Nat} {y : MethodName} {bytes : ByteArray} {maxL : Nat} {ret : Option FieldType} {R : Room} {p : Program} {e : Env} {s : State} {m : MethodId} {args : Array Value} {below : List Frame} {T : State} {h : Heap} {cells slots : Nat} {G : State → Prop} {a0 : Array Value} {pc pc' : Nat} {Ls : Array Slot} {S : List Value}
theorem sd_more (X : Sd l Z n0 y bytes maxL ret R p e s m args below T h cells slots) {cells' slots' : Nat} (hc : cells ≤ cells') (hs : slots ≤ slots') : Sd l Z n0 y bytes maxL ret R p e s m args below T h cells' slots' := by
  obtain ⟨meth, c, locs, X, r⟩ := X; exact ⟨meth, c, locs, X.more hc hs, r⟩
theorem sd_size (X : Sd l Z n0 y bytes maxL ret R p e s m args below T h cells slots) : n0 ≤ h.size := by
  obtain ⟨meth, c, locs, X, rfl, -, -, -, -, -, -, -, -, -, hn⟩ := X
  exact Nat.le_trans hn X.same.2.1
theorem sd_ext (X : Sd l Z n0 y bytes maxL ret R p e s m args below T h cells slots) {h0 : Heap} (hs : s.heap = h0) (hN : h0.size ≤ n0) : Ext h0 h := by
  obtain ⟨meth, c, locs, X, rfl, N, -⟩ := X
  subst hs
  refine ⟨X.same.2.1, fun a ca ha => ?_⟩
  obtain ⟨c', h1, h2, h3, h4⟩ := X.same.2.2.2.2.2 a ca ha
  have hlt : a < s.heap.size := (Array.getElem?_eq_some_iff.mp ha).1
  have e : c'.slots = ca.slots := by
    apply Array.ext_getElem?
    intro i
    exact h4 i (fun q => Nat.lt_irrefl _ (Nat.lt_of_lt_of_le hlt (Nat.le_trans hN (N _ q))))
  rw [e] at h2
  rw [h2] at h1
  exact h1
theorem w_iloadN (X : Sd l Z n0 y bytes maxL ret R p e s m args below T h cells slots) {k : Fin 4} {v : Int32} (hd : decode bytes pc = .ok (.iload_n k, 1)) (hl : Ls[k.val]? = some (.val (.int v))) (hp : pc' = pc + 1) (K : Go p e below G (T.setTop (mkF m pc' Ls (.int v :: S)))) : Go p e below G (T.setTop (mkF m pc Ls S)) := by
  obtain ⟨meth, c, locs, X, eT, N, hx, hby, hml, hown, hnm, hret, hlk, hZ, hn⟩ := X; subst hp
  exact go_of (fun _ k => XS.iloadN (g := (mkF m pc Ls S)) X.here hx rfl (hb hby hd) hl k) K
theorem w_iload (X : Sd l Z n0 y bytes maxL ret R p e s m args below T h cells slots) {k : Nat} {v : Int32} (hd : decode bytes pc = .ok (.iload k, 2)) (hl : Ls[k]? = some (.val (.int v))) (hp : pc' = pc + 2) (K : Go p e below G (T.setTop (mkF m pc' Ls (.int v :: S)))) : Go p e below G (T.setTop (mkF m pc Ls S)) := by
  obtain ⟨meth, c, locs, X, eT, N, hx, hby, hml, hown, hnm, hret, hlk, hZ, hn⟩ := X; subst hp
  exact go_of (fun _ k => XS.iload (g := (mkF m pc Ls S)) X.here hx rfl (hb hby hd) hl k) K
theorem w_istoreN (X : Sd l Z n0 y bytes maxL ret R p e s m args below T h cells slots) {k : Fin 4} {v : Int32} {l' : Array Slot} (hd : decode bytes pc = .ok (.istore_n k, 1)) (hl : storeLocals Ls k.val (.int v) = some l') (hp : pc' = pc + 1) (K : Go p e below G (T.setTop (mkF m pc' l' S))) : Go p e below G (T.setTop (mkF m pc Ls (.int v :: S))) := by
  obtain ⟨meth, c, locs, X, eT, N, hx, hby, hml, hown, hnm, hret, hlk, hZ, hn⟩ := X; subst hp
  exact go_of (fun _ k => XS.istoreN (g := (mkF m pc Ls (.int v :: S))) X.here hx rfl (hb hby hd) rfl hl k) K
theorem w_istore (X : Sd l Z n0 y bytes maxL ret R p e s m args below T h cells slots) {k : Nat} {v : Int32} {l' : Array Slot} (hd : decode bytes pc = .ok (.istore k, 2)) (hl : storeLocals Ls k (.int v) = some l') (hp : pc' = pc + 2) (K : Go p e below G (T.setTop (mkF m pc' l' S))) : Go p e below G (T.setTop (mkF m pc Ls (.int v :: S))) := by
  obtain ⟨meth, c, locs, X, eT, N, hx, hby, hml, hown, hnm, hret, hlk, hZ, hn⟩ := X; subst hp
  exact go_of (fun _ k => XS.istore (g := (mkF m pc Ls (.int v :: S))) X.here hx rfl (hb hby hd) rfl hl k) K
theorem w_lloadN (X : Sd l Z n0 y bytes maxL ret R p e s m args below T h cells slots) {k : Fin 4} {v : Int64} (hd : decode bytes pc = .ok (.lload_n k, 1)) (hl : Ls[k.val]? = some (.val (.long v))) (hp : pc' = pc + 1) (K : Go p e below G (T.setTop (mkF m pc' Ls (.long v :: S)))) : Go p e below G (T.setTop (mkF m pc Ls S)) := by
  obtain ⟨meth, c, locs, X, eT, N, hx, hby, hml, hown, hnm, hret, hlk, hZ, hn⟩ := X; subst hp
  exact go_of (fun _ k => XS.lloadN (g := (mkF m pc Ls S)) X.here hx rfl (hb hby hd) hl k) K
theorem w_lload (X : Sd l Z n0 y bytes maxL ret R p e s m args below T h cells slots) {k : Nat} {v : Int64} (hd : decode bytes pc = .ok (.lload k, 2)) (hl : Ls[k]? = some (.val (.long v))) (hp : pc' = pc + 2) (K : Go p e below G (T.setTop (mkF m pc' Ls (.long v :: S)))) : Go p e below G (T.setTop (mkF m pc Ls S)) := by
  obtain ⟨meth, c, locs, X, eT, N, hx, hby, hml, hown, hnm, hret, hlk, hZ, hn⟩ := X; subst hp
  exact go_of (fun _ k => XS.lload (g := (mkF m pc Ls S)) X.here hx rfl (hb hby hd) hl k) K
theorem w_lstoreN (X : Sd l Z n0 y bytes maxL ret R p e s m args below T h cells slots) {k : Fin 4} {v : Int64} {l' : Array Slot} (hd : decode bytes pc = .ok (.lstore_n k, 1)) (hl : storeLocals Ls k.val (.long v) = some l') (hp : pc' = pc + 1) (K : Go p e below G (T.setTop (mkF m pc' l' S))) : Go p e below G (T.setTop (mkF m pc Ls (.long v :: S))) := by
  obtain ⟨meth, c, locs, X, eT, N, hx, hby, hml, hown, hnm, hret, hlk, hZ, hn⟩ := X; subst hp
  exact go_of (fun _ k => XS.lstoreN (g := (mkF m pc Ls (.long v :: S))) X.here hx rfl (hb hby hd) rfl hl k) K
theorem w_lstore (X : Sd l Z n0 y bytes maxL ret R p e s m args below T h cells slots) {k : Nat} {v : Int64} {l' : Array Slot} (hd : decode bytes pc = .ok (.lstore k, 2)) (hl : storeLocals Ls k (.long v) = some l') (hp : pc' = pc + 2) (K : Go p e below G (T.setTop (mkF m pc' l' S))) : Go p e below G (T.setTop (mkF m pc Ls (.long v :: S))) := by
  obtain ⟨meth, c, locs, X, eT, N, hx, hby, hml, hown, hnm, hret, hlk, hZ, hn⟩ := X; subst hp
  exact go_of (fun _ k => XS.lstore (g := (mkF m pc Ls (.long v :: S))) X.here hx rfl (hb hby hd) rfl hl k) K
theorem w_aloadN (X : Sd l Z n0 y bytes maxL ret R p e s m args below T h cells slots) {k : Fin 4} {v : Value} (hd : decode bytes pc = .ok (.aload_n k, 1)) (hl : Ls[k.val]? = some (.val v)) (hv : v.isRef = true) (hp : pc' = pc + 1) (K : Go p e below G (T.setTop (mkF m pc' Ls (v :: S)))) : Go p e below G (T.setTop (mkF m pc Ls S)) := by
  obtain ⟨meth, c, locs, X, eT, N, hx, hby, hml, hown, hnm, hret, hlk, hZ, hn⟩ := X; subst hp
  exact go_of (fun _ k => XS.aloadN (g := (mkF m pc Ls S)) X.here hx rfl (hb hby hd) hl hv k) K
theorem w_aload (X : Sd l Z n0 y bytes maxL ret R p e s m args below T h cells slots) {k : Nat} {v : Value} (hd : decode bytes pc = .ok (.aload k, 2)) (hl : Ls[k]? = some (.val v)) (hv : v.isRef = true) (hp : pc' = pc + 2) (K : Go p e below G (T.setTop (mkF m pc' Ls (v :: S)))) : Go p e below G (T.setTop (mkF m pc Ls S)) := by
  obtain ⟨meth, c, locs, X, eT, N, hx, hby, hml, hown, hnm, hret, hlk, hZ, hn⟩ := X; subst hp
  exact go_of (fun _ k => XS.aload (g := (mkF m pc Ls S)) X.here hx rfl (hb hby hd) hl hv k) K
theorem w_astoreN (X : Sd l Z n0 y bytes maxL ret R p e s m args below T h cells slots) {k : Fin 4} {v : Value} {l' : Array Slot} (hd : decode bytes pc = .ok (.astore_n k, 1)) (hv : v.isRef = true) (hl : storeLocals Ls k.val v = some l') (hp : pc' = pc + 1) (K : Go p e below G (T.setTop (mkF m pc' l' S))) : Go p e below G (T.setTop (mkF m pc Ls (v :: S))) := by
  obtain ⟨meth, c, locs, X, eT, N, hx, hby, hml, hown, hnm, hret, hlk, hZ, hn⟩ := X; subst hp
  exact go_of (fun _ k => XS.astoreN (g := (mkF m pc Ls (v :: S))) X.here hx rfl (hb hby hd) rfl hv hl k) K
theorem w_astore (X : Sd l Z n0 y bytes maxL ret R p e s m args below T h cells slots) {k : Nat} {v : Value} {l' : Array Slot} (hd : decode bytes pc = .ok (.astore k, 2)) (hv : v.isRef = true) (hl : storeLocals Ls k v = some l') (hp : pc' = pc + 2) (K : Go p e below G (T.setTop (mkF m pc' l' S))) : Go p e below G (T.setTop (mkF m pc Ls (v :: S))) := by
  obtain ⟨meth, c, locs, X, eT, N, hx, hby, hml, hown, hnm, hret, hlk, hZ, hn⟩ := X; subst hp
  exact go_of (fun _ k => XS.astore (g := (mkF m pc Ls (v :: S))) X.here hx rfl (hb hby hd) rfl hv hl k) K
theorem w_iconst (X : Sd l Z n0 y bytes maxL ret R p e s m args below T h cells slots) {i : Int} (z : Int32) (hd : decode bytes pc = .ok (.iconst i, 1)) (hz : Int32.ofInt i = z) (hp : pc' = pc + 1) (K : Go p e below G (T.setTop (mkF m pc' Ls (.int z :: S)))) : Go p e below G (T.setTop (mkF m pc Ls S)) := by
  obtain ⟨meth, c, locs, X, eT, N, hx, hby, hml, hown, hnm, hret, hlk, hZ, hn⟩ := X; subst hp
  exact go_of (fun _ k => XS.iconst (g := mkF m pc Ls S) X.here hx rfl (hb hby hd) (by rw [hz]; exact k)) K
theorem w_bipush (X : Sd l Z n0 y bytes maxL ret R p e s m args below T h cells slots) {i : Int} (z : Int32) (hd : decode bytes pc = .ok (.bipush i, 2)) (hz : (Int8.ofInt i).toInt32 = z) (hp : pc' = pc + 2) (K : Go p e below G (T.setTop (mkF m pc' Ls (.int z :: S)))) : Go p e below G (T.setTop (mkF m pc Ls S)) := by
  obtain ⟨meth, c, locs, X, eT, N, hx, hby, hml, hown, hnm, hret, hlk, hZ, hn⟩ := X; subst hp
  exact go_of (fun _ k => XS.bipush (g := mkF m pc Ls S) X.here hx rfl (hb hby hd) (by rw [hz]; exact k)) K
theorem w_sipush (X : Sd l Z n0 y bytes maxL ret R p e s m args below T h cells slots) {i : Int} (z : Int32) (hd : decode bytes pc = .ok (.sipush i, 3)) (hz : (Int16.ofInt i).toInt32 = z) (hp : pc' = pc + 3) (K : Go p e below G (T.setTop (mkF m pc' Ls (.int z :: S)))) : Go p e below G (T.setTop (mkF m pc Ls S)) := by
  obtain ⟨meth, c, locs, X, eT, N, hx, hby, hml, hown, hnm, hret, hlk, hZ, hn⟩ := X; subst hp
  exact go_of (fun _ k => XS.sipush (g := mkF m pc Ls S) X.here hx rfl (hb hby hd) (by rw [hz]; exact k)) K
theorem w_lconst (X : Sd l Z n0 y bytes maxL ret R p e s m args below T h cells slots) {i : Fin 2} (z : Int64) (hd : decode bytes pc = .ok (.lconst i, 1)) (hz : Int64.ofNat i = z) (hp : pc' = pc + 1) (K : Go p e below G (T.setTop (mkF m pc' Ls (.long z :: S)))) : Go p e below G (T.setTop (mkF m pc Ls S)) := by
  obtain ⟨meth, c, locs, X, eT, N, hx, hby, hml, hown, hnm, hret, hlk, hZ, hn⟩ := X; subst hp
  exact go_of (fun _ k => XS.lconst (g := mkF m pc Ls S) X.here hx rfl (hb hby hd) (by rw [hz]; exact k)) K
theorem w_aconst_null (X : Sd l Z n0 y bytes maxL ret R p e s m args below T h cells slots)  (hd : decode bytes pc = .ok (.aconst_null, 1)) (hp : pc' = pc + 1) (K : Go p e below G (T.setTop (mkF m pc' Ls (.null :: S)))) : Go p e below G (T.setTop (mkF m pc Ls S)) := by
  obtain ⟨meth, c, locs, X, eT, N, hx, hby, hml, hown, hnm, hret, hlk, hZ, hn⟩ := X; subst hp
  exact go_of (fun _ k => XS.aconstNull (g := (mkF m pc Ls S)) X.here hx rfl (hb hby hd)  k) K
theorem w_iadd (X : Sd l Z n0 y bytes maxL ret R p e s m args below T h cells slots) {a b : Int32} (hd : decode bytes pc = .ok (.iadd, 1)) (hp : pc' = pc + 1) (K : Go p e below G (T.setTop (mkF m pc' Ls (.int (a + b) :: S)))) : Go p e below G (T.setTop (mkF m pc Ls (.int b :: .int a :: S))) := by
  obtain ⟨meth, c, locs, X, eT, N, hx, hby, hml, hown, hnm, hret, hlk, hZ, hn⟩ := X; subst hp
  exact go_of (fun _ k => XS.iadd (g := (mkF m pc Ls (.int b :: .int a :: S))) X.here hx rfl (hb hby hd) rfl k) K
theorem w_ladd (X : Sd l Z n0 y bytes maxL ret R p e s m args below T h cells slots) {a b : Int64} (hd : decode bytes pc = .ok (.ladd, 1)) (hp : pc' = pc + 1) (K : Go p e below G (T.setTop (mkF m pc' Ls (.long (a + b) :: S)))) : Go p e below G (T.setTop (mkF m pc Ls (.long b :: .long a :: S))) := by
  obtain ⟨meth, c, locs, X, eT, N, hx, hby, hml, hown, hnm, hret, hlk, hZ, hn⟩ := X; subst hp
  exact go_of (fun _ k => XS.ladd (g := (mkF m pc Ls (.long b :: .long a :: S))) X.here hx rfl (hb hby hd) rfl k) K
theorem w_isub (X : Sd l Z n0 y bytes maxL ret R p e s m args below T h cells slots) {a b : Int32} (hd : decode bytes pc = .ok (.isub, 1)) (hp : pc' = pc + 1) (K : Go p e below G (T.setTop (mkF m pc' Ls (.int (a - b) :: S)))) : Go p e below G (T.setTop (mkF m pc Ls (.int b :: .int a :: S))) := by
  obtain ⟨meth, c, locs, X, eT, N, hx, hby, hml, hown, hnm, hret, hlk, hZ, hn⟩ := X; subst hp
  exact go_of (fun _ k => XS.isub (g := (mkF m pc Ls (.int b :: .int a :: S))) X.here hx rfl (hb hby hd) rfl k) K
theorem w_lsub (X : Sd l Z n0 y bytes maxL ret R p e s m args below T h cells slots) {a b : Int64} (hd : decode bytes pc = .ok (.lsub, 1)) (hp : pc' = pc + 1) (K : Go p e below G (T.setTop (mkF m pc' Ls (.long (a - b) :: S)))) : Go p e below G (T.setTop (mkF m pc Ls (.long b :: .long a :: S))) := by
  obtain ⟨meth, c, locs, X, eT, N, hx, hby, hml, hown, hnm, hret, hlk, hZ, hn⟩ := X; subst hp
  exact go_of (fun _ k => XS.lsub (g := (mkF m pc Ls (.long b :: .long a :: S))) X.here hx rfl (hb hby hd) rfl k) K
theorem w_imul (X : Sd l Z n0 y bytes maxL ret R p e s m args below T h cells slots) {a b : Int32} (hd : decode bytes pc = .ok (.imul, 1)) (hp : pc' = pc + 1) (K : Go p e below G (T.setTop (mkF m pc' Ls (.int (a * b) :: S)))) : Go p e below G (T.setTop (mkF m pc Ls (.int b :: .int a :: S))) := by
  obtain ⟨meth, c, locs, X, eT, N, hx, hby, hml, hown, hnm, hret, hlk, hZ, hn⟩ := X; subst hp
  exact go_of (fun _ k => XS.imul (g := (mkF m pc Ls (.int b :: .int a :: S))) X.here hx rfl (hb hby hd) rfl k) K
theorem w_lmul (X : Sd l Z n0 y bytes maxL ret R p e s m args below T h cells slots) {a b : Int64} (hd : decode bytes pc = .ok (.lmul, 1)) (hp : pc' = pc + 1) (K : Go p e below G (T.setTop (mkF m pc' Ls (.long (a * b) :: S)))) : Go p e below G (T.setTop (mkF m pc Ls (.long b :: .long a :: S))) := by
  obtain ⟨meth, c, locs, X, eT, N, hx, hby, hml, hown, hnm, hret, hlk, hZ, hn⟩ := X; subst hp
  exact go_of (fun _ k => XS.lmul (g := (mkF m pc Ls (.long b :: .long a :: S))) X.here hx rfl (hb hby hd) rfl k) K
theorem w_iand (X : Sd l Z n0 y bytes maxL ret R p e s m args below T h cells slots) {a b : Int32} (hd : decode bytes pc = .ok (.iand, 1)) (hp : pc' = pc + 1) (K : Go p e below G (T.setTop (mkF m pc' Ls (.int (a &&& b) :: S)))) : Go p e below G (T.setTop (mkF m pc Ls (.int b :: .int a :: S))) := by
  obtain ⟨meth, c, locs, X, eT, N, hx, hby, hml, hown, hnm, hret, hlk, hZ, hn⟩ := X; subst hp
  exact go_of (fun _ k => XS.iand (g := (mkF m pc Ls (.int b :: .int a :: S))) X.here hx rfl (hb hby hd) rfl k) K
theorem w_land (X : Sd l Z n0 y bytes maxL ret R p e s m args below T h cells slots) {a b : Int64} (hd : decode bytes pc = .ok (.land, 1)) (hp : pc' = pc + 1) (K : Go p e below G (T.setTop (mkF m pc' Ls (.long (a &&& b) :: S)))) : Go p e below G (T.setTop (mkF m pc Ls (.long b :: .long a :: S))) := by
  obtain ⟨meth, c, locs, X, eT, N, hx, hby, hml, hown, hnm, hret, hlk, hZ, hn⟩ := X; subst hp
  exact go_of (fun _ k => XS.land (g := (mkF m pc Ls (.long b :: .long a :: S))) X.here hx rfl (hb hby hd) rfl k) K
theorem w_ior (X : Sd l Z n0 y bytes maxL ret R p e s m args below T h cells slots) {a b : Int32} (hd : decode bytes pc = .ok (.ior, 1)) (hp : pc' = pc + 1) (K : Go p e below G (T.setTop (mkF m pc' Ls (.int (a ||| b) :: S)))) : Go p e below G (T.setTop (mkF m pc Ls (.int b :: .int a :: S))) := by
  obtain ⟨meth, c, locs, X, eT, N, hx, hby, hml, hown, hnm, hret, hlk, hZ, hn⟩ := X; subst hp
  exact go_of (fun _ k => XS.ior (g := (mkF m pc Ls (.int b :: .int a :: S))) X.here hx rfl (hb hby hd) rfl k) K
theorem w_lor (X : Sd l Z n0 y bytes maxL ret R p e s m args below T h cells slots) {a b : Int64} (hd : decode bytes pc = .ok (.lor, 1)) (hp : pc' = pc + 1) (K : Go p e below G (T.setTop (mkF m pc' Ls (.long (a ||| b) :: S)))) : Go p e below G (T.setTop (mkF m pc Ls (.long b :: .long a :: S))) := by
  obtain ⟨meth, c, locs, X, eT, N, hx, hby, hml, hown, hnm, hret, hlk, hZ, hn⟩ := X; subst hp
  exact go_of (fun _ k => XS.lor (g := (mkF m pc Ls (.long b :: .long a :: S))) X.here hx rfl (hb hby hd) rfl k) K
theorem w_ixor (X : Sd l Z n0 y bytes maxL ret R p e s m args below T h cells slots) {a b : Int32} (hd : decode bytes pc = .ok (.ixor, 1)) (hp : pc' = pc + 1) (K : Go p e below G (T.setTop (mkF m pc' Ls (.int (a ^^^ b) :: S)))) : Go p e below G (T.setTop (mkF m pc Ls (.int b :: .int a :: S))) := by
  obtain ⟨meth, c, locs, X, eT, N, hx, hby, hml, hown, hnm, hret, hlk, hZ, hn⟩ := X; subst hp
  exact go_of (fun _ k => XS.ixor (g := (mkF m pc Ls (.int b :: .int a :: S))) X.here hx rfl (hb hby hd) rfl k) K
theorem w_lxor (X : Sd l Z n0 y bytes maxL ret R p e s m args below T h cells slots) {a b : Int64} (hd : decode bytes pc = .ok (.lxor, 1)) (hp : pc' = pc + 1) (K : Go p e below G (T.setTop (mkF m pc' Ls (.long (a ^^^ b) :: S)))) : Go p e below G (T.setTop (mkF m pc Ls (.long b :: .long a :: S))) := by
  obtain ⟨meth, c, locs, X, eT, N, hx, hby, hml, hown, hnm, hret, hlk, hZ, hn⟩ := X; subst hp
  exact go_of (fun _ k => XS.lxor (g := (mkF m pc Ls (.long b :: .long a :: S))) X.here hx rfl (hb hby hd) rfl k) K
theorem w_ishl (X : Sd l Z n0 y bytes maxL ret R p e s m args below T h cells slots) {a b : Int32} (hd : decode bytes pc = .ok (.ishl, 1)) (hp : pc' = pc + 1) (K : Go p e below G (T.setTop (mkF m pc' Ls (.int (a <<< (b &&& 31)) :: S)))) : Go p e below G (T.setTop (mkF m pc Ls (.int b :: .int a :: S))) := by
  obtain ⟨meth, c, locs, X, eT, N, hx, hby, hml, hown, hnm, hret, hlk, hZ, hn⟩ := X; subst hp
  exact go_of (fun _ k => XS.ishl (g := (mkF m pc Ls (.int b :: .int a :: S))) X.here hx rfl (hb hby hd) rfl k) K
theorem w_ishr (X : Sd l Z n0 y bytes maxL ret R p e s m args below T h cells slots) {a b : Int32} (hd : decode bytes pc = .ok (.ishr, 1)) (hp : pc' = pc + 1) (K : Go p e below G (T.setTop (mkF m pc' Ls (.int (a >>> (b &&& 31)) :: S)))) : Go p e below G (T.setTop (mkF m pc Ls (.int b :: .int a :: S))) := by
  obtain ⟨meth, c, locs, X, eT, N, hx, hby, hml, hown, hnm, hret, hlk, hZ, hn⟩ := X; subst hp
  exact go_of (fun _ k => XS.ishr (g := (mkF m pc Ls (.int b :: .int a :: S))) X.here hx rfl (hb hby hd) rfl k) K
theorem w_iushr (X : Sd l Z n0 y bytes maxL ret R p e s m args below T h cells slots) {a b : Int32} (hd : decode bytes pc = .ok (.iushr, 1)) (hp : pc' = pc + 1) (K : Go p e below G (T.setTop (mkF m pc' Ls (.int ((a.toUInt32 >>> (b &&& 31).toUInt32).toInt32) :: S)))) : Go p e below G (T.setTop (mkF m pc Ls (.int b :: .int a :: S))) := by
  obtain ⟨meth, c, locs, X, eT, N, hx, hby, hml, hown, hnm, hret, hlk, hZ, hn⟩ := X; subst hp
  exact go_of (fun _ k => XS.iushr (g := (mkF m pc Ls (.int b :: .int a :: S))) X.here hx rfl (hb hby hd) rfl k) K
theorem w_lshl (X : Sd l Z n0 y bytes maxL ret R p e s m args below T h cells slots) {a : Int64} {b : Int32} (hd : decode bytes pc = .ok (.lshl, 1)) (hp : pc' = pc + 1) (K : Go p e below G (T.setTop (mkF m pc' Ls (.long (a <<< (b &&& 0x3f).toInt64) :: S)))) : Go p e below G (T.setTop (mkF m pc Ls (.int b :: .long a :: S))) := by
  obtain ⟨meth, c, locs, X, eT, N, hx, hby, hml, hown, hnm, hret, hlk, hZ, hn⟩ := X; subst hp
  exact go_of (fun _ k => XS.lshl (g := (mkF m pc Ls (.int b :: .long a :: S))) X.here hx rfl (hb hby hd) rfl k) K
theorem w_lshr (X : Sd l Z n0 y bytes maxL ret R p e s m args below T h cells slots) {a : Int64} {b : Int32} (hd : decode bytes pc = .ok (.lshr, 1)) (hp : pc' = pc + 1) (K : Go p e below G (T.setTop (mkF m pc' Ls (.long (a >>> (b &&& 0x3f).toInt64) :: S)))) : Go p e below G (T.setTop (mkF m pc Ls (.int b :: .long a :: S))) := by
  obtain ⟨meth, c, locs, X, eT, N, hx, hby, hml, hown, hnm, hret, hlk, hZ, hn⟩ := X; subst hp
  exact go_of (fun _ k => XS.lshr (g := (mkF m pc Ls (.int b :: .long a :: S))) X.here hx rfl (hb hby hd) rfl k) K
theorem w_lushr (X : Sd l Z n0 y bytes maxL ret R p e s m args below T h cells slots) {a : Int64} {b : Int32} (hd : decode bytes pc = .ok (.lushr, 1)) (hp : pc' = pc + 1) (K : Go p e below G (T.setTop (mkF m pc' Ls (.long ((a.toUInt64 >>> (b &&& 0x3f).toInt64.toUInt64).toInt64) :: S)))) : Go p e below G (T.setTop (mkF m pc Ls (.int b :: .long a :: S))) := by
  obtain ⟨meth, c, locs, X, eT, N, hx, hby, hml, hown, hnm, hret, hlk, hZ, hn⟩ := X; subst hp
  exact go_of (fun _ k => XS.lushr (g := (mkF m pc Ls (.int b :: .long a :: S))) X.here hx rfl (hb hby hd) rfl k) K
theorem w_idiv (X : Sd l Z n0 y bytes maxL ret R p e s m args below T h cells slots) {a b : Int32} (hd : decode bytes pc = .ok (.idiv, 1)) (hz : b ≠ 0) (hp : pc' = pc + 1) (K : Go p e below G (T.setTop (mkF m pc' Ls (.int (a / b) :: S)))) : Go p e below G (T.setTop (mkF m pc Ls (.int b :: .int a :: S))) := by
  obtain ⟨meth, c, locs, X, eT, N, hx, hby, hml, hown, hnm, hret, hlk, hZ, hn⟩ := X; subst hp
  exact go_of (fun _ k => XS.idiv (g := (mkF m pc Ls (.int b :: .int a :: S))) X.here hx rfl (hb hby hd) rfl hz k) K
theorem w_ldiv (X : Sd l Z n0 y bytes maxL ret R p e s m args below T h cells slots) {a b : Int64} (hd : decode bytes pc = .ok (.ldiv, 1)) (hz : b ≠ 0) (hp : pc' = pc + 1) (K : Go p e below G (T.setTop (mkF m pc' Ls (.long (a / b) :: S)))) : Go p e below G (T.setTop (mkF m pc Ls (.long b :: .long a :: S))) := by
  obtain ⟨meth, c, locs, X, eT, N, hx, hby, hml, hown, hnm, hret, hlk, hZ, hn⟩ := X; subst hp
  exact go_of (fun _ k => XS.ldiv (g := (mkF m pc Ls (.long b :: .long a :: S))) X.here hx rfl (hb hby hd) rfl hz k) K
theorem w_irem (X : Sd l Z n0 y bytes maxL ret R p e s m args below T h cells slots) {a b : Int32} (hd : decode bytes pc = .ok (.irem, 1)) (hz : b ≠ 0) (hp : pc' = pc + 1) (K : Go p e below G (T.setTop (mkF m pc' Ls (.int (a % b) :: S)))) : Go p e below G (T.setTop (mkF m pc Ls (.int b :: .int a :: S))) := by
  obtain ⟨meth, c, locs, X, eT, N, hx, hby, hml, hown, hnm, hret, hlk, hZ, hn⟩ := X; subst hp
  exact go_of (fun _ k => iremM (g := mkF m pc Ls (.int b :: .int a :: S)) X hx rfl (hb hby hd) rfl hz k) K
theorem w_lrem (X : Sd l Z n0 y bytes maxL ret R p e s m args below T h cells slots) {a b : Int64} (hd : decode bytes pc = .ok (.lrem, 1)) (hz : b ≠ 0) (hp : pc' = pc + 1) (K : Go p e below G (T.setTop (mkF m pc' Ls (.long (a % b) :: S)))) : Go p e below G (T.setTop (mkF m pc Ls (.long b :: .long a :: S))) := by
  obtain ⟨meth, c, locs, X, eT, N, hx, hby, hml, hown, hnm, hret, hlk, hZ, hn⟩ := X; subst hp
  exact go_of (fun _ k => XS.lrem (g := mkF m pc Ls (.long b :: .long a :: S)) X.here hx rfl (hb hby hd) rfl hz (by rw [lrem_mod]; exact k)) K
theorem w_ineg (X : Sd l Z n0 y bytes maxL ret R p e s m args below T h cells slots) {a : Int32} (hd : decode bytes pc = .ok (.ineg, 1)) (hp : pc' = pc + 1) (K : Go p e below G (T.setTop (mkF m pc' Ls (.int (-a) :: S)))) : Go p e below G (T.setTop (mkF m pc Ls (.int a :: S))) := by
  obtain ⟨meth, c, locs, X, eT, N, hx, hby, hml, hown, hnm, hret, hlk, hZ, hn⟩ := X; subst hp
  exact go_of (fun _ k => XS.ineg (g := (mkF m pc Ls (.int a :: S))) X.here hx rfl (hb hby hd) rfl k) K
theorem w_lneg (X : Sd l Z n0 y bytes maxL ret R p e s m args below T h cells slots) {a : Int64} (hd : decode bytes pc = .ok (.lneg, 1)) (hp : pc' = pc + 1) (K : Go p e below G (T.setTop (mkF m pc' Ls (.long (-a) :: S)))) : Go p e below G (T.setTop (mkF m pc Ls (.long a :: S))) := by
  obtain ⟨meth, c, locs, X, eT, N, hx, hby, hml, hown, hnm, hret, hlk, hZ, hn⟩ := X; subst hp
  exact go_of (fun _ k => XS.lneg (g := (mkF m pc Ls (.long a :: S))) X.here hx rfl (hb hby hd) rfl k) K
theorem w_i2l (X : Sd l Z n0 y bytes maxL ret R p e s m args below T h cells slots) {a : Int32} (hd : decode bytes pc = .ok (.i2l, 1)) (hp : pc' = pc + 1) (K : Go p e below G (T.setTop (mkF m pc' Ls (.long (a.toInt64) :: S)))) : Go p e below G (T.setTop (mkF m pc Ls (.int a :: S))) := by
  obtain ⟨meth, c, locs, X, eT, N, hx, hby, hml, hown, hnm, hret, hlk, hZ, hn⟩ := X; subst hp
  exact go_of (fun _ k => XS.i2l (g := (mkF m pc Ls (.int a :: S))) X.here hx rfl (hb hby hd) rfl k) K
theorem w_l2i (X : Sd l Z n0 y bytes maxL ret R p e s m args below T h cells slots) {a : Int64} (hd : decode bytes pc = .ok (.l2i, 1)) (hp : pc' = pc + 1) (K : Go p e below G (T.setTop (mkF m pc' Ls (.int (a.toInt32) :: S)))) : Go p e below G (T.setTop (mkF m pc Ls (.long a :: S))) := by
  obtain ⟨meth, c, locs, X, eT, N, hx, hby, hml, hown, hnm, hret, hlk, hZ, hn⟩ := X; subst hp
  exact go_of (fun _ k => XS.l2i (g := (mkF m pc Ls (.long a :: S))) X.here hx rfl (hb hby hd) rfl k) K
theorem w_i2b (X : Sd l Z n0 y bytes maxL ret R p e s m args below T h cells slots) {a : Int32} (hd : decode bytes pc = .ok (.i2b, 1)) (hp : pc' = pc + 1) (K : Go p e below G (T.setTop (mkF m pc' Ls (.int (a.toInt8.toInt32) :: S)))) : Go p e below G (T.setTop (mkF m pc Ls (.int a :: S))) := by
  obtain ⟨meth, c, locs, X, eT, N, hx, hby, hml, hown, hnm, hret, hlk, hZ, hn⟩ := X; subst hp
  exact go_of (fun _ k => XS.i2b (g := (mkF m pc Ls (.int a :: S))) X.here hx rfl (hb hby hd) rfl k) K
theorem w_i2s (X : Sd l Z n0 y bytes maxL ret R p e s m args below T h cells slots) {a : Int32} (hd : decode bytes pc = .ok (.i2s, 1)) (hp : pc' = pc + 1) (K : Go p e below G (T.setTop (mkF m pc' Ls (.int (a.toInt16.toInt32) :: S)))) : Go p e below G (T.setTop (mkF m pc Ls (.int a :: S))) := by
  obtain ⟨meth, c, locs, X, eT, N, hx, hby, hml, hown, hnm, hret, hlk, hZ, hn⟩ := X; subst hp
  exact go_of (fun _ k => XS.i2s (g := (mkF m pc Ls (.int a :: S))) X.here hx rfl (hb hby hd) rfl k) K
theorem w_i2c (X : Sd l Z n0 y bytes maxL ret R p e s m args below T h cells slots) {a : Int32} (hd : decode bytes pc = .ok (.i2c, 1)) (hp : pc' = pc + 1) (K : Go p e below G (T.setTop (mkF m pc' Ls (.int (a.toUInt32.toUInt16.toUInt32.toInt32) :: S)))) : Go p e below G (T.setTop (mkF m pc Ls (.int a :: S))) := by
  obtain ⟨meth, c, locs, X, eT, N, hx, hby, hml, hown, hnm, hret, hlk, hZ, hn⟩ := X; subst hp
  exact go_of (fun _ k => XS.i2c (g := (mkF m pc Ls (.int a :: S))) X.here hx rfl (hb hby hd) rfl k) K
theorem w_lcmp (X : Sd l Z n0 y bytes maxL ret R p e s m args below T h cells slots) {a b : Int64} (hd : decode bytes pc = .ok (.lcmp, 1)) (hp : pc' = pc + 1) (K : Go p e below G (T.setTop (mkF m pc' Ls (.int (lcmpW a b) :: S)))) : Go p e below G (T.setTop (mkF m pc Ls (.long b :: .long a :: S))) := by
  obtain ⟨meth, c, locs, X, eT, N, hx, hby, hml, hown, hnm, hret, hlk, hZ, hn⟩ := X; subst hp
  exact go_of (fun _ k => XS.lcmp (g := (mkF m pc Ls (.long b :: .long a :: S))) X.here hx rfl (hb hby hd) rfl k) K
theorem w_iinc (X : Sd l Z n0 y bytes maxL ret R p e s m args below T h cells slots) {k : Nat} {i : Int} {v : Int32} {l' : Array Slot} (z : Int32) (hd : decode bytes pc = .ok (.iinc k i, 3)) (hl : Ls[k]? = some (.val (.int v))) (hz : v + Int32.ofInt i = z) (hl' : storeLocals Ls k (.int z) = some l') (hp : pc' = pc + 3) (K : Go p e below G (T.setTop (mkF m pc' l' S))) : Go p e below G (T.setTop (mkF m pc Ls S)) := by
  obtain ⟨meth, c, locs, X, eT, N, hx, hby, hml, hown, hnm, hret, hlk, hZ, hn⟩ := X; subst hp
  exact go_of (fun _ k => XS.iinc (g := mkF m pc Ls S) X.here hx rfl (hb hby hd) hl (by rw [hz]; exact hl') k) K
theorem w_dup (X : Sd l Z n0 y bytes maxL ret R p e s m args below T h cells slots) {v : Value} (hd : decode bytes pc = .ok (.dup, 1)) (hc : v.category = 1) (hp : pc' = pc + 1) (K : Go p e below G (T.setTop (mkF m pc' Ls (v :: v :: S)))) : Go p e below G (T.setTop (mkF m pc Ls (v :: S))) := by
  obtain ⟨meth, c, locs, X, eT, N, hx, hby, hml, hown, hnm, hret, hlk, hZ, hn⟩ := X; subst hp
  exact go_of (fun _ k => XS.dup (g := (mkF m pc Ls (v :: S))) X.here hx rfl (hb hby hd) rfl hc k) K
theorem w_pop (X : Sd l Z n0 y bytes maxL ret R p e s m args below T h cells slots) {v : Value} (hd : decode bytes pc = .ok (.pop, 1)) (hc : v.category = 1) (hp : pc' = pc + 1) (K : Go p e below G (T.setTop (mkF m pc' Ls S))) : Go p e below G (T.setTop (mkF m pc Ls (v :: S))) := by
  obtain ⟨meth, c, locs, X, eT, N, hx, hby, hml, hown, hnm, hret, hlk, hZ, hn⟩ := X; subst hp
  exact go_of (fun _ k => XS.pop (g := (mkF m pc Ls (v :: S))) X.here hx rfl (hb hby hd) rfl hc k) K
theorem w_dup_x1 (X : Sd l Z n0 y bytes maxL ret R p e s m args below T h cells slots) {v w : Value} (hd : decode bytes pc = .ok (.dup_x1, 1)) (hc : v.category = 1) (hc2 : w.category = 1) (hp : pc' = pc + 1) (K : Go p e below G (T.setTop (mkF m pc' Ls (v :: w :: v :: S)))) : Go p e below G (T.setTop (mkF m pc Ls (v :: w :: S))) := by
  obtain ⟨meth, c, locs, X, eT, N, hx, hby, hml, hown, hnm, hret, hlk, hZ, hn⟩ := X; subst hp
  exact go_of (fun _ k => XS.dupX1 (g := (mkF m pc Ls (v :: w :: S))) X.here hx rfl (hb hby hd) rfl hc hc2 k) K
theorem w_dup2 (X : Sd l Z n0 y bytes maxL ret R p e s m args below T h cells slots) {v w : Value} (hd : decode bytes pc = .ok (.dup2, 1)) (hc : v.category = 1) (hc2 : w.category = 1) (hp : pc' = pc + 1) (K : Go p e below G (T.setTop (mkF m pc' Ls (v :: w :: v :: w :: S)))) : Go p e below G (T.setTop (mkF m pc Ls (v :: w :: S))) := by
  obtain ⟨meth, c, locs, X, eT, N, hx, hby, hml, hown, hnm, hret, hlk, hZ, hn⟩ := X; subst hp
  exact go_of (fun _ k => Jvm.Free.XT.dup2 (g := (mkF m pc Ls (v :: w :: S))) X.here hx rfl (hb hby hd) rfl hc hc2 k) K
theorem w_dup2L (X : Sd l Z n0 y bytes maxL ret R p e s m args below T h cells slots) {v : Int64} (hd : decode bytes pc = .ok (.dup2, 1)) (hp : pc' = pc + 1) (K : Go p e below G (T.setTop (mkF m pc' Ls (.long v :: .long v :: S)))) : Go p e below G (T.setTop (mkF m pc Ls (.long v :: S))) := by
  obtain ⟨meth, c, locs, X, eT, N, hx, hby, hml, hown, hnm, hret, hlk, hZ, hn⟩ := X; subst hp
  exact go_of (fun _ k => Jvm.Free.XT.dup2L (g := (mkF m pc Ls (.long v :: S))) X.here hx rfl (hb hby hd) rfl k) K
theorem w_goto (X : Sd l Z n0 y bytes maxL ret R p e s m args below T h cells slots) {i : Int} (hd : decode bytes pc = .ok (.goto i, 3)) (ho : 0 ≤ (pc : Int) + i) (hp : ((pc : Int) + i).toNat = pc') (K : Go p e below G (T.setTop (mkF m pc' Ls S))) : Go p e below G (T.setTop (mkF m pc Ls S)) := by
  obtain ⟨meth, c, locs, X, eT, N, hx, hby, hml, hown, hnm, hret, hlk, hZ, hn⟩ := X
  exact go_of (fun _ k => XS.goto (g := mkF m pc Ls S) X.here hx rfl rfl (hb hby hd) ho hp k) K
theorem w_icmp_eq (X : Sd l Z n0 y bytes maxL ret R p e s m args below T h cells slots) {a b : Int32} {i : Int} (pt pf : Nat) (hd : decode bytes pc = .ok (.if_icmp .eq i, 3)) (ho : 0 ≤ (pc : Int) + i) (ht : ((pc : Int) + i).toNat = pt) (hf : pf = pc + 3) (kt : a = b → Go p e below G (T.setTop (mkF m pt Ls S))) (kf : ¬ a = b → Go p e below G (T.setTop (mkF m pf Ls S))) : Go p e below G (T.setTop (mkF m pc Ls (.int b :: .int a :: S))) := by
  obtain ⟨meth, c, locs, X, eT, N, hx, hby, hml, hown, hnm, hret, hlk, hZ, hn⟩ := X; subst hf
  by_cases q : a = b
  · exact go_of (fun _ k => XS.icmpYes (g := mkF m pc Ls (.int b :: .int a :: S)) X.here hx rfl rfl (hb hby hd) rfl (teq q).1 ho ht k) (kt q)
  · skip
    exact go_of (fun _ k => XS.icmpNo (g := mkF m pc Ls (.int b :: .int a :: S)) X.here hx rfl (hb hby hd) rfl (feq q).1 k) (kf q)
theorem w_if_eq (X : Sd l Z n0 y bytes maxL ret R p e s m args below T h cells slots) {a : Int32} {i : Int} (pt pf : Nat) (hd : decode bytes pc = .ok (.ifCond .eq i, 3)) (ho : 0 ≤ (pc : Int) + i) (ht : ((pc : Int) + i).toNat = pt) (hf : pf = pc + 3) (kt : a = (0 : Int32) → Go p e below G (T.setTop (mkF m pt Ls S))) (kf : ¬ a = (0 : Int32) → Go p e below G (T.setTop (mkF m pf Ls S))) : Go p e below G (T.setTop (mkF m pc Ls (.int a :: S))) := by
  obtain ⟨meth, c, locs, X, eT, N, hx, hby, hml, hown, hnm, hret, hlk, hZ, hn⟩ := X; subst hf
  by_cases q : a = (0 : Int32)
  · exact go_of (fun _ k => XS.ifYes (g := mkF m pc Ls (.int a :: S)) X.here hx rfl rfl (hb hby hd) rfl ((if0 _ _).trans (teq q).1) ho ht k) (kt q)
  · skip
    exact go_of (fun _ k => XS.ifNo (g := mkF m pc Ls (.int a :: S)) X.here hx rfl (hb hby hd) rfl ((if0 _ _).trans (feq q).1) k) (kf q)
theorem w_icmp_ne (X : Sd l Z n0 y bytes maxL ret R p e s m args below T h cells slots) {a b : Int32} {i : Int} (pt pf : Nat) (hd : decode bytes pc = .ok (.if_icmp .ne i, 3)) (ho : 0 ≤ (pc : Int) + i) (ht : ((pc : Int) + i).toNat = pt) (hf : pf = pc + 3) (kt : ¬ a = b → Go p e below G (T.setTop (mkF m pt Ls S))) (kf : a = b → Go p e below G (T.setTop (mkF m pf Ls S))) : Go p e below G (T.setTop (mkF m pc Ls (.int b :: .int a :: S))) := by
  obtain ⟨meth, c, locs, X, eT, N, hx, hby, hml, hown, hnm, hret, hlk, hZ, hn⟩ := X; subst hf
  by_cases q : ¬ a = b
  · exact go_of (fun _ k => XS.icmpYes (g := mkF m pc Ls (.int b :: .int a :: S)) X.here hx rfl rfl (hb hby hd) rfl (feq q).2 ho ht k) (kt q)
  · replace q := Decidable.not_not.mp q
    exact go_of (fun _ k => XS.icmpNo (g := mkF m pc Ls (.int b :: .int a :: S)) X.here hx rfl (hb hby hd) rfl (teq q).2 k) (kf q)
theorem w_if_ne (X : Sd l Z n0 y bytes maxL ret R p e s m args below T h cells slots) {a : Int32} {i : Int} (pt pf : Nat) (hd : decode bytes pc = .ok (.ifCond .ne i, 3)) (ho : 0 ≤ (pc : Int) + i) (ht : ((pc : Int) + i).toNat = pt) (hf : pf = pc + 3) (kt : ¬ a = (0 : Int32) → Go p e below G (T.setTop (mkF m pt Ls S))) (kf : a = (0 : Int32) → Go p e below G (T.setTop (mkF m pf Ls S))) : Go p e below G (T.setTop (mkF m pc Ls (.int a :: S))) := by
  obtain ⟨meth, c, locs, X, eT, N, hx, hby, hml, hown, hnm, hret, hlk, hZ, hn⟩ := X; subst hf
  by_cases q : ¬ a = (0 : Int32)
  · exact go_of (fun _ k => XS.ifYes (g := mkF m pc Ls (.int a :: S)) X.here hx rfl rfl (hb hby hd) rfl ((if0 _ _).trans (feq q).2) ho ht k) (kt q)
  · replace q := Decidable.not_not.mp q
    exact go_of (fun _ k => XS.ifNo (g := mkF m pc Ls (.int a :: S)) X.here hx rfl (hb hby hd) rfl ((if0 _ _).trans (teq q).2) k) (kf q)
theorem w_icmp_lt (X : Sd l Z n0 y bytes maxL ret R p e s m args below T h cells slots) {a b : Int32} {i : Int} (pt pf : Nat) (hd : decode bytes pc = .ok (.if_icmp .lt i, 3)) (ho : 0 ≤ (pc : Int) + i) (ht : ((pc : Int) + i).toNat = pt) (hf : pf = pc + 3) (kt : a < b → Go p e below G (T.setTop (mkF m pt Ls S))) (kf : ¬ a < b → Go p e below G (T.setTop (mkF m pf Ls S))) : Go p e below G (T.setTop (mkF m pc Ls (.int b :: .int a :: S))) := by
  obtain ⟨meth, c, locs, X, eT, N, hx, hby, hml, hown, hnm, hret, hlk, hZ, hn⟩ := X; subst hf
  by_cases q : a < b
  · exact go_of (fun _ k => XS.icmpYes (g := mkF m pc Ls (.int b :: .int a :: S)) X.here hx rfl rfl (hb hby hd) rfl (tlt q).1 ho ht k) (kt q)
  · skip
    exact go_of (fun _ k => XS.icmpNo (g := mkF m pc Ls (.int b :: .int a :: S)) X.here hx rfl (hb hby hd) rfl (flt q).1 k) (kf q)
theorem w_if_lt (X : Sd l Z n0 y bytes maxL ret R p e s m args below T h cells slots) {a : Int32} {i : Int} (pt pf : Nat) (hd : decode bytes pc = .ok (.ifCond .lt i, 3)) (ho : 0 ≤ (pc : Int) + i) (ht : ((pc : Int) + i).toNat = pt) (hf : pf = pc + 3) (kt : a < (0 : Int32) → Go p e below G (T.setTop (mkF m pt Ls S))) (kf : ¬ a < (0 : Int32) → Go p e below G (T.setTop (mkF m pf Ls S))) : Go p e below G (T.setTop (mkF m pc Ls (.int a :: S))) := by
  obtain ⟨meth, c, locs, X, eT, N, hx, hby, hml, hown, hnm, hret, hlk, hZ, hn⟩ := X; subst hf
  by_cases q : a < (0 : Int32)
  · exact go_of (fun _ k => XS.ifYes (g := mkF m pc Ls (.int a :: S)) X.here hx rfl rfl (hb hby hd) rfl ((if0 _ _).trans (tlt q).1) ho ht k) (kt q)
  · skip
    exact go_of (fun _ k => XS.ifNo (g := mkF m pc Ls (.int a :: S)) X.here hx rfl (hb hby hd) rfl ((if0 _ _).trans (flt q).1) k) (kf q)
theorem w_icmp_ge (X : Sd l Z n0 y bytes maxL ret R p e s m args below T h cells slots) {a b : Int32} {i : Int} (pt pf : Nat) (hd : decode bytes pc = .ok (.if_icmp .ge i, 3)) (ho : 0 ≤ (pc : Int) + i) (ht : ((pc : Int) + i).toNat = pt) (hf : pf = pc + 3) (kt : ¬ a < b → Go p e below G (T.setTop (mkF m pt Ls S))) (kf : a < b → Go p e below G (T.setTop (mkF m pf Ls S))) : Go p e below G (T.setTop (mkF m pc Ls (.int b :: .int a :: S))) := by
  obtain ⟨meth, c, locs, X, eT, N, hx, hby, hml, hown, hnm, hret, hlk, hZ, hn⟩ := X; subst hf
  by_cases q : ¬ a < b
  · exact go_of (fun _ k => XS.icmpYes (g := mkF m pc Ls (.int b :: .int a :: S)) X.here hx rfl rfl (hb hby hd) rfl (flt q).2.1 ho ht k) (kt q)
  · replace q := Decidable.not_not.mp q
    exact go_of (fun _ k => XS.icmpNo (g := mkF m pc Ls (.int b :: .int a :: S)) X.here hx rfl (hb hby hd) rfl (tlt q).2.1 k) (kf q)
theorem w_if_ge (X : Sd l Z n0 y bytes maxL ret R p e s m args below T h cells slots) {a : Int32} {i : Int} (pt pf : Nat) (hd : decode bytes pc = .ok (.ifCond .ge i, 3)) (ho : 0 ≤ (pc : Int) + i) (ht : ((pc : Int) + i).toNat = pt) (hf : pf = pc + 3) (kt : ¬ a < (0 : Int32) → Go p e below G (T.setTop (mkF m pt Ls S))) (kf : a < (0 : Int32) → Go p e below G (T.setTop (mkF m pf Ls S))) : Go p e below G (T.setTop (mkF m pc Ls (.int a :: S))) := by
  obtain ⟨meth, c, locs, X, eT, N, hx, hby, hml, hown, hnm, hret, hlk, hZ, hn⟩ := X; subst hf
  by_cases q : ¬ a < (0 : Int32)
  · exact go_of (fun _ k => XS.ifYes (g := mkF m pc Ls (.int a :: S)) X.here hx rfl rfl (hb hby hd) rfl ((if0 _ _).trans (flt q).2.1) ho ht k) (kt q)
  · replace q := Decidable.not_not.mp q
    exact go_of (fun _ k => XS.ifNo (g := mkF m pc Ls (.int a :: S)) X.here hx rfl (hb hby hd) rfl ((if0 _ _).trans (tlt q).2.1) k) (kf q)
theorem w_icmp_gt (X : Sd l Z n0 y bytes maxL ret R p e s m args below T h cells slots) {a b : Int32} {i : Int} (pt pf : Nat) (hd : decode bytes pc = .ok (.if_icmp .gt i, 3)) (ho : 0 ≤ (pc : Int) + i) (ht : ((pc : Int) + i).toNat = pt) (hf : pf = pc + 3) (kt : b < a → Go p e below G (T.setTop (mkF m pt Ls S))) (kf : ¬ b < a → Go p e below G (T.setTop (mkF m pf Ls S))) : Go p e below G (T.setTop (mkF m pc Ls (.int b :: .int a :: S))) := by
  obtain ⟨meth, c, locs, X, eT, N, hx, hby, hml, hown, hnm, hret, hlk, hZ, hn⟩ := X; subst hf
  by_cases q : b < a
  · exact go_of (fun _ k => XS.icmpYes (g := mkF m pc Ls (.int b :: .int a :: S)) X.here hx rfl rfl (hb hby hd) rfl (tlt q).2.2.1 ho ht k) (kt q)
  · skip
    exact go_of (fun _ k => XS.icmpNo (g := mkF m pc Ls (.int b :: .int a :: S)) X.here hx rfl (hb hby hd) rfl (flt q).2.2.1 k) (kf q)
theorem w_if_gt (X : Sd l Z n0 y bytes maxL ret R p e s m args below T h cells slots) {a : Int32} {i : Int} (pt pf : Nat) (hd : decode bytes pc = .ok (.ifCond .gt i, 3)) (ho : 0 ≤ (pc : Int) + i) (ht : ((pc : Int) + i).toNat = pt) (hf : pf = pc + 3) (kt : (0 : Int32) < a → Go p e below G (T.setTop (mkF m pt Ls S))) (kf : ¬ (0 : Int32) < a → Go p e below G (T.setTop (mkF m pf Ls S))) : Go p e below G (T.setTop (mkF m pc Ls (.int a :: S))) := by
  obtain ⟨meth, c, locs, X, eT, N, hx, hby, hml, hown, hnm, hret, hlk, hZ, hn⟩ := X; subst hf
  by_cases q : (0 : Int32) < a
  · exact go_of (fun _ k => XS.ifYes (g := mkF m pc Ls (.int a :: S)) X.here hx rfl rfl (hb hby hd) rfl ((if0 _ _).trans (tlt q).2.2.1) ho ht k) (kt q)
  · skip
    exact go_of (fun _ k => XS.ifNo (g := mkF m pc Ls (.int a :: S)) X.here hx rfl (hb hby hd) rfl ((if0 _ _).trans (flt q).2.2.1) k) (kf q)
theorem w_icmp_le (X : Sd l Z n0 y bytes maxL ret R p e s m args below T h cells slots) {a b : Int32} {i : Int} (pt pf : Nat) (hd : decode bytes pc = .ok (.if_icmp .le i, 3)) (ho : 0 ≤ (pc : Int) + i) (ht : ((pc : Int) + i).toNat = pt) (hf : pf = pc + 3) (kt : ¬ b < a → Go p e below G (T.setTop (mkF m pt Ls S))) (kf : b < a → Go p e below G (T.setTop (mkF m pf Ls S))) : Go p e below G (T.setTop (mkF m pc Ls (.int b :: .int a :: S))) := by
  obtain ⟨meth, c, locs, X, eT, N, hx, hby, hml, hown, hnm, hret, hlk, hZ, hn⟩ := X; subst hf
  by_cases q : ¬ b < a
  · exact go_of (fun _ k => XS.icmpYes (g := mkF m pc Ls (.int b :: .int a :: S)) X.here hx rfl rfl (hb hby hd) rfl (flt q).2.2.2 ho ht k) (kt q)
  · replace q := Decidable.not_not.mp q
    exact go_of (fun _ k => XS.icmpNo (g := mkF m pc Ls (.int b :: .int a :: S)) X.here hx rfl (hb hby hd) rfl (tlt q).2.2.2 k) (kf q)
theorem w_if_le (X : Sd l Z n0 y bytes maxL ret R p e s m args below T h cells slots) {a : Int32} {i : Int} (pt pf : Nat) (hd : decode bytes pc = .ok (.ifCond .le i, 3)) (ho : 0 ≤ (pc : Int) + i) (ht : ((pc : Int) + i).toNat = pt) (hf : pf = pc + 3) (kt : ¬ (0 : Int32) < a → Go p e below G (T.setTop (mkF m pt Ls S))) (kf : (0 : Int32) < a → Go p e below G (T.setTop (mkF m pf Ls S))) : Go p e below G (T.setTop (mkF m pc Ls (.int a :: S))) := by
  obtain ⟨meth, c, locs, X, eT, N, hx, hby, hml, hown, hnm, hret, hlk, hZ, hn⟩ := X; subst hf
  by_cases q : ¬ (0 : Int32) < a
  · exact go_of (fun _ k => XS.ifYes (g := mkF m pc Ls (.int a :: S)) X.here hx rfl rfl (hb hby hd) rfl ((if0 _ _).trans (flt q).2.2.2) ho ht k) (kt q)
  · replace q := Decidable.not_not.mp q
    exact go_of (fun _ k => XS.ifNo (g := mkF m pc Ls (.int a :: S)) X.here hx rfl (hb hby hd) rfl ((if0 _ _).trans (tlt q).2.2.2) k) (kf q)
theorem w_lc_eq (X : Sd l Z n0 y bytes maxL ret R p e s m args below T h cells slots) {a b : Int64} {i : Int} (pt pf : Nat) (hd1 : decode bytes pc = .ok (.lcmp, 1)) (hd : decode bytes (pc + 1) = .ok (.ifCond .eq i, 3)) (ho : 0 ≤ ((pc + 1 : Nat) : Int) + i) (ht : (((pc + 1 : Nat) : Int) + i).toNat = pt) (hf : pf = pc + 4) (kt : a = b → Go p e below G (T.setTop (mkF m pt Ls S))) (kf : ¬ a = b → Go p e below G (T.setTop (mkF m pf Ls S))) : Go p e below G (T.setTop (mkF m pc Ls (.long b :: .long a :: S))) :=
  w_lcmp X hd1 rfl (w_if_eq X pt pf hd ho ht hf (fun q => kt ((lw_eq _ _).mp q)) (fun q => kf (fun z => q ((lw_eq _ _).mpr z))))
theorem w_lc_ne (X : Sd l Z n0 y bytes maxL ret R p e s m args below T h cells slots) {a b : Int64} {i : Int} (pt pf : Nat) (hd1 : decode bytes pc = .ok (.lcmp, 1)) (hd : decode bytes (pc + 1) = .ok (.ifCond .ne i, 3)) (ho : 0 ≤ ((pc + 1 : Nat) : Int) + i) (ht : (((pc + 1 : Nat) : Int) + i).toNat = pt) (hf : pf = pc + 4) (kt : ¬ a = b → Go p e below G (T.setTop (mkF m pt Ls S))) (kf : a = b → Go p e below G (T.setTop (mkF m pf Ls S))) : Go p e below G (T.setTop (mkF m pc Ls (.long b :: .long a :: S))) :=
  w_lcmp X hd1 rfl (w_if_ne X pt pf hd ho ht hf (fun q => kt (fun z => q ((lw_eq _ _).mpr z))) (fun q => kf ((lw_eq _ _).mp q)))
theorem w_lc_lt (X : Sd l Z n0 y bytes maxL ret R p e s m args below T h cells slots) {a b : Int64} {i : Int} (pt pf : Nat) (hd1 : decode bytes pc = .ok (.lcmp, 1)) (hd : decode bytes (pc + 1) = .ok (.ifCond .lt i, 3)) (ho : 0 ≤ ((pc + 1 : Nat) : Int) + i) (ht : (((pc + 1 : Nat) : Int) + i).toNat = pt) (hf : pf = pc + 4) (kt : a < b → Go p e below G (T.setTop (mkF m pt Ls S))) (kf : ¬ a < b → Go p e below G (T.setTop (mkF m pf Ls S))) : Go p e below G (T.setTop (mkF m pc Ls (.long b :: .long a :: S))) :=
  w_lcmp X hd1 rfl (w_if_lt X pt pf hd ho ht hf (fun q => kt ((lw_lt _ _).mp q)) (fun q => kf (fun z => q ((lw_lt _ _).mpr z))))
theorem w_lc_ge (X : Sd l Z n0 y bytes maxL ret R p e s m args below T h cells slots) {a b : Int64} {i : Int} (pt pf : Nat) (hd1 : decode bytes pc = .ok (.lcmp, 1)) (hd : decode bytes (pc + 1) = .ok (.ifCond .ge i, 3)) (ho : 0 ≤ ((pc + 1 : Nat) : Int) + i) (ht : (((pc + 1 : Nat) : Int) + i).toNat = pt) (hf : pf = pc + 4) (kt : ¬ a < b → Go p e below G (T.setTop (mkF m pt Ls S))) (kf : a < b → Go p e below G (T.setTop (mkF m pf Ls S))) : Go p e below G (T.setTop (mkF m pc Ls (.long b :: .long a :: S))) :=
  w_lcmp X hd1 rfl (w_if_ge X pt pf hd ho ht hf (fun q => kt (fun z => q ((lw_lt _ _).mpr z))) (fun q => kf ((lw_lt _ _).mp q)))
theorem w_lc_gt (X : Sd l Z n0 y bytes maxL ret R p e s m args below T h cells slots) {a b : Int64} {i : Int} (pt pf : Nat) (hd1 : decode bytes pc = .ok (.lcmp, 1)) (hd : decode bytes (pc + 1) = .ok (.ifCond .gt i, 3)) (ho : 0 ≤ ((pc + 1 : Nat) : Int) + i) (ht : (((pc + 1 : Nat) : Int) + i).toNat = pt) (hf : pf = pc + 4) (kt : b < a → Go p e below G (T.setTop (mkF m pt Ls S))) (kf : ¬ b < a → Go p e below G (T.setTop (mkF m pf Ls S))) : Go p e below G (T.setTop (mkF m pc Ls (.long b :: .long a :: S))) :=
  w_lcmp X hd1 rfl (w_if_gt X pt pf hd ho ht hf (fun q => kt ((lw_gt _ _).mp q)) (fun q => kf (fun z => q ((lw_gt _ _).mpr z))))
theorem w_lc_le (X : Sd l Z n0 y bytes maxL ret R p e s m args below T h cells slots) {a b : Int64} {i : Int} (pt pf : Nat) (hd1 : decode bytes pc = .ok (.lcmp, 1)) (hd : decode bytes (pc + 1) = .ok (.ifCond .le i, 3)) (ho : 0 ≤ ((pc + 1 : Nat) : Int) + i) (ht : (((pc + 1 : Nat) : Int) + i).toNat = pt) (hf : pf = pc + 4) (kt : ¬ b < a → Go p e below G (T.setTop (mkF m pt Ls S))) (kf : b < a → Go p e below G (T.setTop (mkF m pf Ls S))) : Go p e below G (T.setTop (mkF m pc Ls (.long b :: .long a :: S))) :=
  w_lcmp X hd1 rfl (w_if_le X pt pf hd ho ht hf (fun q => kt (fun z => q ((lw_gt _ _).mpr z))) (fun q => kf ((lw_gt _ _).mp q)))
theorem w_ifnullY (X : Sd l Z n0 y bytes maxL ret R p e s m args below T h cells slots) {i : Int} (hd : decode bytes pc = .ok (.ifnull i, 3)) (ho : 0 ≤ (pc : Int) + i) (hp : ((pc : Int) + i).toNat = pc') (K : Go p e below G (T.setTop (mkF m pc' Ls S))) : Go p e below G (T.setTop (mkF m pc Ls (.null :: S))) := by
  obtain ⟨meth, c, locs, X, eT, N, hx, hby, hml, hown, hnm, hret, hlk, hZ, hn⟩ := X
  exact go_of (fun _ k => XS.ifnullYes (g := mkF m pc Ls (.null :: S)) X.here hx rfl rfl (hb hby hd) rfl ho hp k) K
theorem w_ifnullN (X : Sd l Z n0 y bytes maxL ret R p e s m args below T h cells slots) {b : Addr} {i : Int} (hd : decode bytes pc = .ok (.ifnull i, 3)) (hp : pc' = pc + 3) (K : Go p e below G (T.setTop (mkF m pc' Ls S))) : Go p e below G (T.setTop (mkF m pc Ls (.ref b :: S))) := by
  obtain ⟨meth, c, locs, X, eT, N, hx, hby, hml, hown, hnm, hret, hlk, hZ, hn⟩ := X; subst hp
  exact go_of (fun _ k => XS.ifnullNo (g := mkF m pc Ls (.ref b :: S)) X.here hx rfl (hb hby hd) rfl k) K
theorem w_ifnonnullY (X : Sd l Z n0 y bytes maxL ret R p e s m args below T h cells slots) {b : Addr} {i : Int} (hd : decode bytes pc = .ok (.ifnonnull i, 3)) (ho : 0 ≤ (pc : Int) + i) (hp : ((pc : Int) + i).toNat = pc') (K : Go p e below G (T.setTop (mkF m pc' Ls S))) : Go p e below G (T.setTop (mkF m pc Ls (.ref b :: S))) := by
  obtain ⟨meth, c, locs, X, eT, N, hx, hby, hml, hown, hnm, hret, hlk, hZ, hn⟩ := X
  exact go_of (fun _ k => XS.ifnonnullYes (g := mkF m pc Ls (.ref b :: S)) X.here hx rfl rfl (hb hby hd) rfl ho hp k) K
theorem w_ifnonnullN (X : Sd l Z n0 y bytes maxL ret R p e s m args below T h cells slots) {i : Int} (hd : decode bytes pc = .ok (.ifnonnull i, 3)) (hp : pc' = pc + 3) (K : Go p e below G (T.setTop (mkF m pc' Ls S))) : Go p e below G (T.setTop (mkF m pc Ls (.null :: S))) := by
  obtain ⟨meth, c, locs, X, eT, N, hx, hby, hml, hown, hnm, hret, hlk, hZ, hn⟩ := X; subst hp
  exact go_of (fun _ k => XS.ifnonnullNo (g := mkF m pc Ls (.null :: S)) X.here hx rfl (hb hby hd) rfl k) K
theorem w_acmp_eq (X : Sd l Z n0 y bytes maxL ret R p e s m args below T h cells slots) {v w : Value} (hv : v.isRef = true) (hw : w.isRef = true) {i : Int} (pt pf : Nat) (hd : decode bytes pc = .ok (.if_acmp .eq i, 3)) (ho : 0 ≤ (pc : Int) + i) (ht : ((pc : Int) + i).toNat = pt) (hf : pf = pc + 3) (kt : v = w → Go p e below G (T.setTop (mkF m pt Ls S))) (kf : ¬ v = w → Go p e below G (T.setTop (mkF m pf Ls S))) : Go p e below G (T.setTop (mkF m pc Ls (w :: v :: S))) := by
  obtain ⟨meth, c, locs, X, eT, N, hx, hby, hml, hown, hnm, hret, hlk, hZ, hn⟩ := X; subst hf ht
  by_cases q : v = w
  · exact go_of (fun _ k => Jvm.RoadKit.acmp (g := mkF m pc Ls (w :: v :: S)) X hx rfl hv hw (same := true) rfl (hb hby hd) rfl (decide_eq_true q) ho rfl k) (kt q)
  · exact go_of (fun _ k => Jvm.RoadKit.acmp (g := mkF m pc Ls (w :: v :: S)) X hx rfl hv hw (same := false) rfl (hb hby hd) rfl (decide_eq_false q) ho rfl k) (kf q)
theorem w_acmp_ne (X : Sd l Z n0 y bytes maxL ret R p e s m args below T h cells slots) {v w : Value} (hv : v.isRef = true) (hw : w.isRef = true) {i : Int} (pt pf : Nat) (hd : decode bytes pc = .ok (.if_acmp .ne i, 3)) (ho : 0 ≤ (pc : Int) + i) (ht : ((pc : Int) + i).toNat = pt) (hf : pf = pc + 3) (kt : ¬ v = w → Go p e below G (T.setTop (mkF m pt Ls S))) (kf : v = w → Go p e below G (T.setTop (mkF m pf Ls S))) : Go p e below G (T.setTop (mkF m pc Ls (w :: v :: S))) := by
  obtain ⟨meth, c, locs, X, eT, N, hx, hby, hml, hown, hnm, hret, hlk, hZ, hn⟩ := X; subst hf ht
  by_cases q : v = w
  · exact go_of (fun _ k => Jvm.RoadKit.acmp (g := mkF m pc Ls (w :: v :: S)) X hx rfl hv hw (same := true) rfl (hb hby hd) rfl (decide_eq_true q) ho rfl k) (kf q)
  · exact go_of (fun _ k => Jvm.RoadKit.acmp (g := mkF m pc Ls (w :: v :: S)) X hx rfl hv hw (same := false) rfl (hb hby hd) rfl (decide_eq_false q) ho rfl k) (kt q)
theorem w_ldc (X : Sd l Z n0 y bytes maxL ret R p e s m args below T h cells slots) {i : Nat} {v : Int32} (hd : decode bytes pc = .ok (.ldc i, 2)) (w : (Jvm.Cond.constant y.cls i v).before a0 Z = true) (hp : pc' = pc + 2) (K : Go p e below G (T.setTop (mkF m pc' Ls (.int v :: S)))) : Go p e below G (T.setTop (mkF m pc Ls S)) := by
  obtain ⟨meth, c, locs, X, eT, N, hx, hby, hml, hown, hnm, hret, hlk, hZ, hn⟩ := X; subst hp
  exact go_of (X.ldcInt hx hown (mvT hZ w) (g := mkF m pc Ls S) rfl (hb hby hd)) K
theorem w_ldc2 (X : Sd l Z n0 y bytes maxL ret R p e s m args below T h cells slots) {i : Nat} {v : Int64} (hd : decode bytes pc = .ok (.ldc2_w i, 3)) (w : (Jvm.Cond.constantLong y.cls i v).before a0 Z = true) (hp : pc' = pc + 3) (K : Go p e below G (T.setTop (mkF m pc' Ls (.long v :: S)))) : Go p e below G (T.setTop (mkF m pc Ls S)) := by
  obtain ⟨meth, c, locs, X, eT, N, hx, hby, hml, hown, hnm, hret, hlk, hZ, hn⟩ := X; subst hp
  exact go_of (X.ldc2Long hx hown (mvT hZ w) (g := mkF m pc Ls S) rfl (hb hby hd)) K
theorem w_getfield (X : Sd l Z n0 y bytes maxL ret R p e s m args below T h cells slots) {i : Nat} {R0 O n d : String} {a : Addr} {v : Value} (hd : decode bytes pc = .ok (.getfield i, 3)) {host : String} (w : (Jvm.Cond.fieldLink y.cls i R0 n d).before a0 Z = true ∨ (Jvm.Cond.fieldLinkNest y.cls i R0 n d host).before a0 Z = true) (via : Via Z R0 O n d) (F : Fld Z h a O n d v) (hp : pc' = pc + 3) (K : ∀ T', Sd l Z n0 y bytes maxL ret R p e s m args below T' h cells slots → Go p e below G (T'.setTop (mkF m (pc') Ls (v :: S)))) : Go p e below G (T.setTop (mkF m pc Ls (.ref a :: S))) := by
  obtain ⟨meth, c, locs, X, eT, N, hx, hby, hml, hown, hnm, hret, hlk, hZ, hn⟩ := X; subst hp
  obtain ⟨T', X', e', st⟩ := getF X hx hZ hown w via eT F (g := mkF m pc Ls (.ref a :: S)) rfl rfl (hb hby hd)
  exact go_of st (K T' ⟨meth, c, _, X', e', N, hx, hby, hml, hown, hnm, hret, hlk, hZ, hn⟩)
theorem w_getstatic (X : Sd l Z n0 y bytes maxL ret R p e s m args below T h cells slots) {i : Nat} {R0 O n d : String} {v : Value} (hd : decode bytes pc = .ok (.getstatic i, 3)) {host : String} (w : (Jvm.Cond.fieldLink y.cls i R0 n d).before a0 Z = true ∨ (Jvm.Cond.fieldLinkNest y.cls i R0 n d host).before a0 Z = true) (via : Via Z R0 O n d) (F : Sta Z h O n d v) (hp : pc' = pc + 3) (K : ∀ T', Sd l Z n0 y bytes maxL ret R p e s m args below T' h cells slots → Go p e below G (T'.setTop (mkF m (pc') Ls (v :: S)))) : Go p e below G (T.setTop (mkF m pc Ls S)) := by
  obtain ⟨meth, c, locs, X, eT, N, hx, hby, hml, hown, hnm, hret, hlk, hZ, hn⟩ := X; subst hp
  obtain ⟨T', X', e', st⟩ := getS2 X hx hZ hown w via eT F (g := mkF m pc Ls S) rfl (hb hby hd)
  exact go_of st (K T' ⟨meth, c, _, X', e', N, hx, hby, hml, hown, hnm, hret, hlk, hZ, hn⟩)
theorem w_putfield (X : Sd l Z n0 y bytes maxL ret R p e s m args below T h cells slots) {i kk : Nat} {R0 O n d C : String} {ty : FieldType} {a : Addr} {v old : Value} (hd : decode bytes pc = .ok (.putfield i, 3)) {host : String} (w : (Jvm.Cond.fieldLink y.cls i R0 n d).before a0 Z = true ∨ (Jvm.Cond.fieldLinkNest y.cls i R0 n d host).before a0 Z = true) (via : Via Z R0 O n d) (F : Fld Z h a O n d old) (E : Exa Z h a C) (L : (Jvm.Cond.lays C O n d).before a0 Z = true ∨ ((Jvm.Cond.laysFinal C O n d).before a0 Z = true ∧ y.cls = O ∧ y.name = "<init>")) (wi : (Jvm.Cond.instantiable C kk).before a0 Z = true) (hty : parseFieldDescriptor d = some ty) (hna : narrow ty v = v) (hfi : fits ty v = true) (hg : n0 ≤ a) (hp : pc' = pc + 3) (K : ∀ T' h', Sd l Z n0 y bytes maxL ret R p e s m args below T' h' cells slots → Wr h h' a (Jvm.RoadKit.slotOf Z O n d) v → Fld Z h' a O n d v → Go p e below G (T'.setTop (mkF m (pc') Ls S))) : Go p e below G (T.setTop (mkF m pc Ls (v :: .ref a :: S))) := by
  obtain ⟨meth, c, locs, X, eT, N, hx, hby, hml, hown, hnm, hret, hlk, hZ, hn⟩ := X; subst hp
  obtain ⟨T', h', X', e', W, st⟩ := putF X hx hZ hown w via eT F E (L.imp id fun q => ⟨q.1, q.2.1, hnm.trans q.2.2⟩) wi hty hna hfi (g := mkF m pc Ls (v :: .ref a :: S)) rfl rfl (hb hby hd)
  exact go_of st (K T' h' ⟨meth, c, _, X', e', Fr.snoc X' N hg, hx, hby, hml, hown, hnm, hret, hlk, hZ, hn⟩ W (F.same W))
theorem w_putfieldN (X : Sd l Z n0 y bytes maxL ret R p e s m args below T h cells slots) {i kk : Nat} {R0 O n d C : String} {ty : FieldType} {a : Addr} {v v' old : Value} (hd : decode bytes pc = .ok (.putfield i, 3)) (w : (Jvm.Cond.fieldLink y.cls i R0 n d).before a0 Z = true) (via : Via Z R0 O n d) (F : Fld Z h a O n d old) (E : Exa Z h a C) (L : (Jvm.Cond.lays C O n d).before a0 Z = true ∨ ((Jvm.Cond.laysFinal C O n d).before a0 Z = true ∧ y.cls = O ∧ y.name = "<init>")) (wi : (Jvm.Cond.instantiable C kk).before a0 Z = true) (hty : parseFieldDescriptor d = some ty) (hna : narrow ty v = v') (hfi : fits ty v' = true) (hg : n0 ≤ a) (hp : pc' = pc + 3) (K : ∀ T' h', Sd l Z n0 y bytes maxL ret R p e s m args below T' h' cells slots → Wr h h' a (Jvm.RoadKit.slotOf Z O n d) v' → Fld Z h' a O n d v' → Go p e below G (T'.setTop (mkF m (pc') Ls S))) : Go p e below G (T.setTop (mkF m pc Ls (v :: .ref a :: S))) := by
  obtain ⟨meth, c, locs, X, eT, N, hx, hby, hml, hown, hnm, hret, hlk, hZ, hn⟩ := X; subst hp
  obtain ⟨T', h', X', e', W, st⟩ := putFN X hx hZ hown w via eT F E (L.imp id fun q => ⟨q.1, q.2.1, hnm.trans q.2.2⟩) wi hty hna hfi (g := mkF m pc Ls (v :: .ref a :: S)) rfl rfl (hb hby hd)
  exact go_of st (K T' h' ⟨meth, c, _, X', e', Fr.snoc X' N hg, hx, hby, hml, hown, hnm, hret, hlk, hZ, hn⟩ W (F.same W))
theorem w_new (X : Sd l Z n0 y bytes maxL ret R p e s m args below T h cells slots) {i n : Nat} {C : String} (hd : decode bytes pc = .ok (.new i, 3)) (w : (Jvm.Cond.classLink y.cls i C).before a0 Z = true) (wi : (Jvm.Cond.instantiable C n).before a0 Z = true) (wz : (Jvm.Cond.initialized C).before a0 Z = true) (hc : cells + 1 ≤ R.cells) (hl : slots + n ≤ R.slots) (hp : pc' = pc + 3)
    (K : ∀ T' h' b, b = h.size → n0 ≤ b → Sd l Z n0 y bytes maxL ret R p e s m args below T' h' (cells + 1) (slots + n) → Ext h h' → Exa Z h' b C → (∀ {O nm d : String} {ty : FieldType}, Laid Z a0 C O nm d → parseFieldDescriptor d = some ty → Fld Z h' b O nm d (defaultValue ty)) → Go p e below G (T'.setTop (mkF m (pc') Ls (.ref b :: S)))) : Go p e below G (T.setTop (mkF m pc Ls S)) := by
  have hsz := sd_size X
  obtain ⟨meth, c, locs, X, eT, N, hx, hby, hml, hown, hnm, hret, hlk, hZ, hn⟩ := X; subst hp
  obtain ⟨T', h', X', e', E', A', D', -, st⟩ := newO X hx hZ hown w wi wz eT (g := mkF m pc Ls S) rfl (hb hby hd) hc hl
  exact go_of st (K T' h' _ rfl hsz ⟨meth, c, _, X', e', N, hx, hby, hml, hown, hnm, hret, hlk, hZ, hn⟩ E' A' D')
/-- an array of n places, the i-th holding f i -/
def Ary (Z : State) (h : Heap) (a : Addr) (ty : FieldType) (n : Nat) (f : Nat → Value) : Prop := ∃ c : Cell, Arr Z h a c ty ∧ c.slots.size = n ∧ n < 2 ^ 31 ∧ ∀ i, i < n → c.slots[i]? = some (f i)
def upd (f : Nat → Value) (i : Nat) (v : Value) : Nat → Value := fun j => if j = i then v else f j
theorem upd_same (f : Nat → Value) (i : Nat) (v : Value) : upd f i v i = v := if_pos rfl
theorem upd_other (f : Nat → Value) {i j : Nat} (v : Value) (q : j ≠ i) : upd f i v j = f j := if_neg q
theorem Ary.lt {a : Addr} {ty : FieldType} {n : Nat} {f : Nat → Value} (A : Ary Z h a ty n f) : a < h.size := by obtain ⟨c, A, -⟩ := A; exact A.lt
theorem Ary.ext {h' : Heap} {a : Addr} {ty : FieldType} {n : Nat} {f : Nat → Value} (A : Ary Z h a ty n f) (E : Ext h h') : Ary Z h' a ty n f := by obtain ⟨c, A, r⟩ := A; exact ⟨c, A.ext E, r⟩
theorem Ary.keep {h' : Heap} {a : Addr} {ty : FieldType} {n : Nat} {f : Nat → Value} {ws : List Addr} (A : Ary Z h a ty n f) (K : Keep h h' ws) (q : a ∉ ws) : Ary Z h' a ty n f := by obtain ⟨c, A, r⟩ := A; exact ⟨c, ⟨K.2.1 a c A.1 q, A.2⟩, r⟩
theorem Ary.other {h' : Heap} {a b : Addr} {sl : Nat} {v : Value} {ty : FieldType} {n : Nat} {f : Nat → Value} (A : Ary Z h a ty n f) (W : Wr h h' b sl v) (q : a ≠ b) : Ary Z h' a ty n f := by obtain ⟨c, A, r⟩ := A; exact ⟨c, A.other W q, r⟩
theorem Ary.congr {a : Addr} {ty : FieldType} {n : Nat} {f g : Nat → Value} (A : Ary Z h a ty n f) (q : ∀ i, i < n → f i = g i) : Ary Z h a ty n g := by obtain ⟨c, A, r1, r2, r3⟩ := A; exact ⟨c, A, r1, r2, fun i hi => by rw [r3 i hi, q i hi]⟩
theorem Ary.set {h' : Heap} {a : Addr} {ty : FieldType} {n i : Nat} {v : Value} {f : Nat → Value} (A : Ary Z h a ty n f) (W : Wr h h' a i v) (hi : i < n) : Ary Z h' a ty n (upd f i v) := by
  obtain ⟨c, A, rfl, r2, r3⟩ := A
  refine ⟨c.setSlot i v, A.same W, sz_set _ _ _, r2, fun j hj => ?_⟩
  by_cases q : j = i
  · subst q; simp [Cell.setSlot, hj, upd]
  · rw [upd_other f v q, ← r3 j hj]; exact Array.getElem?_setIfInBounds_ne (Ne.symm q)
theorem nat_at {j : Int32} {i : Nat} (hj : j.toInt = (i : Int)) : j.toNatClampNeg = i ∧ ¬ j < 0 := by
  constructor
  · simp only [Int32.toNatClampNeg, hj]; omega
  · simp only [Int32.lt_iff_toInt_lt, Int32.reduceToInt, hj]; omega
theorem in_at {j : Int32} {i n : Nat} {c : Cell} (hj : j.toInt = (i : Int)) (hn : c.slots.size = n) (hi : i < n) : ¬ (j < 0 ∨ c.slots.size ≤ j.toNatClampNeg) := by
  obtain ⟨q1, q2⟩ := nat_at hj
  rw [q1]; rintro (q | q)
  · exact q2 q
  · omega
theorem w_arraylength (X : Sd l Z n0 y bytes maxL ret R p e s m args below T h cells slots) {a : Addr} {ty : FieldType} {n : Nat} {f : Nat → Value} (z : Int32) (hd : decode bytes pc = .ok (.arraylength, 1)) (A : Ary Z h a ty n f) (hz : z.toInt = (n : Int)) (hp : pc' = pc + 1) (K : Go p e below G (T.setTop (mkF m pc' Ls (.int z :: S)))) : Go p e below G (T.setTop (mkF m pc Ls (.ref a :: S))) := by
  obtain ⟨meth, c, locs, X, eT, N, hx, hby, hml, hown, hnm, hret, hlk, hZ, hn⟩ := X; subst hp
  obtain ⟨cl, A, r1, r2, -⟩ := A
  have ez : cl.slots.size.toInt32 = z := Int32.toInt_inj.mp (by rw [r1, len_toInt r2, hz])
  exact go_of (fun t k => X.arraylength hx (by rw [eT]; exact A.1) (State.isArrayOf_alike hZ.alike A.2.1) (g := mkF m pc Ls (.ref a :: S)) rfl rfl (hb hby hd) t (by rw [ez]; exact k)) K
theorem w_iaload (X : Sd l Z n0 y bytes maxL ret R p e s m args below T h cells slots) {a : Addr} {n : Nat} {f : Nat → Value} {j : Int32} (i : Nat) {v : Value} (hd : decode bytes pc = .ok (.iaload, 1)) (A : Ary Z h a .int n f) (hj : j.toInt = (i : Int)) (hi : i < n) (hv : f i = v) (hp : pc' = pc + 1) (K : Go p e below G (T.setTop (mkF m pc' Ls (v :: S)))) : Go p e below G (T.setTop (mkF m pc Ls (.int j :: .ref a :: S))) := by
  obtain ⟨meth, c, locs, X, eT, N, hx, hby, hml, hown, hnm, hret, hlk, hZ, hn⟩ := X; subst hp
  obtain ⟨cl, A, r1, r2, r3⟩ := A
  exact go_of (fun t k => X.iaload hx (j := j) (v := v) (by rw [eT]; exact A.1) (State.isArrayOf_alike hZ.alike A.2.1) A.2.2 (in_at hj r1 hi) (by rw [(nat_at hj).1, r3 i hi, hv]) (g := mkF m pc Ls (.int j :: .ref a :: S)) rfl rfl (hb hby hd) t k) K
theorem w_laload (X : Sd l Z n0 y bytes maxL ret R p e s m args below T h cells slots) {a : Addr} {n : Nat} {f : Nat → Value} {j : Int32} (i : Nat) {v : Value} (hd : decode bytes pc = .ok (.laload, 1)) (A : Ary Z h a .long n f) (hj : j.toInt = (i : Int)) (hi : i < n) (hv : f i = v) (hp : pc' = pc + 1) (K : Go p e below G (T.setTop (mkF m pc' Ls (v :: S)))) : Go p e below G (T.setTop (mkF m pc Ls (.int j :: .ref a :: S))) := by
  obtain ⟨meth, c, locs, X, eT, N, hx, hby, hml, hown, hnm, hret, hlk, hZ, hn⟩ := X; subst hp
  obtain ⟨cl, A, r1, r2, r3⟩ := A
  exact go_of (fun t k => X.laload hx (j := j) (v := v) (by rw [eT]; exact A.1) (State.isArrayOf_alike hZ.alike A.2.1) A.2.2 (in_at hj r1 hi) (by rw [(nat_at hj).1, r3 i hi, hv]) (g := mkF m pc Ls (.int j :: .ref a :: S)) rfl rfl (hb hby hd) t k) K
theorem w_caload (X : Sd l Z n0 y bytes maxL ret R p e s m args below T h cells slots) {a : Addr} {n : Nat} {f : Nat → Value} {j : Int32} (i : Nat) {v : Value} (hd : decode bytes pc = .ok (.caload, 1)) (A : Ary Z h a .char n f) (hj : j.toInt = (i : Int)) (hi : i < n) (hv : f i = v) (hp : pc' = pc + 1) (K : Go p e below G (T.setTop (mkF m pc' Ls (v :: S)))) : Go p e below G (T.setTop (mkF m pc Ls (.int j :: .ref a :: S))) := by
  obtain ⟨meth, c, locs, X, eT, N, hx, hby, hml, hown, hnm, hret, hlk, hZ, hn⟩ := X; subst hp
  obtain ⟨cl, A, r1, r2, r3⟩ := A
  exact go_of (fun t k => X.caload hx (j := j) (v := v) (by rw [eT]; exact A.1) (State.isArrayOf_alike hZ.alike A.2.1) A.2.2 (in_at hj r1 hi) (by rw [(nat_at hj).1, r3 i hi, hv]) (g := mkF m pc Ls (.int j :: .ref a :: S)) rfl rfl (hb hby hd) t k) K
theorem w_baload (X : Sd l Z n0 y bytes maxL ret R p e s m args below T h cells slots) {a : Addr} {n : Nat} {f : Nat → Value} {j : Int32} (i : Nat) {v : Value} (hd : decode bytes pc = .ok (.baload, 1)) (A : Ary Z h a .byte n f) (hj : j.toInt = (i : Int)) (hi : i < n) (hv : f i = v) (hp : pc' = pc + 1) (K : Go p e below G (T.setTop (mkF m pc' Ls (v :: S)))) : Go p e below G (T.setTop (mkF m pc Ls (.int j :: .ref a :: S))) := by
  obtain ⟨meth, c, locs, X, eT, N, hx, hby, hml, hown, hnm, hret, hlk, hZ, hn⟩ := X; subst hp
  obtain ⟨cl, A, r1, r2, r3⟩ := A
  exact go_of (fun t k => X.baloadBytes hx (j := j) (v := v) (by rw [eT]; exact A.1) (State.isArrayOf_alike hZ.alike A.2.1) A.2.2 (in_at hj r1 hi) (by rw [(nat_at hj).1, r3 i hi, hv]) (g := mkF m pc Ls (.int j :: .ref a :: S)) rfl rfl (hb hby hd) t k) K
theorem w_zaload (X : Sd l Z n0 y bytes maxL ret R p e s m args below T h cells slots) {a : Addr} {n : Nat} {f : Nat → Value} {j : Int32} (i : Nat) {v : Value} (hd : decode bytes pc = .ok (.baload, 1)) (A : Ary Z h a .boolean n f) (hj : j.toInt = (i : Int)) (hi : i < n) (hv : f i = v) (hp : pc' = pc + 1) (K : Go p e below G (T.setTop (mkF m pc' Ls (v :: S)))) : Go p e below G (T.setTop (mkF m pc Ls (.int j :: .ref a :: S))) := by
  obtain ⟨meth, c, locs, X, eT, N, hx, hby, hml, hown, hnm, hret, hlk, hZ, hn⟩ := X; subst hp
  obtain ⟨cl, A, r1, r2, r3⟩ := A
  exact go_of (fun t k => X.baloadBooleans hx (j := j) (v := v) (by rw [eT]; exact A.1) (State.isArrayOf_alike hZ.alike A.2.1) A.2.2 (in_at hj r1 hi) (by rw [(nat_at hj).1, r3 i hi, hv]) (g := mkF m pc Ls (.int j :: .ref a :: S)) rfl rfl (hb hby hd) t k) K
theorem w_aaload (X : Sd l Z n0 y bytes maxL ret R p e s m args below T h cells slots) {a : Addr} {ty : FieldType} {n : Nat} {f : Nat → Value} {j : Int32} (i : Nat) {v : Value} (hd : decode bytes pc = .ok (.aaload, 1)) (A : Ary Z h a ty n f) (hty : ty.isReference = true) (hj : j.toInt = (i : Int)) (hi : i < n) (hv : f i = v) (hp : pc' = pc + 1) (K : Go p e below G (T.setTop (mkF m pc' Ls (v :: S)))) : Go p e below G (T.setTop (mkF m pc Ls (.int j :: .ref a :: S))) := by
  obtain ⟨meth, c, locs, X, eT, N, hx, hby, hml, hown, hnm, hret, hlk, hZ, hn⟩ := X; subst hp
  obtain ⟨cl, A, r1, r2, r3⟩ := A
  exact go_of (fun t k => X.aaload hx (j := j) (v := v) (by rw [eT]; exact A.1) (State.isArrayOf_alike hZ.alike A.2.1) hty A.2.2 (in_at hj r1 hi) (by rw [(nat_at hj).1, r3 i hi, hv]) (g := mkF m pc Ls (.int j :: .ref a :: S)) rfl rfl (hb hby hd) t k) K
theorem w_iastore (X : Sd l Z n0 y bytes maxL ret R p e s m args below T h cells slots) {a : Addr} {n : Nat} {f : Nat → Value} {j : Int32} (i : Nat) {v : Int32} (hd : decode bytes pc = .ok (.iastore, 1)) (A : Ary Z h a .int n f) (hj : j.toInt = (i : Int)) (hi : i < n) (hg : n0 ≤ a) (hp : pc' = pc + 1) (K : ∀ T' h', Sd l Z n0 y bytes maxL ret R p e s m args below T' h' cells slots → Wr h h' a i (.int v) → Ary Z h' a .int n (upd f i (.int v)) → Go p e below G (T'.setTop (mkF m (pc') Ls S))) : Go p e below G (T.setTop (mkF m pc Ls (.int v :: .int j :: .ref a :: S))) := by
  obtain ⟨meth, c, locs, X, eT, N, hx, hby, hml, hown, hnm, hret, hlk, hZ, hn⟩ := X; subst hp
  have A0 := A
  obtain ⟨cl, A, r1, r2, r3⟩ := A
  obtain ⟨T', h', X', e', W, st⟩ := stI X hx hZ eT A (j := j) (in_at hj r1 hi) (g := mkF m pc Ls (.int v :: .int j :: .ref a :: S)) rfl rfl (hb hby hd)
  rw [(nat_at hj).1] at W X'
  exact go_of st (K T' h' ⟨meth, c, _, X', e', Fr.snoc X' N hg, hx, hby, hml, hown, hnm, hret, hlk, hZ, hn⟩ W (A0.set W hi))
theorem w_lastore (X : Sd l Z n0 y bytes maxL ret R p e s m args below T h cells slots) {a : Addr} {n : Nat} {f : Nat → Value} {j : Int32} (i : Nat) {v : Int64} (hd : decode bytes pc = .ok (.lastore, 1)) (A : Ary Z h a .long n f) (hj : j.toInt = (i : Int)) (hi : i < n) (hg : n0 ≤ a) (hp : pc' = pc + 1) (K : ∀ T' h', Sd l Z n0 y bytes maxL ret R p e s m args below T' h' cells slots → Wr h h' a i (.long v) → Ary Z h' a .long n (upd f i (.long v)) → Go p e below G (T'.setTop (mkF m (pc') Ls S))) : Go p e below G (T.setTop (mkF m pc Ls (.long v :: .int j :: .ref a :: S))) := by
  obtain ⟨meth, c, locs, X, eT, N, hx, hby, hml, hown, hnm, hret, hlk, hZ, hn⟩ := X; subst hp
  have A0 := A
  obtain ⟨cl, A, r1, r2, r3⟩ := A
  obtain ⟨T', h', X', e', W, st⟩ := stJ X hx hZ eT A (j := j) (in_at hj r1 hi) (g := mkF m pc Ls (.long v :: .int j :: .ref a :: S)) rfl rfl (hb hby hd)
  rw [(nat_at hj).1] at W X'
  exact go_of st (K T' h' ⟨meth, c, _, X', e', Fr.snoc X' N hg, hx, hby, hml, hown, hnm, hret, hlk, hZ, hn⟩ W (A0.set W hi))
theorem w_castore (X : Sd l Z n0 y bytes maxL ret R p e s m args below T h cells slots) {a : Addr} {n : Nat} {f : Nat → Value} {j : Int32} (i : Nat) {v : Int32} (hd : decode bytes pc = .ok (.castore, 1)) (A : Ary Z h a .char n f) (hj : j.toInt = (i : Int)) (hi : i < n) (hg : n0 ≤ a) (hp : pc' = pc + 1) (K : ∀ T' h', Sd l Z n0 y bytes maxL ret R p e s m args below T' h' cells slots → Wr h h' a i (.int (nar .char v)) → Ary Z h' a .char n (upd f i (.int (nar .char v))) → Go p e below G (T'.setTop (mkF m (pc') Ls S))) : Go p e below G (T.setTop (mkF m pc Ls (.int v :: .int j :: .ref a :: S))) := by
  obtain ⟨meth, c, locs, X, eT, N, hx, hby, hml, hown, hnm, hret, hlk, hZ, hn⟩ := X; subst hp
  have A0 := A
  obtain ⟨cl, A, r1, r2, r3⟩ := A
  obtain ⟨T', h', X', e', W, st⟩ := stC X hx hZ eT A (j := j) (in_at hj r1 hi) (g := mkF m pc Ls (.int v :: .int j :: .ref a :: S)) rfl rfl (hb hby hd)
  rw [(nat_at hj).1] at W X'
  exact go_of st (K T' h' ⟨meth, c, _, X', e', Fr.snoc X' N hg, hx, hby, hml, hown, hnm, hret, hlk, hZ, hn⟩ W (A0.set W hi))
theorem w_bastore (X : Sd l Z n0 y bytes maxL ret R p e s m args below T h cells slots) {a : Addr} {n : Nat} {f : Nat → Value} {j : Int32} (i : Nat) {v : Int32} (hd : decode bytes pc = .ok (.bastore, 1)) (A : Ary Z h a .byte n f) (hj : j.toInt = (i : Int)) (hi : i < n) (hg : n0 ≤ a) (hp : pc' = pc + 1) (K : ∀ T' h', Sd l Z n0 y bytes maxL ret R p e s m args below T' h' cells slots → Wr h h' a i (.int (nar .byte v)) → Ary Z h' a .byte n (upd f i (.int (nar .byte v))) → Go p e below G (T'.setTop (mkF m (pc') Ls S))) : Go p e below G (T.setTop (mkF m pc Ls (.int v :: .int j :: .ref a :: S))) := by
  obtain ⟨meth, c, locs, X, eT, N, hx, hby, hml, hown, hnm, hret, hlk, hZ, hn⟩ := X; subst hp
  have A0 := A
  obtain ⟨cl, A, r1, r2, r3⟩ := A
  obtain ⟨T', h', X', e', W, st⟩ := stB X hx hZ eT A (j := j) (in_at hj r1 hi) (g := mkF m pc Ls (.int v :: .int j :: .ref a :: S)) rfl rfl (hb hby hd)
  rw [(nat_at hj).1] at W X'
  exact go_of st (K T' h' ⟨meth, c, _, X', e', Fr.snoc X' N hg, hx, hby, hml, hown, hnm, hret, hlk, hZ, hn⟩ W (A0.set W hi))
theorem w_zastore (X : Sd l Z n0 y bytes maxL ret R p e s m args below T h cells slots) {a : Addr} {n : Nat} {f : Nat → Value} {j : Int32} (i : Nat) {v : Int32} (hd : decode bytes pc = .ok (.bastore, 1)) (A : Ary Z h a .boolean n f) (hj : j.toInt = (i : Int)) (hi : i < n) (hg : n0 ≤ a) (hp : pc' = pc + 1) (K : ∀ T' h', Sd l Z n0 y bytes maxL ret R p e s m args below T' h' cells slots → Wr h h' a i (.int (nar .boolean v)) → Ary Z h' a .boolean n (upd f i (.int (nar .boolean v))) → Go p e below G (T'.setTop (mkF m (pc') Ls S))) : Go p e below G (T.setTop (mkF m pc Ls (.int v :: .int j :: .ref a :: S))) := by
  obtain ⟨meth, c, locs, X, eT, N, hx, hby, hml, hown, hnm, hret, hlk, hZ, hn⟩ := X; subst hp
  have A0 := A
  obtain ⟨cl, A, r1, r2, r3⟩ := A
  obtain ⟨T', h', X', e', W, st⟩ := stZ X hx hZ eT A (j := j) (in_at hj r1 hi) (g := mkF m pc Ls (.int v :: .int j :: .ref a :: S)) rfl rfl (hb hby hd)
  rw [(nat_at hj).1] at W X'
  exact go_of st (K T' h' ⟨meth, c, _, X', e', Fr.snoc X' N hg, hx, hby, hml, hown, hnm, hret, hlk, hZ, hn⟩ W (A0.set W hi))
theorem w_aastore (X : Sd l Z n0 y bytes maxL ret R p e s m args below T h cells slots) {a : Addr} {ty : FieldType} {n : Nat} {f : Nat → Value} {j : Int32} (i : Nat) {v : Value} (hd : decode bytes pc = .ok (.aastore, 1)) (A : Ary Z h a ty n f) (hty : ty.isReference = true) (F : Sto Z h a v) (hj : j.toInt = (i : Int)) (hi : i < n) (hg : n0 ≤ a) (hp : pc' = pc + 1) (K : ∀ T' h', Sd l Z n0 y bytes maxL ret R p e s m args below T' h' cells slots → Wr h h' a i v → Ary Z h' a ty n (upd f i v) → Go p e below G (T'.setTop (mkF m (pc') Ls S))) : Go p e below G (T.setTop (mkF m pc Ls (v :: .int j :: .ref a :: S))) := by
  obtain ⟨meth, c, locs, X, eT, N, hx, hby, hml, hown, hnm, hret, hlk, hZ, hn⟩ := X; subst hp
  have A0 := A
  obtain ⟨cl, A, r1, r2, r3⟩ := A
  obtain ⟨T', h', X', e', W, st⟩ := stR X hx hZ eT A (j := j) (in_at hj r1 hi) hty F (g := mkF m pc Ls (v :: .int j :: .ref a :: S)) rfl rfl (hb hby hd)
  rw [(nat_at hj).1] at W X'
  exact go_of st (K T' h' ⟨meth, c, _, X', e', Fr.snoc X' N hg, hx, hby, hml, hown, hnm, hret, hlk, hZ, hn⟩ W (A0.set W hi))
theorem w_newarray (X : Sd l Z n0 y bytes maxL ret R p e s m args below T h cells slots) {aty : ArrayType} {z : Int32} (n cap : Nat) (hd : decode bytes pc = .ok (.newarray aty, 2)) (w : (Jvm.Cond.arrayClass (newarray.typeOf aty)).before a0 Z = true) (hz : z.toInt = (n : Int)) (hcap : n ≤ cap) (hb8 : cap * 8 ≤ 536870912) (hc : cells + 1 ≤ R.cells) (hl : slots + cap ≤ R.slots) (hp : pc' = pc + 2)
    (K : ∀ T' h' b, b = h.size → n0 ≤ b → Sd l Z n0 y bytes maxL ret R p e s m args below T' h' (cells + 1) (slots + cap) → Ext h h' → Ary Z h' b (newarray.typeOf aty) n (fun _ => defaultValue (newarray.typeOf aty)) → Go p e below G (T'.setTop (mkF m (pc') Ls (.ref b :: S)))) : Go p e below G (T.setTop (mkF m pc Ls (.int z :: S))) := by
  have hsz := sd_size X
  obtain ⟨meth, c, locs, X, eT, N, hx, hby, hml, hown, hnm, hret, hlk, hZ, hn⟩ := X; subst hp
  obtain ⟨q1, q2⟩ := nat_at hz
  obtain ⟨T', h', cA, X', e', E', A', st⟩ := newP X hx hZ w eT (g := mkF m pc Ls (.int z :: S)) rfl (hb hby hd) rfl q2 (cap := cap) (by rw [q1]; exact hcap) hb8 hc hl
  refine go_of st (K T' h' _ rfl hsz ⟨meth, c, _, X', e', N, hx, hby, hml, hown, hnm, hret, hlk, hZ, hn⟩ E' ⟨_, A', (sz_new _ _ _).trans q1, by rw [← q1]; exact (back32 q2).2, fun i hi => ?_⟩)
  simp [newA, q1, hi]
theorem w_anewarray (X : Sd l Z n0 y bytes maxL ret R p e s m args below T h cells slots) {i : Nat} {C : String} {z : Int32} (n cap : Nat) (hd : decode bytes pc = .ok (.anewarray i, 3)) (w1 : (Jvm.Cond.classLink y.cls i C).before a0 Z = true) (w2 : (Jvm.Cond.arrayOver (.object C)).before a0 Z = true) (hz : z.toInt = (n : Int)) (hcap : n ≤ cap) (hb8 : cap * 8 ≤ 536870912) (hc : cells + 1 ≤ R.cells) (hl : slots + cap ≤ R.slots) (hp : pc' = pc + 3)
    (K : ∀ T' h' b, b = h.size → n0 ≤ b → Sd l Z n0 y bytes maxL ret R p e s m args below T' h' (cells + 1) (slots + cap) → Ext h h' → (∃ cl, Arr Z h' b cl (.object C) ∧ Ovr Z cl.cls C) → Ary Z h' b (.object C) n (fun _ => .null) → Go p e below G (T'.setTop (mkF m (pc') Ls (.ref b :: S)))) : Go p e below G (T.setTop (mkF m pc Ls (.int z :: S))) := by
  have hsz := sd_size X
  obtain ⟨meth, c, locs, X, eT, N, hx, hby, hml, hown, hnm, hret, hlk, hZ, hn⟩ := X; subst hp
  obtain ⟨q1, q2⟩ := nat_at hz
  obtain ⟨T', h', cA, X', e', E', A', O', st⟩ := newR X hx hZ hown w1 w2 eT (g := mkF m pc Ls (.int z :: S)) rfl (hb hby hd) rfl q2 (cap := cap) (by rw [q1]; exact hcap) hb8 hc hl
  refine go_of st (K T' h' _ rfl hsz ⟨meth, c, _, X', e', N, hx, hby, hml, hown, hnm, hret, hlk, hZ, hn⟩ E' ⟨_, A', O'⟩ ⟨_, A', (sz_new _ _ _).trans q1, by rw [← q1]; exact (back32 q2).2, fun i hi => ?_⟩)
  simp [newA, q1, hi, defaultValue]
theorem w_join {p : Program} {e : Env} {below : List Frame} {G : State → Prop} {t : State} {α : Type} (P : α → Prop) (st : α → State) (J : ∀ x, P x → Go p e below G (st x)) (K : (∀ x, P x → Go p e below G (st x)) → Go p e below G t) : Go p e below G t := K J
theorem w_staticV (X : Sd l Z n0 y bytes maxL ret R p e s m args below T h cells slots) {i : Nat} {y' : MethodName} {bytes' : ByteArray} {maxL' : Nat} {ret' : Option FieldType} {rm : Room} {as' : Array Value} {Q : Value → Heap → Prop} (hd : decode bytes pc = .ok (.invokestatic i, 3)) (hM : Con l Z n0 y' bytes' maxL' ret' rm as' h (Val Q)) (w1 : (Jvm.Cond.methodLink y.cls i y').before a0 Z = true) (w2 : (Jvm.Cond.static y').before a0 Z = true) (w3 : (Jvm.Cond.initialized y'.cls).before a0 Z = true) (w4 : (Jvm.Cond.code y' bytes' maxL' ret').before a0 Z = true) (hy : y'.cls ≠ "java/lang/invoke/MethodHandle" ∧ y'.cls ≠ "java/lang/invoke/VarHandle") (argsL rest : List Value) {ps : List FieldType} {r' : Option FieldType} (hlen : parseMethodDescriptor y'.desc = some ⟨ps, r'⟩) (hl : argsL.length = ps.length) (has : argsL.toArray = as') (hst : S = argsL.reverse ++ rest) (hsz : Ls.size = maxL) (W : Nat) (hW : (rest.map fun v => v.category).sum ≤ W) (hf : rm.frames + 1 ≤ R.frames) (hlo : W + (maxL' + 11) + rm.locals ≤ R.locals) (hc : cells + rm.cells ≤ R.cells) (hs : slots + rm.slots ≤ R.slots) (hp : pc' = pc + 3)
    (K : ∀ T' h' v, Sd l Z n0 y bytes maxL ret R p e s m args below T' h' (cells + rm.cells) (slots + rm.slots) → Q v h' → Go p e below G (T'.setTop (mkF m (pc') Ls (v :: rest)))) : Go p e below G (T.setTop (mkF m pc Ls S)) := by
  obtain ⟨meth, c, locs, X, eT, N, hx, hby, hml, hown, hnm, hret, hlk, hZ, hn⟩ := X; subst hp hst has
  obtain ⟨v, _, ⟨T', L', k', n'⟩, -, X', ⟨Lc, ⟨N', hQ⟩, lq, yq, zq⟩, st⟩ := Jvm.LawKit.callS X hx (y := y') hown (mvT hZ w1) (mvT hZ w2) (mvT hZ w3) (mvT hZ w4) hy (backOf (W := W) (Q := fun v h L => Fr n0 L ∧ Val Q v h) (hM []) hZ w4 w3 hf hlo) (g := mkF m pc Ls (argsL.reverse ++ rest)) rfl (by rw [hml]; exact hsz) (argsL := argsL) (rest := rest) (lenOf hlen hl) rfl (by show 2 * 0 + _ ≤ _; omega) (hb hby hd) (fun _ _ => ⟨rfl, eT, hc, hs⟩)
  dsimp only [Pt.U, Pt.locs, Pt.cells, Pt.slots] at X' lq yq zq st hQ
  subst lq yq zq
  obtain ⟨v, rfl, hQ⟩ := hQ
  exact go_of st (K T' _ v ⟨meth, c, _, X', rfl, Fr.app N N', hx, hby, hml, hown, hnm, hret, hlk, hZ, hn⟩ hQ)
theorem w_staticN (X : Sd l Z n0 y bytes maxL ret R p e s m args below T h cells slots) {i : Nat} {y' : MethodName} {bytes' : ByteArray} {maxL' : Nat} {ret' : Option FieldType} {rm : Room} {as' : Array Value} {Q : Heap → Prop} (hd : decode bytes pc = .ok (.invokestatic i, 3)) (hM : Con l Z n0 y' bytes' maxL' ret' rm as' h (Non Q)) (w1 : (Jvm.Cond.methodLink y.cls i y').before a0 Z = true) (w2 : (Jvm.Cond.static y').before a0 Z = true) (w3 : (Jvm.Cond.initialized y'.cls).before a0 Z = true) (w4 : (Jvm.Cond.code y' bytes' maxL' ret').before a0 Z = true) (hy : y'.cls ≠ "java/lang/invoke/MethodHandle" ∧ y'.cls ≠ "java/lang/invoke/VarHandle") (argsL rest : List Value) {ps : List FieldType} {r' : Option FieldType} (hlen : parseMethodDescriptor y'.desc = some ⟨ps, r'⟩) (hl : argsL.length = ps.length) (has : argsL.toArray = as') (hst : S = argsL.reverse ++ rest) (hsz : Ls.size = maxL) (W : Nat) (hW : (rest.map fun v => v.category).sum ≤ W) (hf : rm.frames + 1 ≤ R.frames) (hlo : W + (maxL' + 11) + rm.locals ≤ R.locals) (hc : cells + rm.cells ≤ R.cells) (hs : slots + rm.slots ≤ R.slots) (hp : pc' = pc + 3)
    (K : ∀ T' h', Sd l Z n0 y bytes maxL ret R p e s m args below T' h' (cells + rm.cells) (slots + rm.slots) → Q h' → Go p e below G (T'.setTop (mkF m (pc') Ls rest))) : Go p e below G (T.setTop (mkF m pc Ls S)) := by
  obtain ⟨meth, c, locs, X, eT, N, hx, hby, hml, hown, hnm, hret, hlk, hZ, hn⟩ := X; subst hp hst has
  obtain ⟨v, _, ⟨T', L', k', n'⟩, -, X', ⟨Lc, ⟨N', hQ⟩, lq, yq, zq⟩, st⟩ := Jvm.LawKit.callS X hx (y := y') hown (mvT hZ w1) (mvT hZ w2) (mvT hZ w3) (mvT hZ w4) hy (backOf (W := W) (Q := fun v h L => Fr n0 L ∧ Non Q v h) (hM []) hZ w4 w3 hf hlo) (g := mkF m pc Ls (argsL.reverse ++ rest)) rfl (by rw [hml]; exact hsz) (argsL := argsL) (rest := rest) (lenOf hlen hl) rfl (by show 2 * 0 + _ ≤ _; omega) (hb hby hd) (fun _ _ => ⟨rfl, eT, hc, hs⟩)
  dsimp only [Pt.U, Pt.locs, Pt.cells, Pt.slots] at X' lq yq zq st hQ
  subst lq yq zq
  obtain ⟨rfl, hQ⟩ := hQ
  exact go_of st (K T' _ ⟨meth, c, _, X', rfl, Fr.app N N', hx, hby, hml, hown, hnm, hret, hlk, hZ, hn⟩ hQ)
theorem w_specialN (X : Sd l Z n0 y bytes maxL ret R p e s m args below T h cells slots) {i : Nat} {y' : MethodName} {bytes' : ByteArray} {maxL' : Nat} {rm : Room} {as' : Array Value} {Q : Heap → Prop} {a : Addr} (hd : decode bytes pc = .ok (.invokespecial i, 3)) (hM : Con l Z n0 y' bytes' maxL' none rm as' h (Non Q)) (w1 : (Jvm.Cond.methodLink y.cls i y').before a0 Z = true) (w2 : (Jvm.Cond.instanceMethod y').before a0 Z = true) (w3 : (Jvm.Cond.initialized y'.cls).before a0 Z = true) (w4 : (Jvm.Cond.code y' bytes' maxL' none).before a0 Z = true) (hin : y'.name = "<init>") (hy : y'.cls ≠ "java/lang/invoke/MethodHandle" ∧ y'.cls ≠ "java/lang/invoke/VarHandle") (argsL rest : List Value) {ps : List FieldType} {r' : Option FieldType} (hlen : parseMethodDescriptor y'.desc = some ⟨ps, r'⟩) (hl : argsL.length = ps.length) (has : (.ref a :: argsL).toArray = as') (hst : S = argsL.reverse ++ .ref a :: rest) (hsz : Ls.size = maxL) (W : Nat) (hW : (rest.map fun v => v.category).sum ≤ W) (hf : rm.frames + 1 ≤ R.frames) (hlo : W + (maxL' + 11) + rm.locals ≤ R.locals) (hc : cells + rm.cells ≤ R.cells) (hs : slots + rm.slots ≤ R.slots) (hp : pc' = pc + 3)
    (K : ∀ T' h', Sd l Z n0 y bytes maxL ret R p e s m args below T' h' (cells + rm.cells) (slots + rm.slots) → Q h' → Go p e below G (T'.setTop (mkF m (pc') Ls rest))) : Go p e below G (T.setTop (mkF m pc Ls S)) := by
  obtain ⟨meth, c, locs, X, eT, N, hx, hby, hml, hown, hnm, hret, hlk, hZ, hn⟩ := X; subst hp hst has
  obtain ⟨v, _, ⟨T', L', k', n'⟩, -, X', ⟨Lc, ⟨N', hQ⟩, lq, yq, zq⟩, st⟩ := X.specialBack hx (y := y') hin hown (mvT hZ w1) (mvT hZ w2) (mvT hZ w4) hy (backOf (W := W) (Q := fun v h L => Fr n0 L ∧ Non Q v h) (hM []) hZ w4 w3 hf hlo) (g := mkF m pc Ls (argsL.reverse ++ .ref a :: rest)) rfl (by rw [hml]; exact hsz) (Steps.refl _) (a := a) (argsL := argsL) (rest := rest) (lenOf hlen hl) rfl (by show 2 * 0 + _ ≤ _; omega) (hb hby hd) (fun _ _ => ⟨rfl, eT, hc, hs⟩)
  dsimp only [Pt.U, Pt.locs, Pt.cells, Pt.slots] at X' lq yq zq st hQ
  subst lq yq zq
  obtain ⟨rfl, hQ⟩ := hQ
  exact go_of (fun _ k => st.trans k) (K T' _ ⟨meth, c, _, X', rfl, Fr.app N N', hx, hby, hml, hown, hnm, hret, hlk, hZ, hn⟩ hQ)
theorem w_virtualV (X : Sd l Z n0 y bytes maxL ret R p e s m args below T h cells slots) {i : Nat} {y' : MethodName} {bytes' : ByteArray} {maxL' : Nat} {ret' : Option FieldType} {rm : Room} {as' : Array Value} {Q : Value → Heap → Prop} {a : Addr} {C : String} (hd : decode bytes pc = .ok (.invokevirtual i, 3)) (hM : Con l Z n0 y' bytes' maxL' ret' rm as' h (Val Q)) (w1 : (Jvm.Cond.methodLink y.cls i y').before a0 Z = true) (w2 : (Jvm.Cond.declares y').before a0 Z = true) (w5 : (Jvm.Cond.selects C y' y').before a0 Z = true) (w6 : (Jvm.Cond.instanceMethod y').before a0 Z = true) (w3 : (Jvm.Cond.initialized y'.cls).before a0 Z = true) (w4 : (Jvm.Cond.code y' bytes' maxL' ret').before a0 Z = true) (Er : Exa Z h a C) (hy : y'.cls ≠ "java/lang/invoke/MethodHandle" ∧ y'.cls ≠ "java/lang/invoke/VarHandle") (argsL rest : List Value) {ps : List FieldType} {r' : Option FieldType} (hlen : parseMethodDescriptor y'.desc = some ⟨ps, r'⟩) (hl : argsL.length = ps.length) (has : (.ref a :: argsL).toArray = as') (hst : S = argsL.reverse ++ .ref a :: rest) (hsz : Ls.size = maxL) (W : Nat) (hW : (rest.map fun v => v.category).sum ≤ W) (hf : rm.frames + 1 ≤ R.frames) (hlo : W + (maxL' + 11) + rm.locals ≤ R.locals) (hc : cells + rm.cells ≤ R.cells) (hs : slots + rm.slots ≤ R.slots) (hp : pc' = pc + 3)
    (K : ∀ T' h' v, Sd l Z n0 y bytes maxL ret R p e s m args below T' h' (cells + rm.cells) (slots + rm.slots) → Q v h' → Go p e below G (T'.setTop (mkF m (pc') Ls (v :: rest)))) : Go p e below G (T.setTop (mkF m pc Ls S)) := by
  obtain ⟨meth, c, locs, X, eT, N, hx, hby, hml, hown, hnm, hret, hlk, hZ, hn⟩ := X; subst hp hst has
  obtain ⟨cq, kq, qa, qb, qc⟩ := isOf hZ eT Er
  obtain ⟨v, _, ⟨T', L', k', n'⟩, -, X', ⟨Lc, ⟨N', hQ⟩, lq, yq, zq⟩, st⟩ := X.virtualBack hx (y := y') (z := y') hown (mvT hZ w1) (mvT hZ w2) (notFace_of_selects (args := #[]) (mvT hZ w5)) (mvT hZ w5) (mvT hZ w6) hy (backOf (W := W) (Q := fun v h L => Fr n0 L ∧ Val Q v h) (hM []) hZ w4 w3 hf hlo) qa qc (g := mkF m pc Ls (argsL.reverse ++ .ref a :: rest)) rfl (by rw [hml]; exact hsz) (Steps.refl _) (argsL := argsL) (rest := rest) (lenOf hlen hl) rfl (by show 2 * 0 + _ ≤ _; omega) (hb hby hd) (fun _ _ => ⟨rfl, eT, hc, hs⟩)
  dsimp only [Pt.U, Pt.locs, Pt.cells, Pt.slots] at X' lq yq zq st hQ
  subst lq yq zq
  obtain ⟨v, rfl, hQ⟩ := hQ
  exact go_of (fun _ k => st.trans k) (K T' _ v ⟨meth, c, _, X', rfl, Fr.app N N', hx, hby, hml, hown, hnm, hret, hlk, hZ, hn⟩ hQ)
theorem w_virtualN (X : Sd l Z n0 y bytes maxL ret R p e s m args below T h cells slots) {i : Nat} {y' : MethodName} {bytes' : ByteArray} {maxL' : Nat} {ret' : Option FieldType} {rm : Room} {as' : Array Value} {Q : Heap → Prop} {a : Addr} {C : String} (hd : decode bytes pc = .ok (.invokevirtual i, 3)) (hM : Con l Z n0 y' bytes' maxL' ret' rm as' h (Non Q)) (w1 : (Jvm.Cond.methodLink y.cls i y').before a0 Z = true) (w2 : (Jvm.Cond.declares y').before a0 Z = true) (w5 : (Jvm.Cond.selects C y' y').before a0 Z = true) (w6 : (Jvm.Cond.instanceMethod y').before a0 Z = true) (w3 : (Jvm.Cond.initialized y'.cls).before a0 Z = true) (w4 : (Jvm.Cond.code y' bytes' maxL' ret').before a0 Z = true) (Er : Exa Z h a C) (hy : y'.cls ≠ "java/lang/invoke/MethodHandle" ∧ y'.cls ≠ "java/lang/invoke/VarHandle") (argsL rest : List Value) {ps : List FieldType} {r' : Option FieldType} (hlen : parseMethodDescriptor y'.desc = some ⟨ps, r'⟩) (hl : argsL.length = ps.length) (has : (.ref a :: argsL).toArray = as') (hst : S = argsL.reverse ++ .ref a :: rest) (hsz : Ls.size = maxL) (W : Nat) (hW : (rest.map fun v => v.category).sum ≤ W) (hf : rm.frames + 1 ≤ R.frames) (hlo : W + (maxL' + 11) + rm.locals ≤ R.locals) (hc : cells + rm.cells ≤ R.cells) (hs : slots + rm.slots ≤ R.slots) (hp : pc' = pc + 3)
    (K : ∀ T' h', Sd l Z n0 y bytes maxL ret R p e s m args below T' h' (cells + rm.cells) (slots + rm.slots) → Q h' → Go p e below G (T'.setTop (mkF m (pc') Ls rest))) : Go p e below G (T.setTop (mkF m pc Ls S)) := by
  obtain ⟨meth, c, locs, X, eT, N, hx, hby, hml, hown, hnm, hret, hlk, hZ, hn⟩ := X; subst hp hst has
  obtain ⟨cq, kq, qa, qb, qc⟩ := isOf hZ eT Er
  obtain ⟨v, _, ⟨T', L', k', n'⟩, -, X', ⟨Lc, ⟨N', hQ⟩, lq, yq, zq⟩, st⟩ := X.virtualBack hx (y := y') (z := y') hown (mvT hZ w1) (mvT hZ w2) (notFace_of_selects (args := #[]) (mvT hZ w5)) (mvT hZ w5) (mvT hZ w6) hy (backOf (W := W) (Q := fun v h L => Fr n0 L ∧ Non Q v h) (hM []) hZ w4 w3 hf hlo) qa qc (g := mkF m pc Ls (argsL.reverse ++ .ref a :: rest)) rfl (by rw [hml]; exact hsz) (Steps.refl _) (argsL := argsL) (rest := rest) (lenOf hlen hl) rfl (by show 2 * 0 + _ ≤ _; omega) (hb hby hd) (fun _ _ => ⟨rfl, eT, hc, hs⟩)
  dsimp only [Pt.U, Pt.locs, Pt.cells, Pt.slots] at X' lq yq zq st hQ
  subst lq yq zq
  obtain ⟨rfl, hQ⟩ := hQ
  exact go_of (fun _ k => st.trans k) (K T' _ ⟨meth, c, _, X', rfl, Fr.app N N', hx, hby, hml, hown, hnm, hret, hlk, hZ, hn⟩ hQ)
theorem w_ireturn {z : Int32} (X : Sd l Z n0 y bytes maxL (some .int) R p e s m args below T h cells slots) {Q : Value → Heap → Prop} (hd : decode bytes pc = .ok (.ireturn, 1)) (hq : Q (.int z) h) (hc : cells ≤ R.cells) (hs : slots ≤ R.slots) : Go p e below (Done below s n0 (Val Q) R.cells R.slots) (T.setTop (mkF m pc Ls (.int z :: S))) := by
  obtain ⟨meth, c, locs, X, eT, N, hx, hby, hml, hown, hnm, hret, hlk, hZ, hn⟩ := X
  obtain ⟨fs, hr, hrun, hended, hW, hsame⟩ := X.leave (v := some (.int z)) (fun h => by rw [hret] at h; cases h) hlk
  refine ⟨_, ?_, _, hrun, hended, _, _, rfl, ⟨N, _, rfl, by rw [← eT] at hq; exact hq⟩, ⟨_, rfl⟩, hW, hsame.mono hc hs⟩
  · exact retOut X hx (t := .int) hret rfl (Or.inl ⟨rfl, Or.inl rfl, z, rfl⟩) (hb hby hd) hr
theorem w_zreturn {z : Int32} (X : Sd l Z n0 y bytes maxL (some .boolean) R p e s m args below T h cells slots) {Q : Value → Heap → Prop} (hd : decode bytes pc = .ok (.ireturn, 1)) (hq : Q (.int (nar .boolean z)) h) (hc : cells ≤ R.cells) (hs : slots ≤ R.slots) : Go p e below (Done below s n0 (Val Q) R.cells R.slots) (T.setTop (mkF m pc Ls (.int z :: S))) := by
  obtain ⟨meth, c, locs, X, eT, N, hx, hby, hml, hown, hnm, hret, hlk, hZ, hn⟩ := X
  obtain ⟨fs, hr, hrun, hended, hW, hsame⟩ := X.leave (v := some (.int (nar .boolean z))) (fun h => by rw [hret] at h; cases h) hlk
  refine ⟨_, ?_, _, hrun, hended, _, _, rfl, ⟨N, _, rfl, by rw [← eT] at hq; exact hq⟩, ⟨_, rfl⟩, hW, hsame.mono hc hs⟩
  · exact retN X hx (t := .boolean) hret (by simp) (hb hby hd) hr
theorem w_breturn {z : Int32} (X : Sd l Z n0 y bytes maxL (some .byte) R p e s m args below T h cells slots) {Q : Value → Heap → Prop} (hd : decode bytes pc = .ok (.ireturn, 1)) (hq : Q (.int (nar .byte z)) h) (hc : cells ≤ R.cells) (hs : slots ≤ R.slots) : Go p e below (Done below s n0 (Val Q) R.cells R.slots) (T.setTop (mkF m pc Ls (.int z :: S))) := by
  obtain ⟨meth, c, locs, X, eT, N, hx, hby, hml, hown, hnm, hret, hlk, hZ, hn⟩ := X
  obtain ⟨fs, hr, hrun, hended, hW, hsame⟩ := X.leave (v := some (.int (nar .byte z))) (fun h => by rw [hret] at h; cases h) hlk
  refine ⟨_, ?_, _, hrun, hended, _, _, rfl, ⟨N, _, rfl, by rw [← eT] at hq; exact hq⟩, ⟨_, rfl⟩, hW, hsame.mono hc hs⟩
  · exact retN X hx (t := .byte) hret (by simp) (hb hby hd) hr
theorem w_creturn {z : Int32} (X : Sd l Z n0 y bytes maxL (some .char) R p e s m args below T h cells slots) {Q : Value → Heap → Prop} (hd : decode bytes pc = .ok (.ireturn, 1)) (hq : Q (.int (nar .char z)) h) (hc : cells ≤ R.cells) (hs : slots ≤ R.slots) : Go p e below (Done below s n0 (Val Q) R.cells R.slots) (T.setTop (mkF m pc Ls (.int z :: S))) := by
  obtain ⟨meth, c, locs, X, eT, N, hx, hby, hml, hown, hnm, hret, hlk, hZ, hn⟩ := X
  obtain ⟨fs, hr, hrun, hended, hW, hsame⟩ := X.leave (v := some (.int (nar .char z))) (fun h => by rw [hret] at h; cases h) hlk
  refine ⟨_, ?_, _, hrun, hended, _, _, rfl, ⟨N, _, rfl, by rw [← eT] at hq; exact hq⟩, ⟨_, rfl⟩, hW, hsame.mono hc hs⟩
  · exact retN X hx (t := .char) hret (by simp) (hb hby hd) hr
theorem w_sreturn {z : Int32} (X : Sd l Z n0 y bytes maxL (some .short) R p e s m args below T h cells slots) {Q : Value → Heap → Prop} (hd : decode bytes pc = .ok (.ireturn, 1)) (hq : Q (.int (nar .short z)) h) (hc : cells ≤ R.cells) (hs : slots ≤ R.slots) : Go p e below (Done below s n0 (Val Q) R.cells R.slots) (T.setTop (mkF m pc Ls (.int z :: S))) := by
  obtain ⟨meth, c, locs, X, eT, N, hx, hby, hml, hown, hnm, hret, hlk, hZ, hn⟩ := X
  obtain ⟨fs, hr, hrun, hended, hW, hsame⟩ := X.leave (v := some (.int (nar .short z))) (fun h => by rw [hret] at h; cases h) hlk
  refine ⟨_, ?_, _, hrun, hended, _, _, rfl, ⟨N, _, rfl, by rw [← eT] at hq; exact hq⟩, ⟨_, rfl⟩, hW, hsame.mono hc hs⟩
  · exact retN X hx (t := .short) hret (by simp) (hb hby hd) hr
theorem w_lreturn {z : Int64} (X : Sd l Z n0 y bytes maxL (some .long) R p e s m args below T h cells slots) {Q : Value → Heap → Prop} (hd : decode bytes pc = .ok (.lreturn, 1)) (hq : Q (.long z) h) (hc : cells ≤ R.cells) (hs : slots ≤ R.slots) : Go p e below (Done below s n0 (Val Q) R.cells R.slots) (T.setTop (mkF m pc Ls (.long z :: S))) := by
  obtain ⟨meth, c, locs, X, eT, N, hx, hby, hml, hown, hnm, hret, hlk, hZ, hn⟩ := X
  obtain ⟨fs, hr, hrun, hended, hW, hsame⟩ := X.leave (v := some (.long z)) (fun h => by rw [hret] at h; cases h) hlk
  refine ⟨_, ?_, _, hrun, hended, _, _, rfl, ⟨N, _, rfl, by rw [← eT] at hq; exact hq⟩, ⟨_, rfl⟩, hW, hsame.mono hc hs⟩
  · exact retOut X hx (t := .long) hret rfl (Or.inr (Or.inl ⟨rfl, rfl, z, rfl⟩)) (hb hby hd) hr
theorem w_areturn {t : FieldType} {v : Value} (X : Sd l Z n0 y bytes maxL (some t) R p e s m args below T h cells slots) {Q : Value → Heap → Prop} (hd : decode bytes pc = .ok (.areturn, 1)) (ht : t.isReference = true) (hv : v.isRef = true) (hna : narrow t v = v) (hq : Q v h) (hc : cells ≤ R.cells) (hs : slots ≤ R.slots) : Go p e below (Done below s n0 (Val Q) R.cells R.slots) (T.setTop (mkF m pc Ls (v :: S))) := by
  obtain ⟨meth, c, locs, X, eT, N, hx, hby, hml, hown, hnm, hret, hlk, hZ, hn⟩ := X
  obtain ⟨fs, hr, hrun, hended, hW, hsame⟩ := X.leave (v := some v) (fun h => by rw [hret] at h; cases h) hlk
  refine ⟨_, ?_, _, hrun, hended, _, _, rfl, ⟨N, _, rfl, by rw [← eT] at hq; exact hq⟩, ⟨_, rfl⟩, hW, hsame.mono hc hs⟩
  · exact retOut X hx (t := t) hret hna (Or.inr (Or.inr (Or.inr (Or.inr ⟨rfl, ht, hv⟩)))) (hb hby hd) hr
theorem w_return  (X : Sd l Z n0 y bytes maxL none R p e s m args below T h cells slots) {Q : Heap → Prop} (hd : decode bytes pc = .ok (.return_, 1)) (hq : Q h) (hc : cells ≤ R.cells) (hs : slots ≤ R.slots) : Go p e below (Done below s n0 (Non Q) R.cells R.slots) (T.setTop (mkF m pc Ls [])) := by
  obtain ⟨meth, c, locs, X, eT, N, hx, hby, hml, hown, hnm, hret, hlk, hZ, hn⟩ := X
  obtain ⟨fs, hr, hrun, hended, hW, hsame⟩ := X.leave (v := none) (fun _ => rfl) hlk
  refine ⟨_, ?_, _, hrun, hended, _, _, rfl, ⟨N, rfl, by rw [← eT] at hq; exact hq⟩, ⟨_, rfl⟩, hW, hsame.mono hc hs⟩
  · exact X.returnOut hx hret (hb hby hd) hr
theorem ne_new {a b : Addr} (g : b = h.size) (q : a < h.size) : a ≠ b := by subst g; exact Nat.ne_of_lt q
theorem sz_fresh {h0 : Heap} {b : Addr} {ws : List Addr} (g : b = h.size) (K : Keep h0 h ws) : h0.size ≤ b := by subst g; exact K.1
def Oar (Z : State) (h : Heap) (a : Addr) (C : String) : Prop := ∃ cl, Arr Z h a cl (.object C) ∧ Ovr Z cl.cls C
theorem Oar.lt {a : Addr} {C : String} (O : Oar Z h a C) : a < h.size := by obtain ⟨cl, A, -⟩ := O; exact A.lt
theorem Oar.ext {h' : Heap} {a : Addr} {C : String} (O : Oar Z h a C) (E : Ext h h') : Oar Z h' a C := by obtain ⟨cl, A, r⟩ := O; exact ⟨cl, A.ext E, r⟩
theorem Oar.wr {h' : Heap} {a b : Addr} {sl : Nat} {v : Value} {C : String} (O : Oar Z h a C) (W : Wr h h' b sl v) : Oar Z h' a C := by
  obtain ⟨cl, A, r⟩ := O
  by_cases q : a = b
  · subst q; exact ⟨_, A.same W, r⟩
  · exact ⟨cl, A.other W q, r⟩
theorem Oar.keep {h' : Heap} {a : Addr} {C : String} {ws : List Addr} (O : Oar Z h a C) (K : Keep h h' ws) : Oar Z h' a C := by
  obtain ⟨cl, A, r⟩ := O
  obtain ⟨c', h1, h2, h3, h4⟩ := K.2.2 a cl A.1
  refine ⟨c', ⟨h1, ?_, by rw [h3]; exact A.2.2⟩, by rw [h2]; exact r⟩
  have := A.2.1; unfold State.isArrayOf at this ⊢; rw [h2, h3]; exact this
theorem Oar.sto {a b : Addr} {C : String} (O : Oar Z h a C) (I : Ins Z h b C true) : Sto Z h a (.ref b) := by obtain ⟨cl, A, r⟩ := O; exact Sto.of A r I
end Walk
section Walk0
variable {l : Launch} {Z : State} {n0 : Nat} {y : MethodName} {bytes : ByteArray} {maxL : Nat} {ret : Option FieldType} {R : Room} {p : Program} {e : Env} {s : State} {m : MethodId} {args : Array Value} {below : List Frame} {T : State} {h : Heap} {cells slots : Nat} {G : State → Prop} {a0 : Array Value} {pc pc' : Nat} {Ls : Array Slot} {S : List Value}
theorem w_initO (X : Sd l Z n0 y bytes maxL ret R p e s m args below T h cells slots) {i : Nat} {a : Addr} (hd : decode bytes pc = .ok (.invokespecial i, 3)) (w1 : (Jvm.Cond.methodLink y.cls i Lib.objectInit).before a0 Z = true) (w2 : (Jvm.Cond.instanceMethod Lib.objectInit).before a0 Z = true) (w3 : (Jvm.Cond.code Lib.objectInit object_method_1_code 1 none).before a0 Z = true) (hsz : Ls.size = maxL) (hf : 1 ≤ R.frames) (W : Nat) (hW : (S.map fun v => v.category).sum ≤ W) (hl : W + 12 ≤ R.locals) (hp : pc' = pc + 3) (K : ∀ T', Sd l Z n0 y bytes maxL ret R p e s m args below T' h cells slots → Go p e below G (T'.setTop (mkF m (pc') Ls S))) : Go p e below G (T.setTop (mkF m pc Ls (.ref a :: S))) := by
  obtain ⟨meth, c, locs, X, eT, N, hx, hby, hml, hown, hnm, hret, hlk, hZ, hn⟩ := X; subst hp
  obtain ⟨T', X', e', st⟩ := initO X hx hZ hown w1 w2 w3 eT (g := mkF m pc Ls (.ref a :: S)) rfl (by rw [hml]; exact hsz) rfl (hb hby hd) hf (W := W) (by show 2 * 0 + _ ≤ _; omega) hl
  exact go_of st (K T' ⟨meth, c, _, X', e', N, hx, hby, hml, hown, hnm, hret, hlk, hZ, hn⟩)
end Walk0
section Walk3
variable {l : Launch} {Z : State} {n0 : Nat} {y : MethodName} {bytes : ByteArray} {maxL : Nat} {ret : Option FieldType} {R : Room} {p : Program} {e : Env} {s : State} {m : MethodId} {args : Array Value} {below : List Frame} {T : State} {h : Heap} {cells slots : Nat} {G : State → Prop} {a0 : Array Value} {pc pc' : Nat} {Ls : Array Slot} {S : List Value}
theorem w_loop {fr : Nat → JFrame} {n : Nat} (I : Nat → Prop) (step : ∀ T i, Sd l Z n0 y bytes maxL ret R p e s m args below T h cells slots → i < n → I i → (∀ T', Sd l Z n0 y bytes maxL ret R p e s m args below T' h cells slots → I (i + 1) → Go p e below G (T'.setTop (fr (i + 1)))) → Go p e below G (T.setTop (fr i))) (last : ∀ T, Sd l Z n0 y bytes maxL ret R p e s m args below T h cells slots → I n → Go p e below G (T.setTop (fr n))) : ∀ k i, i + k = n → I i → ∀ T, Sd l Z n0 y bytes maxL ret R p e s m args below T h cells slots → Go p e below G (T.setTop (fr i)) := by
  intro k
  induction k with
  | zero => intro i hi hI T X; obtain rfl : i = n := hi; exact last T X hI
  | succ k ih => intro i hi hI T X; exact step T i X (by omega) hI (fun T' X' hI' => ih (i + 1) (by omega) hI' T' X')
theorem w_join4 {α β γ δ : Type} {t : State} (P : α → β → γ → δ → Prop) (st : α → β → γ → δ → State) (J : ∀ x1 x2 x3 x4, P x1 x2 x3 x4 → Go p e below G (st x1 x2 x3 x4)) (K : (∀ x1 x2 x3 x4, P x1 x2 x3 x4 → Go p e below G (st x1 x2 x3 x4)) → Go p e below G t) : Go p e below G t := K J
end Walk3
section WalkS
variable {l : Launch} {Z : State} {n0 : Nat} {y : MethodName} {bytes : ByteArray} {maxL : Nat} {ret : Option FieldType} {R : Room} {p : Program} {e : Env} {s : State} {m : MethodId} {args : Array Value} {below : List Frame} {T : State} {h : Heap} {cells slots : Nat} {G : State → Prop} {a0 : Array Value} {pc pc' : Nat} {Ls : Array Slot} {S : List Value} {h' : Heap}
def Ord (Z : State) (h : Heap) (a : Addr) : Prop := ∃ (cell : Cell) (k : Class), h[a]? = some cell ∧ Z.vm.classes[cell.cls]? = some k ∧ k.kind = .ordinary
theorem Ord.of {a : Addr} {C : String} {n : Nat} (E : Exa Z h a C) (w : (Jvm.Cond.instantiable C n).before a0 Z = true) : Ord Z h a := by
  obtain ⟨cell, k, e1, e2, e3, -, -⟩ := E
  obtain ⟨c, k', q1, q2, q3, -⟩ := Cond.instantiable_spec w
  cases e2.symm.trans q1
  cases e3.symm.trans q2
  exact ⟨cell, k, e1, e3, q3⟩
theorem Ord.arr {a : Addr} {cl : Cell} {ty : FieldType} (O : Ord Z h a) (A : Arr Z h a cl ty) : False := by
  obtain ⟨cell, k, e1, e2, e3⟩ := O
  obtain ⟨A1, ⟨-, kA, hkA, compA, hkindA⟩, -⟩ := A
  cases e1.symm.trans A1
  cases e2.symm.trans hkA
  rw [e3] at hkindA; cases hkindA
theorem exa_name {a : Addr} {C C' : String} (E : Exa Z h a C) (E' : Exa Z h a C') : C = C' := by
  obtain ⟨cell, k, e1, e2, -⟩ := E
  obtain ⟨cell', k', e1', e2', -⟩ := E'
  cases e1.symm.trans e1'
  obtain ⟨k1, q1, q2⟩ := Vm.findClass_spec e2
  obtain ⟨k2, q3, q4⟩ := Vm.findClass_spec e2'
  cases q1.symm.trans q3
  exact q2.symm.trans q4
theorem arr_type {a : Addr} {cl cl' : Cell} {ty ty' : FieldType} (A : Arr Z h a cl ty) (A' : Arr Z h a cl' ty') : ty = ty' := by
  obtain ⟨A1, ⟨-, k, hk, comp, hkind⟩, -⟩ := A
  obtain ⟨A1', ⟨-, k', hk', comp', hkind'⟩, -⟩ := A'
  cases A1.symm.trans A1'
  cases hk.symm.trans hk'
  have := hkind.symm.trans hkind'
  injection this
/-- no String, no byte array -/
def Apart (Z : State) (h : Heap) (x : Addr) : Prop := (Ord Z h x ∧ ∃ C, Exa Z h x C ∧ C ≠ "java/lang/String" ∧ C ≠ "[B") ∨ ∃ cl ty, Arr Z h x cl ty ∧ ty ≠ .byte
theorem Apart.obj {x : Addr} {C : String} {n : Nat} (E : Exa Z h x C) (w : (Jvm.Cond.instantiable C n).before a0 Z = true) (h1 : C ≠ "java/lang/String") (h2 : C ≠ "[B") : Apart Z h x := Or.inl ⟨Ord.of E w, C, E, h1, h2⟩
theorem Apart.ary {x : Addr} {ty : FieldType} {n : Nat} {f : Nat → Value} (A : Ary Z h x ty n f) (ht : ty ≠ .byte) : Apart Z h x := by obtain ⟨c, A, -⟩ := A; exact Or.inr ⟨c, ty, A, ht⟩
/-- the String a says bs (its bytes, as ints) -/
def Str (Z : State) (h : Heap) (a : Addr) (bs : List Int32) : Prop := ∃ b, Exa Z h a "java/lang/String" ∧ Ord Z h a ∧ Fld Z h a "java/lang/String" "coder" "B" (.int 0) ∧ Fld Z h a "java/lang/String" "value" "[B" (.ref b) ∧ Ary Z h b .byte bs.length (fun i => .int (bs.getD i 0))
theorem Str.exa {a : Addr} {bs : List Int32} (S : Str Z h a bs) : Exa Z h a "java/lang/String" := by obtain ⟨b, E, -⟩ := S; exact E
theorem Str.lt {a : Addr} {bs : List Int32} (S : Str Z h a bs) : a < h.size := S.exa.lt
theorem Str.ext {a : Addr} {bs : List Int32} (S : Str Z h a bs) (E : Ext h h') : Str Z h' a bs := by
  obtain ⟨b, h1, ⟨cell, k, o1, o2⟩, h2, h3, h4⟩ := S
  exact ⟨b, Exa.ext E h1, ⟨cell, k, E.2 _ _ o1, o2⟩, Fld.ext E h2, Fld.ext E h3, h4.ext E⟩
theorem Str.keep {a : Addr} {bs : List Int32} {ws : List Addr} (S : Str Z h a bs) (K : Keep h h' ws) (P : ∀ x ∈ ws, Apart Z h x) : Str Z h' a bs := by
  obtain ⟨b, h1, O, h2, h3, h4⟩ := S
  have na : a ∉ ws := fun q => by
    rcases P a q with ⟨-, C, E, n1, -⟩ | ⟨cl, ty, A, -⟩
    · exact n1 (exa_name E h1)
    · exact O.arr A
  have nb : b ∉ ws := fun q => by
    obtain ⟨cb, Ab, -⟩ := h4
    rcases P b q with ⟨O', -⟩ | ⟨cl, ty, A, n1⟩
    · exact O'.arr Ab
    · exact n1 (arr_type A Ab)
  obtain ⟨cell, k, o1, o2⟩ := O
  exact ⟨b, h1.keep K, ⟨cell, k, K.2.1 _ _ o1 na, o2⟩, h2.keep K na, h3.keep K na, h4.keep K nb⟩
theorem Str.uniq {a : Addr} {bs bs' : List Int32} (S : Str Z h a bs) (S' : Str Z h a bs') : bs = bs' := by
  obtain ⟨b, -, -, -, ⟨c1, x1, k1, i1, f1, p1, p2, p3, p4, p5, p6, p7⟩, ⟨c, A, r1, r2, r3⟩⟩ := S
  obtain ⟨b', -, -, -, ⟨c2, x2, k2, i2, f2, q1, q2, q3, q4, q5, q6, q7⟩, ⟨c', A', r1', r2', r3'⟩⟩ := S'
  cases p1.symm.trans q1
  cases p2.symm.trans q2
  cases p7.symm.trans q7
  cases A.1.symm.trans A'.1
  have hl : bs.length = bs'.length := r1.symm.trans r1'
  apply List.ext_getElem hl
  intro i h1 h2
  have e1 := (r3 i h1).symm.trans (r3' i h2)
  have e2 : bs.getD i 0 = bs'.getD i 0 := by injection Option.some.inj e1
  simpa [List.getD_eq_getElem?_getD, h1, h2] using e2
theorem ary_of_arv {b : Addr} {k : ClassId} {z : Int32} {bs : List Int32} (A : Arv Z h b k .byte z (bs.map Value.int) (.int 0)) (hz : z.toNatClampNeg = bs.length) (hb : bs.length < 2 ^ 31) : Ary Z h b .byte bs.length (fun i => .int (bs.getD i 0)) := by
  obtain ⟨c, A, -, r1, r2, r3, -⟩ := A
  refine ⟨c, A, r1.trans hz, hb, fun i hi => ?_⟩
  rw [r3 i (by rw [r1, hz]; exact hi)]
  simp [List.getD_eq_getElem?_getD, hi]
theorem kext (K : Keep h h' []) : Ext h h' := ⟨K.1, fun a c q => K.2.1 a c q (by simp)⟩
theorem extk (E : Ext h h') : Keep h h' [] := (Keep.refl h []).ext E
theorem wr_keep {a : Addr} {sl : Nat} {v : Value} (W : Wr h h' a sl v) : Keep h h' [a] := (Keep.refl h [a]).wr W (Or.inl (List.mem_singleton.mpr rfl))
theorem ap0 : ∀ x ∈ ([] : List Addr), Apart Z h x := fun x q => nomatch q
theorem ap1 {a : Addr} (A : Apart Z h a) : ∀ x ∈ [a], Apart Z h x := fun x q => by cases List.mem_singleton.mp q; exact A
theorem ap2 {a b : Addr} (A : Apart Z h a) (B : Apart Z h b) : ∀ x ∈ [a, b], Apart Z h x := fun x q => by
  rcases List.mem_cons.mp q with rfl | q
  · exact A
  · cases List.mem_singleton.mp q; exact B
theorem w_checkcast (X : Sd l Z n0 y bytes maxL ret R p e s m args below T h cells slots) {i : Nat} {C : String} {a : Addr} (hd : decode bytes pc = .ok (.checkcast i, 3)) (w : (Jvm.Cond.classLink y.cls i C).before a0 Z = true) (I : Ins Z h a C true) (hp : pc' = pc + 3) (K : ∀ T', Sd l Z n0 y bytes maxL ret R p e s m args below T' h cells slots → Go p e below G (T'.setTop (mkF m (pc') Ls (.ref a :: S)))) : Go p e below G (T.setTop (mkF m pc Ls (.ref a :: S))) := by
  obtain ⟨meth, c, locs, X, eT, N, hx, hby, hml, hown, hnm, hret, hlk, hZ, hn⟩ := X; subst hp
  obtain ⟨T', X', e', st⟩ := castY X hx hZ hown w eT I (g := mkF m pc Ls (.ref a :: S)) rfl rfl (hb hby hd)
  exact go_of st (K T' ⟨meth, c, _, X', e', N, hx, hby, hml, hown, hnm, hret, hlk, hZ, hn⟩)
theorem w_instanceof (X : Sd l Z n0 y bytes maxL ret R p e s m args below T h cells slots) {i : Nat} {C : String} {a : Addr} (hd : decode bytes pc = .ok (.instanceof i, 3)) (w : (Jvm.Cond.classLink y.cls i C).before a0 Z = true) (I : Ins Z h a C true) (hp : pc' = pc + 3) (K : ∀ T', Sd l Z n0 y bytes maxL ret R p e s m args below T' h cells slots → Go p e below G (T'.setTop (mkF m (pc') Ls (.int (1 : Int32) :: S)))) : Go p e below G (T.setTop (mkF m pc Ls (.ref a :: S))) := by
  obtain ⟨meth, c, locs, X, eT, N, hx, hby, hml, hown, hnm, hret, hlk, hZ, hn⟩ := X; subst hp
  obtain ⟨T', X', e', st⟩ := instY X hx hZ hown w eT I (g := mkF m pc Ls (.ref a :: S)) rfl rfl (hb hby hd)
  exact go_of st (K T' ⟨meth, c, _, X', e', N, hx, hby, hml, hown, hnm, hret, hlk, hZ, hn⟩)
end WalkS
section WalkW
variable {l : Launch} {Z : State} {n0 : Nat} {y : MethodName} {bytes : ByteArray} {maxL : Nat} {ret : Option FieldType} {R : Room} {p : Program} {e : Env} {s : State} {m : MethodId} {args : Array Value} {below : List Frame} {T : State} {h : Heap} {cells slots : Nat} {G : State → Prop} {a0 : Array Value} {pc pc' : Nat} {Ls : Array Slot} {S : List Value} {h' : Heap} {EL : List (String × Nat)} {vm : Vm}
/-- beside the Stand of a walk that may have interned since its true start s -/
def Fw (Z : State) (EL : List (String × Nat)) (s : State) (vm : Vm) (h : Heap) : Prop := ∃ k, s.Since vm k ∧ k ≤ h.size ∧ CHr Z EL s.vm s.heap vm h
theorem Fw.ext (F : Fw Z EL s vm h) (E : Ext h h') : Fw Z EL s vm h' := by
  obtain ⟨k, a, b, c⟩ := F; exact ⟨k, a, Nat.le_trans b E.1, c.trans (CHr.ext E c.1)⟩
theorem Fw.keep {ws : List Addr} (F : Fw Z EL s vm h) (K : Keep h h' ws) (hs : ∀ x ∈ ws, Safe Z EL vm h x) : Fw Z EL s vm h' := by
  obtain ⟨k, a, b, c⟩ := F; exact ⟨k, a, Nat.le_trans b K.1, c.trans (CHr.keep K hs c.1)⟩
theorem Fw.wr {a : Addr} {sl : Nat} {v : Value} (F : Fw Z EL s vm h) (W : Wr h h' a sl v) (S : Safe Z EL vm h a) : Fw Z EL s vm h' := by
  obtain ⟨k, x, b, c⟩ := F
  have q := CHr.wr W S c.1
  exact ⟨k, x, Nat.le_trans b q.2.1, c.trans q⟩
theorem sd_alike (X : Sd l Z n0 y bytes maxL ret R p e (s.setVm vm) m args below T h cells slots) : Z.vm.Alike vm := by obtain ⟨_, _, _, -, -, -, -, -, -, -, -, -, -, hZ, -⟩ := X; exact hZ.alike
theorem Apart.safe {x : Addr} (A : Apart Z h x) (hal : Z.vm.Alike vm) : Safe Z EL vm h x := by
  rcases A with ⟨-, C, E, h1, h2⟩ | ⟨cl, ty, A, h1⟩
  · exact Safe.exa hal E h1 h2
  · exact Safe.arr hal A h1
theorem Fw.safe_new {b : Addr} (F : Fw Z EL s vm h) (E : Ext h h') (g : b = h.size) : Safe Z EL vm h' b := by
  obtain ⟨k, x, y, c⟩ := F
  exact Safe.ext E c.1 (Safe.new (by rw [g]; exact Nat.le_refl _))
theorem sf1 {a : Addr} (A : Safe Z EL vm h a) : ∀ x ∈ [a], Safe Z EL vm h x := fun x q => by cases List.mem_singleton.mp q; exact A
theorem Fw.kp {ws : List Addr} {h0 : Heap} {T0 : State} {c0 n1 : Nat} (F : Fw Z EL s vm h) (X : Sd l Z n0 y bytes maxL ret R p e (s.setVm vm) m args below T0 h0 c0 n1) (K : Keep h h' ws) (P : ∀ x ∈ ws, Apart Z h x) : Fw Z EL s vm h' := F.keep K fun x hx => (P x hx).safe (sd_alike X)
def DoneW (below : List Frame) (Z : State) (EL : List (String × Nat)) (s : State) (n0 : Nat) (Q : Option Value → Heap → Prop) (C N : Nat) (s₂ : State) : Prop := ∃ o, s₂.status = .running ∧ Ended s₂ below o ∧ ∃ v L, o = .returned v ∧ (Fr n0 L ∧ Q v s₂.heap) ∧ CHr Z EL s.vm s.heap s₂.vm s₂.heap ∧ ReturnedEndW s o s₂ L C N
def ConW (l : Launch) (Z : State) (EL : List (String × Nat)) (n0 : Nat) (y : MethodName) (bytes : ByteArray) (maxL : Nat) (ret : Option FieldType) (rm : Room) (as' : Array Value) (h : Heap) (Q : Option Value → Heap → Prop) : Prop :=
  ∀ ws, MetFree l y (head1 (Jvm.Cond.code y bytes maxL ret :: ws) rm) (fun a U => a = as' ∧ Z.Warmed39 U.vm ∧ U.heap = h ∧ CHv Z EL U.vm h) (fun _ _ _ _ _ => True) (fun _ U o U' => ∃ v L, o = .returned v ∧ (Fr n0 L ∧ Q v U'.heap) ∧ CHr Z EL U.vm U.heap U'.vm U'.heap ∧ ReturnedEndW U o U' L rm.cells rm.slots)
theorem conW_intro {rm : Room} {as' : Array Value} {Q : Option Value → Heap → Prop} (hp : plainFor y = true) (hn : n0 ≤ h.size) {fr : MethodId → JFrame} (ef : ∀ m, entryFrame m as' maxL = fr m)
    (body : ∀ p e s m below s₁, s.heap = h → Fw Z EL s s.vm h → Sd l Z n0 y bytes maxL ret rm p e (s.setVm s.vm) m as' below s₁ h 0 0 → Go p e below (DoneW below Z EL s n0 Q rm.cells rm.slots) (s₁.setTop (fr m))) : ConW l Z EL n0 y bytes maxL ret rm as' h Q := by
  intro ws
  refine MetFree.of_bodySF hp hisR ?_
  intro p e s m args below meth c s₁ Bd hml0 hP hK
  obtain ⟨rfl, hZ, hh, hC⟩ := hP
  have e0 : s₁.heap = h := by rw [← hh, Bd.state]; rfl
  have F0 : Fw Z EL s s.vm h := ⟨0, State.WarmedH.since (State.WarmedH.refl s) 0, Nat.zero_le _, by rw [← hh] at hC ⊢; exact CHr.refl hC⟩
  obtain ⟨s₂, st, o, r1, r2, r3⟩ := body p e s m below s₁ hh F0 ⟨meth, c, [], Stand.of_body Bd, e0, Fr.nil n0, Bd.exec, Bd.bytes, hml0, findClass_of_methodNamed Bd.named, (name_of_methodNamed Bd.named Bd.method).1, Bd.returns, Bd.notSynchronized, hZ, by show n0 ≤ s.heap.size; rw [hh]; exact hn⟩
  exact ⟨s₂, o, castTop (ef m) st, r1, r2, r3⟩
theorem w_ldcW (X : Sd l Z n0 y bytes maxL ret R p e (s.setVm vm) m args below T h cells slots) (F : Fw Z EL s vm h) {i : Nat} {text : String} (bs : List Int32) (n : Nat) (hd : decode bytes pc = .ok (.ldc i, 2)) (w : (Jvm.Cond.stringLink y.cls i text).before a0 Z = true) (wS : ∀ a ∈ Bundle.stringAtoms, a.before a0 Z = true) (hEL : EW Z a0 EL) (hmem : (y.cls, i) ∈ EL) (ht : (∀ c ∈ text.toList, c.toNat < 256) ∧ text.toList.map (fun c => Value.int (Jvm.Lit.byteI c.toNat.toUInt16)) = bs.map Value.int) (hb31 : bs.length < 2 ^ 31) (hn' : 4 * text.toList.length ≤ n) (hbig : n ≤ 536870912) (hc : cells + 2 ≤ R.cells) (hl : slots + (n + 4) ≤ R.slots) (hp : pc' = pc + 2)
    (K : ∀ T' h' vm' a, Sd l Z n0 y bytes maxL ret R p e (s.setVm vm') m args below T' h' (cells + 2) (slots + (n + 4)) → Fw Z EL s vm' h' → Ext h h' → Str Z h' a bs → Go p e below G (T'.setTop (mkF m (pc') Ls (.ref a :: S)))) : Go p e below G (T.setTop (mkF m pc Ls S)) := by
  obtain ⟨meth, c, locs, X, eT, N, hx, hby, hml, hown, hnm, hret, hlk, hZ, hn⟩ := X; subst hp
  obtain ⟨k, hS, hk, C⟩ := F
  have q := nat_at (len_toInt hb31)
  obtain ⟨a, T', h', k1, b, kc, X', e', E', hS', hk', hZ', hown', Ea, Fc, Fv, Av, -, -, C', -, -, st⟩ := ldcCH X hx hZ hown w wS eT hS hk hEL hmem C.1 ht q.2 (by rw [q.1]; simp) (g := mkF m pc Ls S) rfl (hb hby hd) hn' hbig hc hl
  refine go_of st (K T' h' T'.vm a ⟨meth, c, _, X', e', N, hx, hby, hml, hown', hnm, hret, hlk, hZ', hn⟩ ⟨k1, hS', hk', C.trans C'⟩ E' ⟨b, Ea, Ord.of Ea (wS (.instantiable "java/lang/String" 4) (by simp [Bundle.stringAtoms, Bundle.sN])), Fc, Fv, ary_of_arv Av q.1 hb31⟩)
theorem w_staticVW (X : Sd l Z n0 y bytes maxL ret R p e (s.setVm vm) m args below T h cells slots) (F : Fw Z EL s vm h) {i : Nat} {y' : MethodName} {bytes' : ByteArray} {maxL' : Nat} {ret' : Option FieldType} {rm : Room} {as' : Array Value} {Q : Value → Heap → Prop} (hd : decode bytes pc = .ok (.invokestatic i, 3)) (hM : ConW l Z EL n0 y' bytes' maxL' ret' rm as' h (Val Q)) (w1 : (Jvm.Cond.methodLink y.cls i y').before a0 Z = true) (w2 : (Jvm.Cond.static y').before a0 Z = true) (w3 : (Jvm.Cond.initialized y'.cls).before a0 Z = true) (w4 : (Jvm.Cond.code y' bytes' maxL' ret').before a0 Z = true) (hEL : EW Z a0 EL) (hy : y'.cls ≠ "java/lang/invoke/MethodHandle" ∧ y'.cls ≠ "java/lang/invoke/VarHandle") (argsL rest : List Value) {ps : List FieldType} {r' : Option FieldType} (hlen : parseMethodDescriptor y'.desc = some ⟨ps, r'⟩) (hl : argsL.length = ps.length) (has : argsL.toArray = as') (hst : S = argsL.reverse ++ rest) (hsz : Ls.size = maxL) (W : Nat) (hW : (rest.map fun v => v.category).sum ≤ W) (hf : rm.frames + 1 ≤ R.frames) (hlo : W + (maxL' + 11) + rm.locals ≤ R.locals) (hc : cells + rm.cells ≤ R.cells) (hs : slots + rm.slots ≤ R.slots) (hp : pc' = pc + 3)
    (K : ∀ T' h' vm' v, Sd l Z n0 y bytes maxL ret R p e (s.setVm vm') m args below T' h' (cells + rm.cells) (slots + rm.slots) → Fw Z EL s vm' h' → Q v h' → Go p e below G (T'.setTop (mkF m (pc') Ls (v :: rest)))) : Go p e below G (T.setTop (mkF m pc Ls S)) := by
  obtain ⟨meth, c, locs, X, eT, N, hx, hby, hml, hown, hnm, hret, hlk, hZ, hn⟩ := X; subst hp hst has
  obtain ⟨k, hS, hk, C⟩ := F
  obtain ⟨v, _, ⟨T', L', k', n'⟩, -, X', hS', hgr, ⟨Lc, ⟨N', hQ⟩, lq, yq, zq, C'⟩, st⟩ := callSS X hx (y := y') hown (mvT hZ w1) (mvT hZ w2) (mvT hZ w3) (mvT hZ w4) hy (backOfSH (W := W) (Q := fun v h L => Fr n0 L ∧ Val Q v h) (hM []) hZ w4 w3 hf hlo hEL C.1) (g := mkF m pc Ls (argsL.reverse ++ rest)) rfl (by rw [hml]; exact hsz) (argsL := argsL) (rest := rest) (lenOf hlen hl) rfl (by show 2 * 0 + _ ≤ _; omega) (hb hby hd) (fun _ _ => ⟨rfl, eT, hc, hs⟩)
  dsimp only [Pt.U, Pt.locs, Pt.cells, Pt.slots] at X' lq yq zq st hQ hS' hgr C'
  subst lq yq zq
  obtain ⟨v, rfl, hQ⟩ := hQ
  exact go_of (fun _ k => st.trans k) (K T' _ T'.vm v ⟨meth, c, _, X', rfl, Fr.app N N', hx, hby, hml, by show T'.vm.findClass _ = _; rw [hS'.1.alike.findClass]; exact hown, hnm, hret, hlk, State.Warmed39.trans (t := s.setVm vm) hZ hS'.1, hn⟩ ⟨_, hS.trans hS' (Nat.le_trans hk (by rw [← eT]; exact hgr)), Nat.le_refl _, C.trans C'⟩ hQ)
theorem w_specialNW (X : Sd l Z n0 y bytes maxL ret R p e (s.setVm vm) m args below T h cells slots) (F : Fw Z EL s vm h) {i : Nat} {y' : MethodName} {bytes' : ByteArray} {maxL' : Nat} {rm : Room} {as' : Array Value} {Q : Heap → Prop} {a : Addr} (hd : decode bytes pc = .ok (.invokespecial i, 3)) (hM : ConW l Z EL n0 y' bytes' maxL' none rm as' h (Non Q)) (w1 : (Jvm.Cond.methodLink y.cls i y').before a0 Z = true) (w2 : (Jvm.Cond.instanceMethod y').before a0 Z = true) (w3 : (Jvm.Cond.initialized y'.cls).before a0 Z = true) (w4 : (Jvm.Cond.code y' bytes' maxL' none).before a0 Z = true) (hin : y'.name = "<init>") (hEL : EW Z a0 EL) (hy : y'.cls ≠ "java/lang/invoke/MethodHandle" ∧ y'.cls ≠ "java/lang/invoke/VarHandle") (argsL rest : List Value) {ps : List FieldType} {r' : Option FieldType} (hlen : parseMethodDescriptor y'.desc = some ⟨ps, r'⟩) (hl : argsL.length = ps.length) (has : (.ref a :: argsL).toArray = as') (hst : S = argsL.reverse ++ .ref a :: rest) (hsz : Ls.size = maxL) (W : Nat) (hW : (rest.map fun v => v.category).sum ≤ W) (hf : rm.frames + 1 ≤ R.frames) (hlo : W + (maxL' + 11) + rm.locals ≤ R.locals) (hc : cells + rm.cells ≤ R.cells) (hs : slots + rm.slots ≤ R.slots) (hp : pc' = pc + 3)
    (K : ∀ T' h' vm', Sd l Z n0 y bytes maxL ret R p e (s.setVm vm') m args below T' h' (cells + rm.cells) (slots + rm.slots) → Fw Z EL s vm' h' → Q h' → Go p e below G (T'.setTop (mkF m (pc') Ls rest))) : Go p e below G (T.setTop (mkF m pc Ls S)) := by
  obtain ⟨meth, c, locs, X, eT, N, hx, hby, hml, hown, hnm, hret, hlk, hZ, hn⟩ := X; subst hp hst has
  obtain ⟨k, hS, hk, C⟩ := F
  obtain ⟨v, _, ⟨T', L', k', n'⟩, -, X', hS', hgr, ⟨Lc, ⟨N', hQ⟩, lq, yq, zq, C'⟩, st⟩ := X.specialBackS hx (y := y') hin hown (mvT hZ w1) (mvT hZ w2) (mvT hZ w4) hy (backOfSH (W := W) (Q := fun v h L => Fr n0 L ∧ Non Q v h) (hM []) hZ w4 w3 hf hlo hEL C.1) (g := mkF m pc Ls (argsL.reverse ++ .ref a :: rest)) rfl (by rw [hml]; exact hsz) (Steps.refl _) (a := a) (argsL := argsL) (rest := rest) (lenOf hlen hl) rfl (by show 2 * 0 + _ ≤ _; omega) (hb hby hd) (fun _ _ => ⟨rfl, eT, hc, hs⟩)
  dsimp only [Pt.U, Pt.locs, Pt.cells, Pt.slots] at X' lq yq zq st hQ hS' hgr C'
  subst lq yq zq
  obtain ⟨rfl, hQ⟩ := hQ
  exact go_of (fun _ k => st.trans k) (K T' _ T'.vm ⟨meth, c, _, X', rfl, Fr.app N N', hx, hby, hml, by show T'.vm.findClass _ = _; rw [hS'.1.alike.findClass]; exact hown, hnm, hret, hlk, State.Warmed39.trans (t := s.setVm vm) hZ hS'.1, hn⟩ ⟨_, hS.trans hS' (Nat.le_trans hk (by rw [← eT]; exact hgr)), Nat.le_refl _, C.trans C'⟩ hQ)
theorem w_zreturnW {z : Int32} (X : Sd l Z n0 y bytes maxL (some .boolean) R p e (s.setVm vm) m args below T h cells slots) (F : Fw Z EL s vm h) (hEL : EW Z a0 EL) {Q : Value → Heap → Prop} (hd : decode bytes pc = .ok (.ireturn, 1)) (hq : Q (.int (nar .boolean z)) h) (hc : cells ≤ R.cells) (hs : slots ≤ R.slots) : Go p e below (DoneW below Z EL s n0 (Val Q) R.cells R.slots) (T.setTop (mkF m pc Ls (.int z :: S))) := by
  obtain ⟨meth, c, locs, X, eT, N, hx, hby, hml, hown, hnm, hret, hlk, hZ, hn⟩ := X
  obtain ⟨k, hS, hk, C⟩ := F
  obtain ⟨fs, hr, hrun, hended, r1, r2, r3, r4⟩ := X.leaveW (v := some (.int (nar .boolean z))) hS (by rw [eT]; exact hk) (fun h => by rw [hret] at h; cases h) hlk
  refine ⟨_, ?_, _, hrun, hended, _, _, rfl, ⟨N, _, rfl, by rw [← eT] at hq; exact hq⟩, ?_, r1, r2, r3, r4.mono hc hs⟩
  · exact retN X hx (t := .boolean) hret (by simp) (hb hby hd) hr
  · have q := C.trans (CHv.at X hZ hEL C.1)
    rw [← eT] at q; exact q
theorem w_areturnW {t : FieldType} {v : Value} (X : Sd l Z n0 y bytes maxL (some t) R p e (s.setVm vm) m args below T h cells slots) (F : Fw Z EL s vm h) (hEL : EW Z a0 EL) {Q : Value → Heap → Prop} (hd : decode bytes pc = .ok (.areturn, 1)) (ht : t.isReference = true) (hv : v.isRef = true) (hna : narrow t v = v) (hq : Q v h) (hc : cells ≤ R.cells) (hs : slots ≤ R.slots) : Go p e below (DoneW below Z EL s n0 (Val Q) R.cells R.slots) (T.setTop (mkF m pc Ls (v :: S))) := by
  obtain ⟨meth, c, locs, X, eT, N, hx, hby, hml, hown, hnm, hret, hlk, hZ, hn⟩ := X
  obtain ⟨k, hS, hk, C⟩ := F
  obtain ⟨fs, hr, hrun, hended, r1, r2, r3, r4⟩ := X.leaveW (v := some v) hS (by rw [eT]; exact hk) (fun h => by rw [hret] at h; cases h) hlk
  refine ⟨_, ?_, _, hrun, hended, _, _, rfl, ⟨N, _, rfl, by rw [← eT] at hq; exact hq⟩, ?_, r1, r2, r3, r4.mono hc hs⟩
  · exact retOut X hx (t := t) hret hna (Or.inr (Or.inr (Or.inr (Or.inr ⟨rfl, ht, hv⟩)))) (hb hby hd) hr
  · have q := C.trans (CHv.at X hZ hEL C.1)
    rw [← eT] at q; exact q
theorem w_returnW  (X : Sd l Z n0 y bytes maxL none R p e (s.setVm vm) m args below T h cells slots) (F : Fw Z EL s vm h) (hEL : EW Z a0 EL) {Q : Heap → Prop} (hd : decode bytes pc = .ok (.return_, 1)) (hq : Q h) (hc : cells ≤ R.cells) (hs : slots ≤ R.slots) : Go p e below (DoneW below Z EL s n0 (Non Q) R.cells R.slots) (T.setTop (mkF m pc Ls [])) := by
  obtain ⟨meth, c, locs, X, eT, N, hx, hby, hml, hown, hnm, hret, hlk, hZ, hn⟩ := X
  obtain ⟨k, hS, hk, C⟩ := F
  obtain ⟨fs, hr, hrun, hended, r1, r2, r3, r4⟩ := X.leaveW (v := none) hS (by rw [eT]; exact hk) (fun _ => rfl) hlk
  refine ⟨_, ?_, _, hrun, hended, _, _, rfl, ⟨N, rfl, by rw [← eT] at hq; exact hq⟩, ?_, r1, r2, r3, r4.mono hc hs⟩
  · exact X.returnOut hx hret (hb hby hd) hr
  · have q := C.trans (CHv.at X hZ hEL C.1)
    rw [← eT] at q; exact q
end WalkW
abbrev own_EL : List (String × Nat) := consts_1
theorem own_hEL {a0 : Array Value} {Z : State} (hw : ∀ d ∈ tables_1, d.before a0 Z = true) : EW Z a0 own_EL := (EW.cons (hw _ (List.mem_of_getElem? (i := 18) rfl)) (by decide) EW.nil)
theorem own_wS {a0 : Array Value} {Z : State} (hw : ∀ d ∈ tables_1, d.before a0 Z = true) : ∀ a ∈ Bundle.stringAtoms, a.before a0 Z = true := by
  intro a ha
  simp only [Bundle.stringAtoms, List.mem_cons, List.not_mem_nil, or_false] at ha
  rcases ha with rfl | rfl | rfl | rfl | rfl | rfl | rfl
  · exact (hw _ (List.mem_of_getElem? (i := 6) rfl))
  · exact (hw _ (List.mem_of_getElem? (i := 5) rfl))
  · exact (hw _ (List.mem_of_getElem? (i := 19) rfl))
  · exact (hw _ (List.mem_of_getElem? (i := 20) rfl))
  · exact (hw _ (List.mem_of_getElem? (i := 21) rfl))
  · exact (hw _ (List.mem_of_getElem? (i := 22) rfl))
  · exact (hw _ (List.mem_of_getElem? (i := 23) rfl))
section WalkV
variable {l : Launch} {Z : State} {n0 : Nat} {y : MethodName} {bytes : ByteArray} {maxL : Nat} {ret : Option FieldType} {R : Room} {p : Program} {e : Env} {s : State} {m : MethodId} {args : Array Value} {below : List Frame} {T : State} {h : Heap} {cells slots : Nat} {G : State → Prop} {a0 : Array Value} {pc pc' : Nat} {Ls : Array Slot} {S : List Value} {h' : Heap} {EL : List (String × Nat)} {vm : Vm}
theorem ne_new2 {a b : Addr} (g : h.size ≤ b) (q : a < h.size) : a ≠ b := fun z => Nat.lt_irrefl _ (Nat.lt_of_lt_of_le (z ▸ q) g)
theorem Fw.wr2 {a : Addr} {sl : Nat} {v : Value} (F : Fw Z EL s vm h) (W : Wr h h' a sl v) (S : Safe Z EL vm h a) : Fw Z EL s vm h' ∧ Safe Z EL vm h' a := by
  have F' := F.wr W S
  obtain ⟨k, x, b, c⟩ := F
  exact ⟨F', Safe.wr W S c.1 S⟩
theorem Safe.fresh {a : Addr} (hal : Z.vm.Alike vm) (Fv : Fld Z h a "java/lang/String" "value" "[B" .null) (O : Ord Z h a) : Safe Z EL vm h a := fun B => by
  obtain ⟨p, -, u, a', -, q, -, F, rfl | rfl⟩ := B
  · obtain ⟨cS, ⟨⟨s1, s2, s3, ⟨cv, kv, iv, s4, s4'⟩, ⟨cc, kc, ic, s5, s5'⟩, s6, s7, s8, s9, s10, s11, s12, s13, s14, s15, s16⟩, hfS, hcS⟩, -⟩ := F
    obtain ⟨kv', z4⟩ := ff_back (U := Wst Z vm h) hal s4
    obtain ⟨cell, cf, k, i, f, f1, f2, -, -, -, -, f7⟩ := Fv
    cases f1.symm.trans s1
    cases f2.symm.trans z4
    cases f7.symm.trans s8
  · obtain ⟨cell, k, o1, o2, o3⟩ := O
    obtain ⟨cS, ⟨⟨-, -, -, -, -, -, -, -, -, s10, ⟨-, kB, hkB, compB, hkindB⟩, -⟩, -, -⟩, -⟩ := F
    cases o1.symm.trans s10
    obtain ⟨k', q1, q2⟩ := hal.2.2 _ _ o2
    cases (show vm.classes[q.SA.cls]? = some kB from hkB).symm.trans q1
    rw [q2] at hkindB
    have := hkindB.symm.trans o3
    cases this
theorem w_ldcW2 (X : Sd l Z n0 y bytes maxL ret R p e (s.setVm vm) m args below T h cells slots) (F : Fw Z EL s vm h) {i : Nat} {text : String} (bs : List Int32) (n : Nat) (hd : decode bytes pc = .ok (.ldc i, 2)) (w : (Jvm.Cond.stringLink y.cls i text).before a0 Z = true) (wS : ∀ a ∈ Bundle.stringAtoms, a.before a0 Z = true) (hEL : EW Z a0 EL) (hmem : (y.cls, i) ∈ EL) (ht : (∀ c ∈ text.toList, c.toNat < 256) ∧ text.toList.map (fun c => Value.int (Jvm.Lit.byteI c.toNat.toUInt16)) = bs.map Value.int) (hb31 : bs.length < 2 ^ 31) (hn' : 4 * text.toList.length ≤ n) (hbig : n ≤ 536870912) (hc : cells + 2 ≤ R.cells) (hl : slots + (n + 4) ≤ R.slots) (hp : pc' = pc + 2)
    (K : ∀ T' h' vm' a b, Sd l Z n0 y bytes maxL ret R p e (s.setVm vm') m args below T' h' (cells + 2) (slots + (n + 4)) → Fw Z EL s vm' h' → CHr Z EL vm h vm' h' → Ext h h' → Exa Z h' a "java/lang/String" → Fld Z h' a "java/lang/String" "coder" "B" (.int 0) → Fld Z h' a "java/lang/String" "value" "[B" (.ref b) → Ary Z h' b .byte bs.length (fun i => .int (bs.getD i 0)) → (∀ x, Safe Z EL vm' h' x → x ≠ a ∧ x ≠ b) → Go p e below G (T'.setTop (mkF m (pc') Ls (.ref a :: S)))) : Go p e below G (T.setTop (mkF m pc Ls S)) := by
  obtain ⟨meth, c, locs, X, eT, N, hx, hby, hml, hown, hnm, hret, hlk, hZ, hn⟩ := X; subst hp
  obtain ⟨k, hS, hk, C⟩ := F
  have q := nat_at (len_toInt hb31)
  obtain ⟨a, T', h', k1, b, kc, X', e', E', hS', hk', hZ', hown', Ea, Fc, Fv, Av, -, -, C', -, hne, st⟩ := ldcCH X hx hZ hown w wS eT hS hk hEL hmem C.1 ht q.2 (by rw [q.1]; simp) (g := mkF m pc Ls S) rfl (hb hby hd) hn' hbig hc hl
  exact go_of st (K T' h' T'.vm a b ⟨meth, c, _, X', e', N, hx, hby, hml, hown', hnm, hret, hlk, hZ', hn⟩ ⟨k1, hS', hk', C.trans C'⟩ C' E' Ea Fc Fv (ary_of_arv Av q.1 hb31) hne)
end WalkV
theorem own_nat (n : Nat) (h : n < 2 ^ 31) : (Int32.ofNat n).toInt = (n : Int) := Int32.toInt_ofNat_small (by omega)
theorem own_succ (n : Nat) : Int32.ofNat n + (1 : Int32) = Int32.ofNat (n + 1) := Int32.ofNat_succ n |>.symm ▸ rfl
theorem own_i8 (c : Int32) : c.toInt8.toInt32.toInt8.toInt32 = c.toInt8.toInt32 := by simp
theorem own_tob (c : Int32) (i : Nat) (hi : i < [c.toInt8.toInt32].length) : upd (fun _ => .int (0 : Int32)) 0 (.int (nar .byte c.toInt8.toInt32)) i = .int ([c.toInt8.toInt32].getD i 0) := by
  have e : i = 0 := by simpa using hi
  subst e
  exact (upd_same _ _ _).trans (congrArg Value.int (own_i8 c))
theorem own_m255 (p : Int32) : ¬ (255 : Int32) < p &&& (255 : Int32) := by
  have e1 : (p &&& (255 : Int32)).toInt = p.toInt % 2 ^ 8 := Jvm.Kit.i32_mask p 255 (k := 8) (by decide) (by decide)
  rw [Int32.lt_iff_toInt_lt, show (255 : Int32).toInt = 255 from by decide]; omega
theorem ary31 {Z : State} {h : Heap} {a : Addr} {ty : FieldType} {n : Nat} {f : Nat → Value} (A : Ary Z h a ty n f) : n < 2 ^ 31 := by obtain ⟨_, _, _, q, _⟩ := A; exact q
theorem own_leq {bs1 bs2 : List Int32} (hl : bs1.length = bs2.length) (h : ∀ j, j < bs1.length → bs1.getD j 0 = bs2.getD j 0) : bs1 = bs2 := by
  apply List.ext_getElem hl
  intro i h1 h2
  have e := h i h1
  simpa [List.getD_eq_getElem?_getD, h1, h2] using e
def own_R (c : Int32) : Prop := 0 ≤ c.toInt ∧ c.toInt < 65536
theorem own_nn (x : Int32) (h : x.toBitVec.toNat < 2 ^ 31) : x.toInt = (x.toBitVec.toNat : Int) := by
  show x.toBitVec.toInt = _
  rw [BitVec.toInt_eq_toNat_cond, if_pos (by omega)]
theorem own_nat' (x : Int32) (h : 0 ≤ x.toInt) : x.toInt = (x.toBitVec.toNat : Int) ∧ x.toBitVec.toNat < 2 ^ 31 := by
  have e : x.toInt = x.toBitVec.toInt := rfl
  rw [e] at h ⊢
  rw [BitVec.toInt_eq_toNat_cond] at h ⊢
  have hl := x.toBitVec.isLt
  by_cases q : 2 * x.toBitVec.toNat < 2 ^ 32
  · rw [if_pos q]; exact ⟨rfl, by omega⟩
  · rw [if_neg q] at h; omega
theorem own_i2cn (p : Int32) : (p.toUInt32.toUInt16.toUInt32.toInt32).toBitVec.toNat = p.toBitVec.toNat % 65536 := by
  simp
theorem own_cr (p : Int32) : own_R (p.toUInt32.toUInt16.toUInt32.toInt32) := by
  have e := own_i2cn p
  have q := own_nn (p.toUInt32.toUInt16.toUInt32.toInt32) (by rw [e]; omega)
  constructor <;> omega
theorem own_i2c {c : Int32} (R : own_R c) : c.toUInt32.toUInt16.toUInt32.toInt32 = c := by
  obtain ⟨q1, q2⟩ := own_nat' c R.1
  have e := own_i2cn c
  apply Int32.toInt_inj.mp
  rw [own_nn _ (by rw [e]; omega), e]
  have := R.2
  omega
theorem own_or {A B : Int32} (hA : 0 ≤ A.toInt ∧ A.toInt < 256) (hB : 0 ≤ B.toInt ∧ B.toInt < 256) : (A ||| (B <<< (8 : Int32))).toInt = A.toInt + B.toInt * 256 := by
  have e1 : (B <<< (8 : Int32)).toInt = B.toInt * 2 ^ 8 := Jvm.Kit.i32_shl B 8 (k := 8) (by decide) (by omega) (by omega)
  obtain ⟨a1, a2⟩ := own_nat' A hA.1
  obtain ⟨b1, b2⟩ := own_nat' B hB.1
  obtain ⟨d1, d2⟩ := own_nat' (B <<< (8 : Int32)) (by omega)
  have e2 : (A ||| (B <<< (8 : Int32))).toBitVec.toNat = A.toBitVec.toNat ||| (B <<< (8 : Int32)).toBitVec.toNat := by
    rw [Int32.toBitVec_or, BitVec.toNat_or]
  have e3 : (B <<< (8 : Int32)).toBitVec.toNat = B.toBitVec.toNat <<< 8 := by rw [Nat.shiftLeft_eq]; omega
  have e4 : B.toBitVec.toNat <<< 8 + A.toBitVec.toNat = B.toBitVec.toNat <<< 8 ||| A.toBitVec.toNat := Nat.shiftLeft_add_eq_or_of_lt (by omega) _
  rw [e3, Nat.or_comm, ← e4, Nat.shiftLeft_eq] at e2
  rw [own_nn _ (by rw [e2]; omega), e2]
  omega
theorem own_b8 (x : Int32) : (x.toInt8.toInt32 &&& (255 : Int32)).toInt = x.toInt % 256 := by
  rw [Jvm.Kit.i32_mask _ 255 (k := 8) (by decide) (by decide), Int8.toInt_toInt32, Int32.toInt_toInt8]
  simp only [Int.bmod_def]; omega
theorem own_lat {c : Int32} (R : own_R c) (h : ¬ (255 : Int32) < c) : (c.toInt8.toInt32 &&& (255 : Int32)).toUInt32.toUInt16.toUInt32.toInt32 = c := by
  rw [i2c_mask]
  apply Int32.toInt_inj.mp
  rw [own_b8]
  rw [Int32.lt_iff_toInt_lt, show (255 : Int32).toInt = 255 from by decide] at h
  have := R.1; omega
theorem own_join {c : Int32} (R : own_R c) : (((c.toInt8.toInt32 &&& (255 : Int32)) <<< ((0 : Int32) &&& 31)) ||| (((c >>> ((8 : Int32) &&& 31)).toInt8.toInt32 &&& (255 : Int32)) <<< ((8 : Int32) &&& 31))).toUInt32.toUInt16.toUInt32.toInt32 = c := by
  have e1 := own_b8 c
  have e2 := own_b8 (c >>> ((8 : Int32) &&& 31))
  have e3 : (c >>> ((8 : Int32) &&& 31)).toInt = c.toInt / 2 ^ 8 := Jvm.Kit.i32_shr c _ (k := 8) (by decide)
  have e0 : ((c.toInt8.toInt32 &&& (255 : Int32)) <<< ((0 : Int32) &&& 31)) = (c.toInt8.toInt32 &&& (255 : Int32)) := by
    apply Int32.toInt_inj.mp
    rw [Jvm.Kit.i32_shl _ _ (k := 0) (by decide) (by omega) (by omega)]; omega
  have R1 := R.1
  have R2 := R.2
  have e4 : (((c.toInt8.toInt32 &&& (255 : Int32))) ||| (((c >>> ((8 : Int32) &&& 31)).toInt8.toInt32 &&& (255 : Int32)) <<< ((8 : Int32) &&& 31))) = c := by
    apply Int32.toInt_inj.mp
    rw [show ((8 : Int32) &&& 31) = 8 from by decide] at e2 e3 ⊢
    rw [own_or (by omega) (by omega), e1, e2, e3]
    omega
  rw [e0, e4]
  exact own_i2c R
theorem own_shr0 (c : Int32) : c >>> ((0 : Int32) &&& 31) = c := by
  apply Int32.toInt_inj.mp
  rw [Jvm.Kit.i32_shr c _ (k := 0) (by decide)]; omega
def own_u16 (cs : List Int32) (i : Nat) : Value := .int (if i % 2 = 0 then (cs.getD (i / 2) 0).toInt8.toInt32 else ((cs.getD (i / 2) 0) >>> ((8 : Int32) &&& 31)).toInt8.toInt32)
/-- the String a says the signs cs, compact or not -/
def StrU (Z : State) (h : Heap) (a : Addr) (cs : List Int32) : Prop :=
  (∃ b, Exa Z h a "java/lang/String" ∧ Fld Z h a "java/lang/String" "coder" "B" (.int 0) ∧ Fld Z h a "java/lang/String" "value" "[B" (.ref b) ∧ Ary Z h b .byte cs.length (fun i => .int (cs.getD i 0).toInt8.toInt32) ∧ ∀ i, i < cs.length → ¬ (255 : Int32) < cs.getD i 0) ∨
  ∃ b, Exa Z h a "java/lang/String" ∧ Fld Z h a "java/lang/String" "coder" "B" (.int 1) ∧ Fld Z h a "java/lang/String" "value" "[B" (.ref b) ∧ Ary Z h b .byte (2 * cs.length) (own_u16 cs)
theorem StrU.exa {Z : State} {h : Heap} {a : Addr} {cs : List Int32} (U : StrU Z h a cs) : Exa Z h a "java/lang/String" := by rcases U with ⟨b, E, -⟩ | ⟨b, E, -⟩ <;> exact E
def own_run : List Int32 → Int32
  | [] => 0
  | c :: cs => if c < 48 then 0 else if 57 < c then 0 else 1 + own_run cs
theorem own_rp {c : Int32} {cs : List Int32} (h1 : ¬ c < 48) (h2 : ¬ 57 < c) : own_run (c :: cs) = 1 + own_run cs := by rw [own_run, if_neg h1, if_neg h2]
theorem own_rn1 {c : Int32} {cs : List Int32} (h1 : c < 48) : own_run (c :: cs) = 0 := by rw [own_run, if_pos h1]
theorem own_rn2 {c : Int32} {cs : List Int32} (h2 : 57 < c) : own_run (c :: cs) = 0 := by
  by_cases h1 : c < 48
  · exact own_rn1 h1
  · rw [own_run, if_neg h1, if_pos h2]
def own_da (c : Int32) : Int32 := if c < 48 then 0 else if 57 < c then 0 else 1
theorem own_pc1 (p : Int32) : nar .byte ((p >>> ((0 : Int32) &&& 31)).toInt8.toInt32) = p.toInt8.toInt32 := by rw [own_shr0]; exact own_i8 p
theorem own_pc2 (p : Int32) : nar .byte ((p >>> ((8 : Int32) &&& 31)).toInt8.toInt32) = (p >>> ((8 : Int32) &&& 31)).toInt8.toInt32 := own_i8 _
theorem own_d1 {c : Int32} (h : ¬ own_da c = 0) : ¬ c < 48 ∧ ¬ 57 < c := by
  unfold own_da at h
  by_cases a : c < 48
  · rw [if_pos a] at h; exact absurd rfl h
  · rw [if_neg a] at h
    by_cases b : 57 < c
    · rw [if_pos b] at h; exact absurd rfl h
    · exact ⟨a, b⟩
theorem own_d0 {c : Int32} {cs : List Int32} (h : own_da c = 0) : own_run (c :: cs) = 0 := by
  unfold own_da at h
  by_cases a : c < 48
  · exact own_rn1 a
  · rw [if_neg a] at h
    by_cases b : 57 < c
    · exact own_rn2 b
    · rw [if_neg b] at h; exact absurd h (by decide)
theorem d17_0 : decode jdk_41_method_11_code 0 = .ok (.iload_n 0, 1) := by decide +kernel
theorem d17_1 : decode jdk_41_method_11_code 1 = .ok (.ifCond .lt 8, 3) := by decide +kernel
theorem d17_4 : decode jdk_41_method_11_code 4 = .ok (.iload_n 0, 1) := by decide +kernel
theorem d17_5 : decode jdk_41_method_11_code 5 = .ok (.iload_n 1, 1) := by decide +kernel
theorem d17_6 : decode jdk_41_method_11_code 6 = .ok (.if_icmp .lt 10, 3) := by decide +kernel
theorem d17_9 : decode jdk_41_method_11_code 9 = .ok (.aload_n 2, 1) := by decide +kernel
theorem d17_10 : decode jdk_41_method_11_code 10 = .ok (.iload_n 0, 1) := by decide +kernel
theorem d17_11 : decode jdk_41_method_11_code 11 = .ok (.iload_n 1, 1) := by decide +kernel
theorem d17_12 : decode jdk_41_method_11_code 12 = .ok (.invokestatic 95, 3) := by decide +kernel
theorem d17_15 : decode jdk_41_method_11_code 15 = .ok (.athrow, 1) := by decide +kernel
theorem d17_16 : decode jdk_41_method_11_code 16 = .ok (.iload_n 0, 1) := by decide +kernel
theorem d17_17 : decode jdk_41_method_11_code 17 = .ok (.ireturn, 1) := by decide +kernel
theorem pn_17 : plainFor (⟨"jdk/internal/util/Preconditions", "checkIndex", "(IILjava/util/function/BiFunction;)I"⟩ : MethodName) = true := plainFor_of_name (by first | (simp [plainName, overriddenIn]; done) | decide +kernel)
theorem pd_17 : parseMethodDescriptor "(IILjava/util/function/BiFunction;)I" = some ⟨[.int, .int, (.object "java/util/function/BiFunction")], some .int⟩ := by decide +kernel
set_option maxRecDepth 65536 in
set_option maxHeartbeats 40000000 in
theorem rm_pcin {l : Launch} {Z : State} {a0 : Array Value} (hw : ∀ d ∈ tables_1, d.before a0 Z = true) {n0 : Nat} {h0 : Heap} (Z0 : n0 ≤ h0.size) (p1 p2 : Int32) (q1 : ¬ p1 < 0) (q2 : p1 < p2) :
    Con l Z n0 (⟨"jdk/internal/util/Preconditions", "checkIndex", "(IILjava/util/function/BiFunction;)I"⟩ : MethodName) jdk_41_method_11_code 3 (some .int) ({ frames := 0, cells := 0, slots := 0, locals := 0 } : Room) #[(.int p1), (.int p2), .null] h0 (Val (fun v h => v = .int p1 ∧ h0 = h)) := by
  refine con_intro pn_17 Z0 (fr := fun m => mkF m 0 #[.val (.int p1), .val (.int p2), .val .null] []) (fun m => by first | (simp [entryFrame, mkF, argsToLocals, Value.category]; done) | rfl) ?_
  intro p e s m below s₁ hs0 X0
  refine w_iloadN X0 (pc' := 1) d17_0 rfl rfl ?_
  refine w_if_lt X0 9 4 d17_1 (by decide) rfl rfl (fun hc1 => by exfalso; exact q1 hc1) (fun hc1 => ?_)
  refine w_iloadN X0 (pc' := 5) d17_4 rfl rfl ?_
  refine w_iloadN X0 (pc' := 6) d17_5 rfl rfl ?_
  refine w_icmp_lt X0 16 9 d17_6 (by decide) rfl rfl (fun hc6 => ?_) (fun hc6 => by exfalso; exact hc6 q2)
  refine w_iloadN X0 (pc' := 17) d17_16 rfl rfl ?_
  exact w_ireturn X0 d17_17 ⟨rfl, rfl⟩ (by decide) (by decide)
set_option maxRecDepth 65536 in
set_option maxHeartbeats 40000000 in
theorem rm_pcir {l : Launch} {Z : State} {a0 : Array Value} (hw : ∀ d ∈ tables_1, d.before a0 Z = true) {n0 : Nat} {h0 : Heap} (Z0 : n0 ≤ h0.size) (p1 p2 : Int32) (d2 : Addr) (q1 : ¬ p1 < 0) (q2 : p1 < p2) :
    Con l Z n0 (⟨"jdk/internal/util/Preconditions", "checkIndex", "(IILjava/util/function/BiFunction;)I"⟩ : MethodName) jdk_41_method_11_code 3 (some .int) ({ frames := 0, cells := 0, slots := 0, locals := 0 } : Room) #[(.int p1), (.int p2), (.ref d2)] h0 (Val (fun v h => v = .int p1 ∧ h0 = h)) := by
  refine con_intro pn_17 Z0 (fr := fun m => mkF m 0 #[.val (.int p1), .val (.int p2), .val (.ref d2)] []) (fun m => by first | (simp [entryFrame, mkF, argsToLocals, Value.category]; done) | rfl) ?_
  intro p e s m below s₁ hs0 X0
  refine w_iloadN X0 (pc' := 1) d17_0 rfl rfl ?_
  refine w_if_lt X0 9 4 d17_1 (by decide) rfl rfl (fun hc1 => by exfalso; exact q1 hc1) (fun hc1 => ?_)
  refine w_iloadN X0 (pc' := 5) d17_4 rfl rfl ?_
  refine w_iloadN X0 (pc' := 6) d17_5 rfl rfl ?_
  refine w_icmp_lt X0 16 9 d17_6 (by decide) rfl rfl (fun hc6 => ?_) (fun hc6 => by exfalso; exact hc6 q2)
  refine w_iloadN X0 (pc' := 17) d17_16 rfl rfl ?_
  exact w_ireturn X0 d17_17 ⟨rfl, rfl⟩ (by decide) (by decide)
theorem rm_pci {l : Launch} {Z : State} {a0 : Array Value} (hw : ∀ d ∈ tables_1, d.before a0 Z = true) {n0 : Nat} {h0 : Heap} (Z0 : n0 ≤ h0.size) (p1 p2 : Int32) {fm : Value} (hfm : fm.isRef = true) (q1 : ¬ p1 < 0) (q2 : p1 < p2) : Con l Z n0 (⟨"jdk/internal/util/Preconditions", "checkIndex", "(IILjava/util/function/BiFunction;)I"⟩ : MethodName) jdk_41_method_11_code 3 (some .int) ({ frames := 0, cells := 0, slots := 0, locals := 0 } : Room) #[.int p1, .int p2, fm] h0 (Val (fun v h => v = .int p1 ∧ h0 = h)) := by
  rcases ref_cases hfm with rfl | ⟨d2, rfl⟩
  · exact rm_pcin hw Z0 p1 p2 q1 q2
  · exact rm_pcir hw Z0 p1 p2 d2 q1 q2
theorem d16_0 : decode jdk_42_method_155_code 0 = .ok (.iload_n 0, 1) := by decide +kernel
theorem d16_1 : decode jdk_42_method_155_code 1 = .ok (.iload_n 1, 1) := by decide +kernel
theorem d16_2 : decode jdk_42_method_155_code 2 = .ok (.getstatic 1053, 3) := by decide +kernel
theorem d16_5 : decode jdk_42_method_155_code 5 = .ok (.invokestatic 1059, 3) := by decide +kernel
theorem d16_8 : decode jdk_42_method_155_code 8 = .ok (.pop, 1) := by decide +kernel
theorem d16_9 : decode jdk_42_method_155_code 9 = .ok (.return_, 1) := by decide +kernel
theorem pn_16 : plainFor (⟨"java/lang/String", "checkIndex", "(II)V"⟩ : MethodName) = true := plainFor_of_name (by first | (simp [plainName, overriddenIn]; done) | decide +kernel)
theorem pd_16 : parseMethodDescriptor "(II)V" = some ⟨[.int, .int], none⟩ := by decide +kernel
set_option maxRecDepth 65536 in
set_option maxHeartbeats 40000000 in
theorem rm_ci {l : Launch} {Z : State} {a0 : Array Value} (hw : ∀ d ∈ tables_1, d.before a0 Z = true) {n0 : Nat} {h0 : Heap} (Z0 : n0 ≤ h0.size) (p1 p2 : Int32) {zc : Int32} (S_c : Sta Z h0 "java/lang/String" "COMPACT_STRINGS" "Z" (.int zc)) (hzc : ¬ zc = (0 : Int32)) {fm : Value} (S_f : Sta Z h0 "jdk/internal/util/Preconditions" "SIOOBE_FORMATTER" "Ljava/util/function/BiFunction;" fm) (hfm : fm.isRef = true) (S_a : Sta Z h0 "java/lang/StringUTF16" "$assertionsDisabled" "Z" (.int 1)) (S_h : Sta Z h0 "java/lang/StringUTF16" "HI_BYTE_SHIFT" "I" (.int 0)) (S_l : Sta Z h0 "java/lang/StringUTF16" "LO_BYTE_SHIFT" "I" (.int 8)) (q1 : ¬ p1 < 0) (q2 : p1 < p2) :
    Con l Z n0 (⟨"java/lang/String", "checkIndex", "(II)V"⟩ : MethodName) jdk_42_method_155_code 2 none ({ frames := 1, cells := 0, slots := 0, locals := 14 } : Room) #[(.int p1), (.int p2)] h0 (Non (fun h => h0 = h)) := by
  refine con_intro pn_16 Z0 (fr := fun m => mkF m 0 #[.val (.int p1), .val (.int p2)] []) (fun m => by first | (simp [entryFrame, mkF, argsToLocals, Value.category]; done) | rfl) ?_
  intro p e s m below s₁ hs0 X0
  refine w_iloadN X0 (pc' := 1) d16_0 rfl rfl ?_
  refine w_iloadN X0 (pc' := 2) d16_1 rfl rfl ?_
  refine w_getstatic X0 (pc' := 5) d16_2 (host := "") (Or.inl (hw _ (List.mem_of_getElem? (i := 74) rfl))) Via.refl S_f rfl fun T1 X1 => ?_
  refine w_staticV X1 (pc' := 8) d16_5 (rm_pci hw (h0 := h0) (sd_size X1) p1 p2 hfm q1 q2) (hw _ (List.mem_of_getElem? (i := 76) rfl)) (hw _ (List.mem_of_getElem? (i := 77) rfl)) (hw _ (List.mem_of_getElem? (i := 75) rfl)) (hw _ (List.mem_of_getElem? (i := 78) rfl)) (by decide) [(.int p1), (.int p2), fm] [] pd_17 rfl rfl rfl rfl 0 (Nat.le_refl _) (by decide) (by decide) (by decide) (by decide) rfl fun T2 h2 v2 X2 q2 => ?_
  obtain ⟨rfl, rfl⟩ := q2
  refine w_pop X2 (pc' := 9) d16_8 rfl rfl ?_
  exact w_return X2 d16_9 rfl (by decide) (by decide)
theorem d7_0 : decode jdk_42_method_152_code 0 = .ok (.getstatic 38, 3) := by decide +kernel
theorem d7_3 : decode jdk_42_method_152_code 3 = .ok (.ifCond .eq 10, 3) := by decide +kernel
theorem d7_6 : decode jdk_42_method_152_code 6 = .ok (.aload_n 0, 1) := by decide +kernel
theorem d7_7 : decode jdk_42_method_152_code 7 = .ok (.getfield 15, 3) := by decide +kernel
theorem d7_10 : decode jdk_42_method_152_code 10 = .ok (.goto 4, 3) := by decide +kernel
theorem d7_13 : decode jdk_42_method_152_code 13 = .ok (.iconst 1, 1) := by decide +kernel
theorem d7_14 : decode jdk_42_method_152_code 14 = .ok (.ireturn, 1) := by decide +kernel
theorem pn_7 : plainFor (⟨"java/lang/String", "coder", "()B"⟩ : MethodName) = true := plainFor_of_name (by first | (simp [plainName, overriddenIn]; done) | decide +kernel)
theorem pd_7 : parseMethodDescriptor "()B" = some ⟨[], some .byte⟩ := by decide +kernel
set_option maxRecDepth 65536 in
set_option maxHeartbeats 40000000 in
theorem rm_cdr0 {l : Launch} {Z : State} {a0 : Array Value} (hw : ∀ d ∈ tables_1, d.before a0 Z = true) {n0 : Nat} {h0 : Heap} (Z0 : n0 ≤ h0.size) (a1 : Addr) {zc : Int32} (S_c : Sta Z h0 "java/lang/String" "COMPACT_STRINGS" "Z" (.int zc)) (hzc : ¬ zc = (0 : Int32)) {fm : Value} (S_f : Sta Z h0 "jdk/internal/util/Preconditions" "SIOOBE_FORMATTER" "Ljava/util/function/BiFunction;" fm) (hfm : fm.isRef = true) (S_a : Sta Z h0 "java/lang/StringUTF16" "$assertionsDisabled" "Z" (.int 1)) (S_h : Sta Z h0 "java/lang/StringUTF16" "HI_BYTE_SHIFT" "I" (.int 0)) (S_l : Sta Z h0 "java/lang/StringUTF16" "LO_BYTE_SHIFT" "I" (.int 8)) (F_c : Fld Z h0 a1 "java/lang/String" "coder" "B" (.int 0)) :
    Con l Z n0 (⟨"java/lang/String", "coder", "()B"⟩ : MethodName) jdk_42_method_152_code 1 (some .byte) ({ frames := 0, cells := 0, slots := 0, locals := 0 } : Room) #[(.ref a1)] h0 (Val (fun v h => v = .int 0 ∧ h0 = h)) := by
  refine con_intro pn_7 Z0 (fr := fun m => mkF m 0 #[.val (.ref a1)] []) (fun m => by first | (simp [entryFrame, mkF, argsToLocals, Value.category]; done) | rfl) ?_
  intro p e s m below s₁ hs0 X0
  refine w_getstatic X0 (pc' := 3) d7_0 (host := "") (Or.inl (hw _ (List.mem_of_getElem? (i := 40) rfl))) Via.refl S_c rfl fun T1 X1 => ?_
  refine w_if_eq X1 13 6 d7_3 (by decide) rfl rfl (fun hc3 => by exfalso; exact hzc hc3) (fun hc3 => ?_)
  refine w_aloadN X1 (pc' := 7) d7_6 rfl rfl rfl ?_
  refine w_getfield X1 (pc' := 10) d7_7 (host := "") (Or.inl (hw _ (List.mem_of_getElem? (i := 25) rfl))) Via.refl F_c rfl fun T2 X2 => ?_
  refine w_goto X2 (pc' := 14) d7_10 (by decide) rfl ?_
  exact w_breturn X2 d7_14 ⟨by decide, rfl⟩ (by decide) (by decide)
theorem d14_0 : decode jdk_42_method_154_code 0 = .ok (.getstatic 38, 3) := by decide +kernel
theorem d14_3 : decode jdk_42_method_154_code 3 = .ok (.ifCond .eq 14, 3) := by decide +kernel
theorem d14_6 : decode jdk_42_method_154_code 6 = .ok (.aload_n 0, 1) := by decide +kernel
theorem d14_7 : decode jdk_42_method_154_code 7 = .ok (.getfield 15, 3) := by decide +kernel
theorem d14_10 : decode jdk_42_method_154_code 10 = .ok (.ifCond .ne 7, 3) := by decide +kernel
theorem d14_13 : decode jdk_42_method_154_code 13 = .ok (.iconst 1, 1) := by decide +kernel
theorem d14_14 : decode jdk_42_method_154_code 14 = .ok (.goto 4, 3) := by decide +kernel
theorem d14_17 : decode jdk_42_method_154_code 17 = .ok (.iconst 0, 1) := by decide +kernel
theorem d14_18 : decode jdk_42_method_154_code 18 = .ok (.ireturn, 1) := by decide +kernel
theorem pn_14 : plainFor (⟨"java/lang/String", "isLatin1", "()Z"⟩ : MethodName) = true := plainFor_of_name (by first | (simp [plainName, overriddenIn]; done) | decide +kernel)
theorem pd_14 : parseMethodDescriptor "()Z" = some ⟨[], some .boolean⟩ := by decide +kernel
set_option maxRecDepth 65536 in
set_option maxHeartbeats 40000000 in
theorem rm_isl0 {l : Launch} {Z : State} {a0 : Array Value} (hw : ∀ d ∈ tables_1, d.before a0 Z = true) {n0 : Nat} {h0 : Heap} (Z0 : n0 ≤ h0.size) (a1 : Addr) {zc : Int32} (S_c : Sta Z h0 "java/lang/String" "COMPACT_STRINGS" "Z" (.int zc)) (hzc : ¬ zc = (0 : Int32)) {fm : Value} (S_f : Sta Z h0 "jdk/internal/util/Preconditions" "SIOOBE_FORMATTER" "Ljava/util/function/BiFunction;" fm) (hfm : fm.isRef = true) (S_a : Sta Z h0 "java/lang/StringUTF16" "$assertionsDisabled" "Z" (.int 1)) (S_h : Sta Z h0 "java/lang/StringUTF16" "HI_BYTE_SHIFT" "I" (.int 0)) (S_l : Sta Z h0 "java/lang/StringUTF16" "LO_BYTE_SHIFT" "I" (.int 8)) (F_c : Fld Z h0 a1 "java/lang/String" "coder" "B" (.int 0)) :
    Con l Z n0 (⟨"java/lang/String", "isLatin1", "()Z"⟩ : MethodName) jdk_42_method_154_code 1 (some .boolean) ({ frames := 0, cells := 0, slots := 0, locals := 0 } : Room) #[(.ref a1)] h0 (Val (fun v h => v = .int 1 ∧ h0 = h)) := by
  refine con_intro pn_14 Z0 (fr := fun m => mkF m 0 #[.val (.ref a1)] []) (fun m => by first | (simp [entryFrame, mkF, argsToLocals, Value.category]; done) | rfl) ?_
  intro p e s m below s₁ hs0 X0
  refine w_getstatic X0 (pc' := 3) d14_0 (host := "") (Or.inl (hw _ (List.mem_of_getElem? (i := 40) rfl))) Via.refl S_c rfl fun T1 X1 => ?_
  refine w_if_eq X1 17 6 d14_3 (by decide) rfl rfl (fun hc3 => by exfalso; exact hzc hc3) (fun hc3 => ?_)
  refine w_aloadN X1 (pc' := 7) d14_6 rfl rfl rfl ?_
  refine w_getfield X1 (pc' := 10) d14_7 (host := "") (Or.inl (hw _ (List.mem_of_getElem? (i := 25) rfl))) Via.refl F_c rfl fun T2 X2 => ?_
  refine w_if_ne X2 17 13 d14_10 (by decide) rfl rfl (fun hc10 => by exfalso; revert hc10; decide) (fun hc10 => ?_)
  refine w_iconst X2 (pc' := 14) (1 : Int32) d14_13 rfl rfl ?_
  refine w_goto X2 (pc' := 18) d14_14 (by decide) rfl ?_
  exact w_zreturn X2 d14_18 ⟨by decide, rfl⟩ (by decide) (by decide)
set_option maxRecDepth 65536 in
set_option maxHeartbeats 40000000 in
theorem rm_cdr1 {l : Launch} {Z : State} {a0 : Array Value} (hw : ∀ d ∈ tables_1, d.before a0 Z = true) {n0 : Nat} {h0 : Heap} (Z0 : n0 ≤ h0.size) (a1 : Addr) {zc : Int32} (S_c : Sta Z h0 "java/lang/String" "COMPACT_STRINGS" "Z" (.int zc)) (hzc : ¬ zc = (0 : Int32)) {fm : Value} (S_f : Sta Z h0 "jdk/internal/util/Preconditions" "SIOOBE_FORMATTER" "Ljava/util/function/BiFunction;" fm) (hfm : fm.isRef = true) (S_a : Sta Z h0 "java/lang/StringUTF16" "$assertionsDisabled" "Z" (.int 1)) (S_h : Sta Z h0 "java/lang/StringUTF16" "HI_BYTE_SHIFT" "I" (.int 0)) (S_l : Sta Z h0 "java/lang/StringUTF16" "LO_BYTE_SHIFT" "I" (.int 8)) (F_c : Fld Z h0 a1 "java/lang/String" "coder" "B" (.int 1)) :
    Con l Z n0 (⟨"java/lang/String", "coder", "()B"⟩ : MethodName) jdk_42_method_152_code 1 (some .byte) ({ frames := 0, cells := 0, slots := 0, locals := 0 } : Room) #[(.ref a1)] h0 (Val (fun v h => v = .int 1 ∧ h0 = h)) := by
  refine con_intro pn_7 Z0 (fr := fun m => mkF m 0 #[.val (.ref a1)] []) (fun m => by first | (simp [entryFrame, mkF, argsToLocals, Value.category]; done) | rfl) ?_
  intro p e s m below s₁ hs0 X0
  refine w_getstatic X0 (pc' := 3) d7_0 (host := "") (Or.inl (hw _ (List.mem_of_getElem? (i := 40) rfl))) Via.refl S_c rfl fun T1 X1 => ?_
  refine w_if_eq X1 13 6 d7_3 (by decide) rfl rfl (fun hc3 => by exfalso; exact hzc hc3) (fun hc3 => ?_)
  refine w_aloadN X1 (pc' := 7) d7_6 rfl rfl rfl ?_
  refine w_getfield X1 (pc' := 10) d7_7 (host := "") (Or.inl (hw _ (List.mem_of_getElem? (i := 25) rfl))) Via.refl F_c rfl fun T2 X2 => ?_
  refine w_goto X2 (pc' := 14) d7_10 (by decide) rfl ?_
  exact w_breturn X2 d7_14 ⟨by decide, rfl⟩ (by decide) (by decide)
set_option maxRecDepth 65536 in
set_option maxHeartbeats 40000000 in
theorem rm_isl1 {l : Launch} {Z : State} {a0 : Array Value} (hw : ∀ d ∈ tables_1, d.before a0 Z = true) {n0 : Nat} {h0 : Heap} (Z0 : n0 ≤ h0.size) (a1 : Addr) {zc : Int32} (S_c : Sta Z h0 "java/lang/String" "COMPACT_STRINGS" "Z" (.int zc)) (hzc : ¬ zc = (0 : Int32)) {fm : Value} (S_f : Sta Z h0 "jdk/internal/util/Preconditions" "SIOOBE_FORMATTER" "Ljava/util/function/BiFunction;" fm) (hfm : fm.isRef = true) (S_a : Sta Z h0 "java/lang/StringUTF16" "$assertionsDisabled" "Z" (.int 1)) (S_h : Sta Z h0 "java/lang/StringUTF16" "HI_BYTE_SHIFT" "I" (.int 0)) (S_l : Sta Z h0 "java/lang/StringUTF16" "LO_BYTE_SHIFT" "I" (.int 8)) (F_c : Fld Z h0 a1 "java/lang/String" "coder" "B" (.int 1)) :
    Con l Z n0 (⟨"java/lang/String", "isLatin1", "()Z"⟩ : MethodName) jdk_42_method_154_code 1 (some .boolean) ({ frames := 0, cells := 0, slots := 0, locals := 0 } : Room) #[(.ref a1)] h0 (Val (fun v h => v = .int 0 ∧ h0 = h)) := by
  refine con_intro pn_14 Z0 (fr := fun m => mkF m 0 #[.val (.ref a1)] []) (fun m => by first | (simp [entryFrame, mkF, argsToLocals, Value.category]; done) | rfl) ?_
  intro p e s m below s₁ hs0 X0
  refine w_getstatic X0 (pc' := 3) d14_0 (host := "") (Or.inl (hw _ (List.mem_of_getElem? (i := 40) rfl))) Via.refl S_c rfl fun T1 X1 => ?_
  refine w_if_eq X1 17 6 d14_3 (by decide) rfl rfl (fun hc3 => by exfalso; exact hzc hc3) (fun hc3 => ?_)
  refine w_aloadN X1 (pc' := 7) d14_6 rfl rfl rfl ?_
  refine w_getfield X1 (pc' := 10) d14_7 (host := "") (Or.inl (hw _ (List.mem_of_getElem? (i := 25) rfl))) Via.refl F_c rfl fun T2 X2 => ?_
  refine w_if_ne X2 17 13 d14_10 (by decide) rfl rfl (fun hc10 => ?_) (fun hc10 => by exfalso; revert hc10; decide)
  refine w_iconst X2 (pc' := 18) (0 : Int32) d14_17 rfl rfl ?_
  exact w_zreturn X2 d14_18 ⟨by decide, rfl⟩ (by decide) (by decide)
theorem d25_0 : decode jdk_52_method_6_code 0 = .ok (.aload_n 0, 1) := by decide +kernel
theorem d25_1 : decode jdk_52_method_6_code 1 = .ok (.arraylength, 1) := by decide +kernel
theorem d25_2 : decode jdk_52_method_6_code 2 = .ok (.iconst 1, 1) := by decide +kernel
theorem d25_3 : decode jdk_52_method_6_code 3 = .ok (.ishr, 1) := by decide +kernel
theorem d25_4 : decode jdk_52_method_6_code 4 = .ok (.ireturn, 1) := by decide +kernel
theorem pn_25 : plainFor (⟨"java/lang/StringUTF16", "length", "([B)I"⟩ : MethodName) = true := plainFor_of_name (by first | (simp [plainName, overriddenIn]; done) | decide +kernel)
theorem pd_25 : parseMethodDescriptor "([B)I" = some ⟨[(.array .byte)], some .int⟩ := by decide +kernel
set_option maxRecDepth 65536 in
set_option maxHeartbeats 40000000 in
theorem rm_ul1 {l : Launch} {Z : State} {a0 : Array Value} (hw : ∀ d ∈ tables_1, d.before a0 Z = true) {n0 : Nat} {h0 : Heap} (Z0 : n0 ≤ h0.size) (a1 : Addr) {f : Nat → Value} (A_1 : Ary Z h0 a1 .byte 2 f) :
    Con l Z n0 (⟨"java/lang/StringUTF16", "length", "([B)I"⟩ : MethodName) jdk_52_method_6_code 1 (some .int) ({ frames := 0, cells := 0, slots := 0, locals := 0 } : Room) #[(.ref a1)] h0 (Val (fun v h => v = .int 1 ∧ h0 = h)) := by
  refine con_intro pn_25 Z0 (fr := fun m => mkF m 0 #[.val (.ref a1)] []) (fun m => by first | (simp [entryFrame, mkF, argsToLocals, Value.category]; done) | rfl) ?_
  intro p e s m below s₁ hs0 X0
  refine w_aloadN X0 (pc' := 1) d25_0 rfl rfl rfl ?_
  refine w_arraylength X0 (pc' := 2) (2 : Int32) d25_1 A_1 (by decide) rfl ?_
  refine w_iconst X0 (pc' := 3) (1 : Int32) d25_2 rfl rfl ?_
  refine w_ishr X0 (pc' := 4) d25_3 rfl ?_
  exact w_ireturn X0 d25_4 ⟨by decide, rfl⟩ (by decide) (by decide)
set_option maxRecDepth 65536 in
set_option maxHeartbeats 40000000 in
theorem rm_ul2 {l : Launch} {Z : State} {a0 : Array Value} (hw : ∀ d ∈ tables_1, d.before a0 Z = true) {n0 : Nat} {h0 : Heap} (Z0 : n0 ≤ h0.size) (a1 : Addr) {f : Nat → Value} (A_1 : Ary Z h0 a1 .byte 4 f) :
    Con l Z n0 (⟨"java/lang/StringUTF16", "length", "([B)I"⟩ : MethodName) jdk_52_method_6_code 1 (some .int) ({ frames := 0, cells := 0, slots := 0, locals := 0 } : Room) #[(.ref a1)] h0 (Val (fun v h => v = .int 2 ∧ h0 = h)) := by
  refine con_intro pn_25 Z0 (fr := fun m => mkF m 0 #[.val (.ref a1)] []) (fun m => by first | (simp [entryFrame, mkF, argsToLocals, Value.category]; done) | rfl) ?_
  intro p e s m below s₁ hs0 X0
  refine w_aloadN X0 (pc' := 1) d25_0 rfl rfl rfl ?_
  refine w_arraylength X0 (pc' := 2) (4 : Int32) d25_1 A_1 (by decide) rfl ?_
  refine w_iconst X0 (pc' := 3) (1 : Int32) d25_2 rfl rfl ?_
  refine w_ishr X0 (pc' := 4) d25_3 rfl ?_
  exact w_ireturn X0 d25_4 ⟨by decide, rfl⟩ (by decide) (by decide)
set_option maxRecDepth 65536 in
set_option maxHeartbeats 40000000 in
theorem rm_ul3 {l : Launch} {Z : State} {a0 : Array Value} (hw : ∀ d ∈ tables_1, d.before a0 Z = true) {n0 : Nat} {h0 : Heap} (Z0 : n0 ≤ h0.size) (a1 : Addr) {f : Nat → Value} (A_1 : Ary Z h0 a1 .byte 6 f) :
    Con l Z n0 (⟨"java/lang/StringUTF16", "length", "([B)I"⟩ : MethodName) jdk_52_method_6_code 1 (some .int) ({ frames := 0, cells := 0, slots := 0, locals := 0 } : Room) #[(.ref a1)] h0 (Val (fun v h => v = .int 3 ∧ h0 = h)) := by
  refine con_intro pn_25 Z0 (fr := fun m => mkF m 0 #[.val (.ref a1)] []) (fun m => by first | (simp [entryFrame, mkF, argsToLocals, Value.category]; done) | rfl) ?_
  intro p e s m below s₁ hs0 X0
  refine w_aloadN X0 (pc' := 1) d25_0 rfl rfl rfl ?_
  refine w_arraylength X0 (pc' := 2) (6 : Int32) d25_1 A_1 (by decide) rfl ?_
  refine w_iconst X0 (pc' := 3) (1 : Int32) d25_2 rfl rfl ?_
  refine w_ishr X0 (pc' := 4) d25_3 rfl ?_
  exact w_ireturn X0 d25_4 ⟨by decide, rfl⟩ (by decide) (by decide)
set_option maxRecDepth 65536 in
set_option maxHeartbeats 40000000 in
theorem rm_ul4 {l : Launch} {Z : State} {a0 : Array Value} (hw : ∀ d ∈ tables_1, d.before a0 Z = true) {n0 : Nat} {h0 : Heap} (Z0 : n0 ≤ h0.size) (a1 : Addr) {f : Nat → Value} (A_1 : Ary Z h0 a1 .byte 8 f) :
    Con l Z n0 (⟨"java/lang/StringUTF16", "length", "([B)I"⟩ : MethodName) jdk_52_method_6_code 1 (some .int) ({ frames := 0, cells := 0, slots := 0, locals := 0 } : Room) #[(.ref a1)] h0 (Val (fun v h => v = .int 4 ∧ h0 = h)) := by
  refine con_intro pn_25 Z0 (fr := fun m => mkF m 0 #[.val (.ref a1)] []) (fun m => by first | (simp [entryFrame, mkF, argsToLocals, Value.category]; done) | rfl) ?_
  intro p e s m below s₁ hs0 X0
  refine w_aloadN X0 (pc' := 1) d25_0 rfl rfl rfl ?_
  refine w_arraylength X0 (pc' := 2) (8 : Int32) d25_1 A_1 (by decide) rfl ?_
  refine w_iconst X0 (pc' := 3) (1 : Int32) d25_2 rfl rfl ?_
  refine w_ishr X0 (pc' := 4) d25_3 rfl ?_
  exact w_ireturn X0 d25_4 ⟨by decide, rfl⟩ (by decide) (by decide)
theorem d24_0 : decode jdk_52_method_91_code 0 = .ok (.iload_n 0, 1) := by decide +kernel
theorem d24_1 : decode jdk_52_method_91_code 1 = .ok (.aload_n 1, 1) := by decide +kernel
theorem d24_2 : decode jdk_52_method_91_code 2 = .ok (.invokestatic 48, 3) := by decide +kernel
theorem d24_5 : decode jdk_52_method_91_code 5 = .ok (.invokestatic 414, 3) := by decide +kernel
theorem d24_8 : decode jdk_52_method_91_code 8 = .ok (.return_, 1) := by decide +kernel
theorem pn_24 : plainFor (⟨"java/lang/StringUTF16", "checkIndex", "(I[B)V"⟩ : MethodName) = true := plainFor_of_name (by first | (simp [plainName, overriddenIn]; done) | decide +kernel)
theorem pd_24 : parseMethodDescriptor "(I[B)V" = some ⟨[.int, (.array .byte)], none⟩ := by decide +kernel
set_option maxRecDepth 65536 in
set_option maxHeartbeats 40000000 in
theorem rm_uci1_0 {l : Launch} {Z : State} {a0 : Array Value} (hw : ∀ d ∈ tables_1, d.before a0 Z = true) {n0 : Nat} {h0 : Heap} (Z0 : n0 ≤ h0.size) (a2 : Addr) {zc : Int32} (S_c : Sta Z h0 "java/lang/String" "COMPACT_STRINGS" "Z" (.int zc)) (hzc : ¬ zc = (0 : Int32)) {fm : Value} (S_f : Sta Z h0 "jdk/internal/util/Preconditions" "SIOOBE_FORMATTER" "Ljava/util/function/BiFunction;" fm) (hfm : fm.isRef = true) (S_a : Sta Z h0 "java/lang/StringUTF16" "$assertionsDisabled" "Z" (.int 1)) (S_h : Sta Z h0 "java/lang/StringUTF16" "HI_BYTE_SHIFT" "I" (.int 0)) (S_l : Sta Z h0 "java/lang/StringUTF16" "LO_BYTE_SHIFT" "I" (.int 8)) {f : Nat → Value} (A_2 : Ary Z h0 a2 .byte 2 f) :
    Con l Z n0 (⟨"java/lang/StringUTF16", "checkIndex", "(I[B)V"⟩ : MethodName) jdk_52_method_91_code 2 none ({ frames := 2, cells := 0, slots := 0, locals := 27 } : Room) #[(.int (0 : Int32)), (.ref a2)] h0 (Non (fun h => h0 = h)) := by
  refine con_intro pn_24 Z0 (fr := fun m => mkF m 0 #[.val (.int (0 : Int32)), .val (.ref a2)] []) (fun m => by first | (simp [entryFrame, mkF, argsToLocals, Value.category]; done) | rfl) ?_
  intro p e s m below s₁ hs0 X0
  refine w_iloadN X0 (pc' := 1) d24_0 rfl rfl ?_
  refine w_aloadN X0 (pc' := 2) d24_1 rfl rfl rfl ?_
  refine w_staticV X0 (pc' := 5) d24_2 (rm_ul1 hw (h0 := h0) (sd_size X0) a2 A_2) (hw _ (List.mem_of_getElem? (i := 104) rfl)) (hw _ (List.mem_of_getElem? (i := 105) rfl)) (hw _ (List.mem_of_getElem? (i := 49) rfl)) (hw _ (List.mem_of_getElem? (i := 106) rfl)) (by decide) [(.ref a2)] [(.int (0 : Int32))] pd_25 rfl rfl rfl rfl 1 (Nat.le_refl _) (by decide) (by decide) (by decide) (by decide) rfl fun T1 h1 v1 X1 q1 => ?_
  obtain ⟨rfl, rfl⟩ := q1
  refine w_staticN X1 (pc' := 8) d24_5 (rm_ci hw (h0 := h0) (sd_size X1) (0 : Int32) (1 : Int32) S_c hzc S_f hfm S_a S_h S_l (by decide) (by decide)) (hw _ (List.mem_of_getElem? (i := 107) rfl)) (hw _ (List.mem_of_getElem? (i := 72) rfl)) (hw _ (List.mem_of_getElem? (i := 6) rfl)) (hw _ (List.mem_of_getElem? (i := 73) rfl)) (by decide) [(.int (0 : Int32)), (.int (1 : Int32))] [] pd_16 rfl rfl rfl rfl 0 (Nat.le_refl _) (by decide) (by decide) (by decide) (by decide) rfl fun T2 h2 X2 q2 => ?_
  obtain rfl := q2
  exact w_return X2 d24_8 rfl (by decide) (by decide)
set_option maxRecDepth 65536 in
set_option maxHeartbeats 40000000 in
theorem rm_uci2_0 {l : Launch} {Z : State} {a0 : Array Value} (hw : ∀ d ∈ tables_1, d.before a0 Z = true) {n0 : Nat} {h0 : Heap} (Z0 : n0 ≤ h0.size) (a2 : Addr) {zc : Int32} (S_c : Sta Z h0 "java/lang/String" "COMPACT_STRINGS" "Z" (.int zc)) (hzc : ¬ zc = (0 : Int32)) {fm : Value} (S_f : Sta Z h0 "jdk/internal/util/Preconditions" "SIOOBE_FORMATTER" "Ljava/util/function/BiFunction;" fm) (hfm : fm.isRef = true) (S_a : Sta Z h0 "java/lang/StringUTF16" "$assertionsDisabled" "Z" (.int 1)) (S_h : Sta Z h0 "java/lang/StringUTF16" "HI_BYTE_SHIFT" "I" (.int 0)) (S_l : Sta Z h0 "java/lang/StringUTF16" "LO_BYTE_SHIFT" "I" (.int 8)) {f : Nat → Value} (A_2 : Ary Z h0 a2 .byte 4 f) :
    Con l Z n0 (⟨"java/lang/StringUTF16", "checkIndex", "(I[B)V"⟩ : MethodName) jdk_52_method_91_code 2 none ({ frames := 2, cells := 0, slots := 0, locals := 27 } : Room) #[(.int (0 : Int32)), (.ref a2)] h0 (Non (fun h => h0 = h)) := by
  refine con_intro pn_24 Z0 (fr := fun m => mkF m 0 #[.val (.int (0 : Int32)), .val (.ref a2)] []) (fun m => by first | (simp [entryFrame, mkF, argsToLocals, Value.category]; done) | rfl) ?_
  intro p e s m below s₁ hs0 X0
  refine w_iloadN X0 (pc' := 1) d24_0 rfl rfl ?_
  refine w_aloadN X0 (pc' := 2) d24_1 rfl rfl rfl ?_
  refine w_staticV X0 (pc' := 5) d24_2 (rm_ul2 hw (h0 := h0) (sd_size X0) a2 A_2) (hw _ (List.mem_of_getElem? (i := 104) rfl)) (hw _ (List.mem_of_getElem? (i := 105) rfl)) (hw _ (List.mem_of_getElem? (i := 49) rfl)) (hw _ (List.mem_of_getElem? (i := 106) rfl)) (by decide) [(.ref a2)] [(.int (0 : Int32))] pd_25 rfl rfl rfl rfl 1 (Nat.le_refl _) (by decide) (by decide) (by decide) (by decide) rfl fun T1 h1 v1 X1 q1 => ?_
  obtain ⟨rfl, rfl⟩ := q1
  refine w_staticN X1 (pc' := 8) d24_5 (rm_ci hw (h0 := h0) (sd_size X1) (0 : Int32) (2 : Int32) S_c hzc S_f hfm S_a S_h S_l (by decide) (by decide)) (hw _ (List.mem_of_getElem? (i := 107) rfl)) (hw _ (List.mem_of_getElem? (i := 72) rfl)) (hw _ (List.mem_of_getElem? (i := 6) rfl)) (hw _ (List.mem_of_getElem? (i := 73) rfl)) (by decide) [(.int (0 : Int32)), (.int (2 : Int32))] [] pd_16 rfl rfl rfl rfl 0 (Nat.le_refl _) (by decide) (by decide) (by decide) (by decide) rfl fun T2 h2 X2 q2 => ?_
  obtain rfl := q2
  exact w_return X2 d24_8 rfl (by decide) (by decide)
set_option maxRecDepth 65536 in
set_option maxHeartbeats 40000000 in
theorem rm_uci2_1 {l : Launch} {Z : State} {a0 : Array Value} (hw : ∀ d ∈ tables_1, d.before a0 Z = true) {n0 : Nat} {h0 : Heap} (Z0 : n0 ≤ h0.size) (a2 : Addr) {zc : Int32} (S_c : Sta Z h0 "java/lang/String" "COMPACT_STRINGS" "Z" (.int zc)) (hzc : ¬ zc = (0 : Int32)) {fm : Value} (S_f : Sta Z h0 "jdk/internal/util/Preconditions" "SIOOBE_FORMATTER" "Ljava/util/function/BiFunction;" fm) (hfm : fm.isRef = true) (S_a : Sta Z h0 "java/lang/StringUTF16" "$assertionsDisabled" "Z" (.int 1)) (S_h : Sta Z h0 "java/lang/StringUTF16" "HI_BYTE_SHIFT" "I" (.int 0)) (S_l : Sta Z h0 "java/lang/StringUTF16" "LO_BYTE_SHIFT" "I" (.int 8)) {f : Nat → Value} (A_2 : Ary Z h0 a2 .byte 4 f) :
    Con l Z n0 (⟨"java/lang/StringUTF16", "checkIndex", "(I[B)V"⟩ : MethodName) jdk_52_method_91_code 2 none ({ frames := 2, cells := 0, slots := 0, locals := 27 } : Room) #[(.int (1 : Int32)), (.ref a2)] h0 (Non (fun h => h0 = h)) := by
  refine con_intro pn_24 Z0 (fr := fun m => mkF m 0 #[.val (.int (1 : Int32)), .val (.ref a2)] []) (fun m => by first | (simp [entryFrame, mkF, argsToLocals, Value.category]; done) | rfl) ?_
  intro p e s m below s₁ hs0 X0
  refine w_iloadN X0 (pc' := 1) d24_0 rfl rfl ?_
  refine w_aloadN X0 (pc' := 2) d24_1 rfl rfl rfl ?_
  refine w_staticV X0 (pc' := 5) d24_2 (rm_ul2 hw (h0 := h0) (sd_size X0) a2 A_2) (hw _ (List.mem_of_getElem? (i := 104) rfl)) (hw _ (List.mem_of_getElem? (i := 105) rfl)) (hw _ (List.mem_of_getElem? (i := 49) rfl)) (hw _ (List.mem_of_getElem? (i := 106) rfl)) (by decide) [(.ref a2)] [(.int (1 : Int32))] pd_25 rfl rfl rfl rfl 1 (Nat.le_refl _) (by decide) (by decide) (by decide) (by decide) rfl fun T1 h1 v1 X1 q1 => ?_
  obtain ⟨rfl, rfl⟩ := q1
  refine w_staticN X1 (pc' := 8) d24_5 (rm_ci hw (h0 := h0) (sd_size X1) (1 : Int32) (2 : Int32) S_c hzc S_f hfm S_a S_h S_l (by decide) (by decide)) (hw _ (List.mem_of_getElem? (i := 107) rfl)) (hw _ (List.mem_of_getElem? (i := 72) rfl)) (hw _ (List.mem_of_getElem? (i := 6) rfl)) (hw _ (List.mem_of_getElem? (i := 73) rfl)) (by decide) [(.int (1 : Int32)), (.int (2 : Int32))] [] pd_16 rfl rfl rfl rfl 0 (Nat.le_refl _) (by decide) (by decide) (by decide) (by decide) rfl fun T2 h2 X2 q2 => ?_
  obtain rfl := q2
  exact w_return X2 d24_8 rfl (by decide) (by decide)
set_option maxRecDepth 65536 in
set_option maxHeartbeats 40000000 in
theorem rm_uci3_0 {l : Launch} {Z : State} {a0 : Array Value} (hw : ∀ d ∈ tables_1, d.before a0 Z = true) {n0 : Nat} {h0 : Heap} (Z0 : n0 ≤ h0.size) (a2 : Addr) {zc : Int32} (S_c : Sta Z h0 "java/lang/String" "COMPACT_STRINGS" "Z" (.int zc)) (hzc : ¬ zc = (0 : Int32)) {fm : Value} (S_f : Sta Z h0 "jdk/internal/util/Preconditions" "SIOOBE_FORMATTER" "Ljava/util/function/BiFunction;" fm) (hfm : fm.isRef = true) (S_a : Sta Z h0 "java/lang/StringUTF16" "$assertionsDisabled" "Z" (.int 1)) (S_h : Sta Z h0 "java/lang/StringUTF16" "HI_BYTE_SHIFT" "I" (.int 0)) (S_l : Sta Z h0 "java/lang/StringUTF16" "LO_BYTE_SHIFT" "I" (.int 8)) {f : Nat → Value} (A_2 : Ary Z h0 a2 .byte 6 f) :
    Con l Z n0 (⟨"java/lang/StringUTF16", "checkIndex", "(I[B)V"⟩ : MethodName) jdk_52_method_91_code 2 none ({ frames := 2, cells := 0, slots := 0, locals := 27 } : Room) #[(.int (0 : Int32)), (.ref a2)] h0 (Non (fun h => h0 = h)) := by
  refine con_intro pn_24 Z0 (fr := fun m => mkF m 0 #[.val (.int (0 : Int32)), .val (.ref a2)] []) (fun m => by first | (simp [entryFrame, mkF, argsToLocals, Value.category]; done) | rfl) ?_
  intro p e s m below s₁ hs0 X0
  refine w_iloadN X0 (pc' := 1) d24_0 rfl rfl ?_
  refine w_aloadN X0 (pc' := 2) d24_1 rfl rfl rfl ?_
  refine w_staticV X0 (pc' := 5) d24_2 (rm_ul3 hw (h0 := h0) (sd_size X0) a2 A_2) (hw _ (List.mem_of_getElem? (i := 104) rfl)) (hw _ (List.mem_of_getElem? (i := 105) rfl)) (hw _ (List.mem_of_getElem? (i := 49) rfl)) (hw _ (List.mem_of_getElem? (i := 106) rfl)) (by decide) [(.ref a2)] [(.int (0 : Int32))] pd_25 rfl rfl rfl rfl 1 (Nat.le_refl _) (by decide) (by decide) (by decide) (by decide) rfl fun T1 h1 v1 X1 q1 => ?_
  obtain ⟨rfl, rfl⟩ := q1
  refine w_staticN X1 (pc' := 8) d24_5 (rm_ci hw (h0 := h0) (sd_size X1) (0 : Int32) (3 : Int32) S_c hzc S_f hfm S_a S_h S_l (by decide) (by decide)) (hw _ (List.mem_of_getElem? (i := 107) rfl)) (hw _ (List.mem_of_getElem? (i := 72) rfl)) (hw _ (List.mem_of_getElem? (i := 6) rfl)) (hw _ (List.mem_of_getElem? (i := 73) rfl)) (by decide) [(.int (0 : Int32)), (.int (3 : Int32))] [] pd_16 rfl rfl rfl rfl 0 (Nat.le_refl _) (by decide) (by decide) (by decide) (by decide) rfl fun T2 h2 X2 q2 => ?_
  obtain rfl := q2
  exact w_return X2 d24_8 rfl (by decide) (by decide)
set_option maxRecDepth 65536 in
set_option maxHeartbeats 40000000 in
theorem rm_uci3_1 {l : Launch} {Z : State} {a0 : Array Value} (hw : ∀ d ∈ tables_1, d.before a0 Z = true) {n0 : Nat} {h0 : Heap} (Z0 : n0 ≤ h0.size) (a2 : Addr) {zc : Int32} (S_c : Sta Z h0 "java/lang/String" "COMPACT_STRINGS" "Z" (.int zc)) (hzc : ¬ zc = (0 : Int32)) {fm : Value} (S_f : Sta Z h0 "jdk/internal/util/Preconditions" "SIOOBE_FORMATTER" "Ljava/util/function/BiFunction;" fm) (hfm : fm.isRef = true) (S_a : Sta Z h0 "java/lang/StringUTF16" "$assertionsDisabled" "Z" (.int 1)) (S_h : Sta Z h0 "java/lang/StringUTF16" "HI_BYTE_SHIFT" "I" (.int 0)) (S_l : Sta Z h0 "java/lang/StringUTF16" "LO_BYTE_SHIFT" "I" (.int 8)) {f : Nat → Value} (A_2 : Ary Z h0 a2 .byte 6 f) :
    Con l Z n0 (⟨"java/lang/StringUTF16", "checkIndex", "(I[B)V"⟩ : MethodName) jdk_52_method_91_code 2 none ({ frames := 2, cells := 0, slots := 0, locals := 27 } : Room) #[(.int (1 : Int32)), (.ref a2)] h0 (Non (fun h => h0 = h)) := by
  refine con_intro pn_24 Z0 (fr := fun m => mkF m 0 #[.val (.int (1 : Int32)), .val (.ref a2)] []) (fun m => by first | (simp [entryFrame, mkF, argsToLocals, Value.category]; done) | rfl) ?_
  intro p e s m below s₁ hs0 X0
  refine w_iloadN X0 (pc' := 1) d24_0 rfl rfl ?_
  refine w_aloadN X0 (pc' := 2) d24_1 rfl rfl rfl ?_
  refine w_staticV X0 (pc' := 5) d24_2 (rm_ul3 hw (h0 := h0) (sd_size X0) a2 A_2) (hw _ (List.mem_of_getElem? (i := 104) rfl)) (hw _ (List.mem_of_getElem? (i := 105) rfl)) (hw _ (List.mem_of_getElem? (i := 49) rfl)) (hw _ (List.mem_of_getElem? (i := 106) rfl)) (by decide) [(.ref a2)] [(.int (1 : Int32))] pd_25 rfl rfl rfl rfl 1 (Nat.le_refl _) (by decide) (by decide) (by decide) (by decide) rfl fun T1 h1 v1 X1 q1 => ?_
  obtain ⟨rfl, rfl⟩ := q1
  refine w_staticN X1 (pc' := 8) d24_5 (rm_ci hw (h0 := h0) (sd_size X1) (1 : Int32) (3 : Int32) S_c hzc S_f hfm S_a S_h S_l (by decide) (by decide)) (hw _ (List.mem_of_getElem? (i := 107) rfl)) (hw _ (List.mem_of_getElem? (i := 72) rfl)) (hw _ (List.mem_of_getElem? (i := 6) rfl)) (hw _ (List.mem_of_getElem? (i := 73) rfl)) (by decide) [(.int (1 : Int32)), (.int (3 : Int32))] [] pd_16 rfl rfl rfl rfl 0 (Nat.le_refl _) (by decide) (by decide) (by decide) (by decide) rfl fun T2 h2 X2 q2 => ?_
  obtain rfl := q2
  exact w_return X2 d24_8 rfl (by decide) (by decide)
set_option maxRecDepth 65536 in
set_option maxHeartbeats 40000000 in
theorem rm_uci3_2 {l : Launch} {Z : State} {a0 : Array Value} (hw : ∀ d ∈ tables_1, d.before a0 Z = true) {n0 : Nat} {h0 : Heap} (Z0 : n0 ≤ h0.size) (a2 : Addr) {zc : Int32} (S_c : Sta Z h0 "java/lang/String" "COMPACT_STRINGS" "Z" (.int zc)) (hzc : ¬ zc = (0 : Int32)) {fm : Value} (S_f : Sta Z h0 "jdk/internal/util/Preconditions" "SIOOBE_FORMATTER" "Ljava/util/function/BiFunction;" fm) (hfm : fm.isRef = true) (S_a : Sta Z h0 "java/lang/StringUTF16" "$assertionsDisabled" "Z" (.int 1)) (S_h : Sta Z h0 "java/lang/StringUTF16" "HI_BYTE_SHIFT" "I" (.int 0)) (S_l : Sta Z h0 "java/lang/StringUTF16" "LO_BYTE_SHIFT" "I" (.int 8)) {f : Nat → Value} (A_2 : Ary Z h0 a2 .byte 6 f) :
    Con l Z n0 (⟨"java/lang/StringUTF16", "checkIndex", "(I[B)V"⟩ : MethodName) jdk_52_method_91_code 2 none ({ frames := 2, cells := 0, slots := 0, locals := 27 } : Room) #[(.int (2 : Int32)), (.ref a2)] h0 (Non (fun h => h0 = h)) := by
  refine con_intro pn_24 Z0 (fr := fun m => mkF m 0 #[.val (.int (2 : Int32)), .val (.ref a2)] []) (fun m => by first | (simp [entryFrame, mkF, argsToLocals, Value.category]; done) | rfl) ?_
  intro p e s m below s₁ hs0 X0
  refine w_iloadN X0 (pc' := 1) d24_0 rfl rfl ?_
  refine w_aloadN X0 (pc' := 2) d24_1 rfl rfl rfl ?_
  refine w_staticV X0 (pc' := 5) d24_2 (rm_ul3 hw (h0 := h0) (sd_size X0) a2 A_2) (hw _ (List.mem_of_getElem? (i := 104) rfl)) (hw _ (List.mem_of_getElem? (i := 105) rfl)) (hw _ (List.mem_of_getElem? (i := 49) rfl)) (hw _ (List.mem_of_getElem? (i := 106) rfl)) (by decide) [(.ref a2)] [(.int (2 : Int32))] pd_25 rfl rfl rfl rfl 1 (Nat.le_refl _) (by decide) (by decide) (by decide) (by decide) rfl fun T1 h1 v1 X1 q1 => ?_
  obtain ⟨rfl, rfl⟩ := q1
  refine w_staticN X1 (pc' := 8) d24_5 (rm_ci hw (h0 := h0) (sd_size X1) (2 : Int32) (3 : Int32) S_c hzc S_f hfm S_a S_h S_l (by decide) (by decide)) (hw _ (List.mem_of_getElem? (i := 107) rfl)) (hw _ (List.mem_of_getElem? (i := 72) rfl)) (hw _ (List.mem_of_getElem? (i := 6) rfl)) (hw _ (List.mem_of_getElem? (i := 73) rfl)) (by decide) [(.int (2 : Int32)), (.int (3 : Int32))] [] pd_16 rfl rfl rfl rfl 0 (Nat.le_refl _) (by decide) (by decide) (by decide) (by decide) rfl fun T2 h2 X2 q2 => ?_
  obtain rfl := q2
  exact w_return X2 d24_8 rfl (by decide) (by decide)
set_option maxRecDepth 65536 in
set_option maxHeartbeats 40000000 in
theorem rm_uci4_0 {l : Launch} {Z : State} {a0 : Array Value} (hw : ∀ d ∈ tables_1, d.before a0 Z = true) {n0 : Nat} {h0 : Heap} (Z0 : n0 ≤ h0.size) (a2 : Addr) {zc : Int32} (S_c : Sta Z h0 "java/lang/String" "COMPACT_STRINGS" "Z" (.int zc)) (hzc : ¬ zc = (0 : Int32)) {fm : Value} (S_f : Sta Z h0 "jdk/internal/util/Preconditions" "SIOOBE_FORMATTER" "Ljava/util/function/BiFunction;" fm) (hfm : fm.isRef = true) (S_a : Sta Z h0 "java/lang/StringUTF16" "$assertionsDisabled" "Z" (.int 1)) (S_h : Sta Z h0 "java/lang/StringUTF16" "HI_BYTE_SHIFT" "I" (.int 0)) (S_l : Sta Z h0 "java/lang/StringUTF16" "LO_BYTE_SHIFT" "I" (.int 8)) {f : Nat → Value} (A_2 : Ary Z h0 a2 .byte 8 f) :
    Con l Z n0 (⟨"java/lang/StringUTF16", "checkIndex", "(I[B)V"⟩ : MethodName) jdk_52_method_91_code 2 none ({ frames := 2, cells := 0, slots := 0, locals := 27 } : Room) #[(.int (0 : Int32)), (.ref a2)] h0 (Non (fun h => h0 = h)) := by
  refine con_intro pn_24 Z0 (fr := fun m => mkF m 0 #[.val (.int (0 : Int32)), .val (.ref a2)] []) (fun m => by first | (simp [entryFrame, mkF, argsToLocals, Value.category]; done) | rfl) ?_
  intro p e s m below s₁ hs0 X0
  refine w_iloadN X0 (pc' := 1) d24_0 rfl rfl ?_
  refine w_aloadN X0 (pc' := 2) d24_1 rfl rfl rfl ?_
  refine w_staticV X0 (pc' := 5) d24_2 (rm_ul4 hw (h0 := h0) (sd_size X0) a2 A_2) (hw _ (List.mem_of_getElem? (i := 104) rfl)) (hw _ (List.mem_of_getElem? (i := 105) rfl)) (hw _ (List.mem_of_getElem? (i := 49) rfl)) (hw _ (List.mem_of_getElem? (i := 106) rfl)) (by decide) [(.ref a2)] [(.int (0 : Int32))] pd_25 rfl rfl rfl rfl 1 (Nat.le_refl _) (by decide) (by decide) (by decide) (by decide) rfl fun T1 h1 v1 X1 q1 => ?_
  obtain ⟨rfl, rfl⟩ := q1
  refine w_staticN X1 (pc' := 8) d24_5 (rm_ci hw (h0 := h0) (sd_size X1) (0 : Int32) (4 : Int32) S_c hzc S_f hfm S_a S_h S_l (by decide) (by decide)) (hw _ (List.mem_of_getElem? (i := 107) rfl)) (hw _ (List.mem_of_getElem? (i := 72) rfl)) (hw _ (List.mem_of_getElem? (i := 6) rfl)) (hw _ (List.mem_of_getElem? (i := 73) rfl)) (by decide) [(.int (0 : Int32)), (.int (4 : Int32))] [] pd_16 rfl rfl rfl rfl 0 (Nat.le_refl _) (by decide) (by decide) (by decide) (by decide) rfl fun T2 h2 X2 q2 => ?_
  obtain rfl := q2
  exact w_return X2 d24_8 rfl (by decide) (by decide)
set_option maxRecDepth 65536 in
set_option maxHeartbeats 40000000 in
theorem rm_uci4_1 {l : Launch} {Z : State} {a0 : Array Value} (hw : ∀ d ∈ tables_1, d.before a0 Z = true) {n0 : Nat} {h0 : Heap} (Z0 : n0 ≤ h0.size) (a2 : Addr) {zc : Int32} (S_c : Sta Z h0 "java/lang/String" "COMPACT_STRINGS" "Z" (.int zc)) (hzc : ¬ zc = (0 : Int32)) {fm : Value} (S_f : Sta Z h0 "jdk/internal/util/Preconditions" "SIOOBE_FORMATTER" "Ljava/util/function/BiFunction;" fm) (hfm : fm.isRef = true) (S_a : Sta Z h0 "java/lang/StringUTF16" "$assertionsDisabled" "Z" (.int 1)) (S_h : Sta Z h0 "java/lang/StringUTF16" "HI_BYTE_SHIFT" "I" (.int 0)) (S_l : Sta Z h0 "java/lang/StringUTF16" "LO_BYTE_SHIFT" "I" (.int 8)) {f : Nat → Value} (A_2 : Ary Z h0 a2 .byte 8 f) :
    Con l Z n0 (⟨"java/lang/StringUTF16", "checkIndex", "(I[B)V"⟩ : MethodName) jdk_52_method_91_code 2 none ({ frames := 2, cells := 0, slots := 0, locals := 27 } : Room) #[(.int (1 : Int32)), (.ref a2)] h0 (Non (fun h => h0 = h)) := by
  refine con_intro pn_24 Z0 (fr := fun m => mkF m 0 #[.val (.int (1 : Int32)), .val (.ref a2)] []) (fun m => by first | (simp [entryFrame, mkF, argsToLocals, Value.category]; done) | rfl) ?_
  intro p e s m below s₁ hs0 X0
  refine w_iloadN X0 (pc' := 1) d24_0 rfl rfl ?_
  refine w_aloadN X0 (pc' := 2) d24_1 rfl rfl rfl ?_
  refine w_staticV X0 (pc' := 5) d24_2 (rm_ul4 hw (h0 := h0) (sd_size X0) a2 A_2) (hw _ (List.mem_of_getElem? (i := 104) rfl)) (hw _ (List.mem_of_getElem? (i := 105) rfl)) (hw _ (List.mem_of_getElem? (i := 49) rfl)) (hw _ (List.mem_of_getElem? (i := 106) rfl)) (by decide) [(.ref a2)] [(.int (1 : Int32))] pd_25 rfl rfl rfl rfl 1 (Nat.le_refl _) (by decide) (by decide) (by decide) (by decide) rfl fun T1 h1 v1 X1 q1 => ?_
  obtain ⟨rfl, rfl⟩ := q1
  refine w_staticN X1 (pc' := 8) d24_5 (rm_ci hw (h0 := h0) (sd_size X1) (1 : Int32) (4 : Int32) S_c hzc S_f hfm S_a S_h S_l (by decide) (by decide)) (hw _ (List.mem_of_getElem? (i := 107) rfl)) (hw _ (List.mem_of_getElem? (i := 72) rfl)) (hw _ (List.mem_of_getElem? (i := 6) rfl)) (hw _ (List.mem_of_getElem? (i := 73) rfl)) (by decide) [(.int (1 : Int32)), (.int (4 : Int32))] [] pd_16 rfl rfl rfl rfl 0 (Nat.le_refl _) (by decide) (by decide) (by decide) (by decide) rfl fun T2 h2 X2 q2 => ?_
  obtain rfl := q2
  exact w_return X2 d24_8 rfl (by decide) (by decide)
set_option maxRecDepth 65536 in
set_option maxHeartbeats 40000000 in
theorem rm_uci4_2 {l : Launch} {Z : State} {a0 : Array Value} (hw : ∀ d ∈ tables_1, d.before a0 Z = true) {n0 : Nat} {h0 : Heap} (Z0 : n0 ≤ h0.size) (a2 : Addr) {zc : Int32} (S_c : Sta Z h0 "java/lang/String" "COMPACT_STRINGS" "Z" (.int zc)) (hzc : ¬ zc = (0 : Int32)) {fm : Value} (S_f : Sta Z h0 "jdk/internal/util/Preconditions" "SIOOBE_FORMATTER" "Ljava/util/function/BiFunction;" fm) (hfm : fm.isRef = true) (S_a : Sta Z h0 "java/lang/StringUTF16" "$assertionsDisabled" "Z" (.int 1)) (S_h : Sta Z h0 "java/lang/StringUTF16" "HI_BYTE_SHIFT" "I" (.int 0)) (S_l : Sta Z h0 "java/lang/StringUTF16" "LO_BYTE_SHIFT" "I" (.int 8)) {f : Nat → Value} (A_2 : Ary Z h0 a2 .byte 8 f) :
    Con l Z n0 (⟨"java/lang/StringUTF16", "checkIndex", "(I[B)V"⟩ : MethodName) jdk_52_method_91_code 2 none ({ frames := 2, cells := 0, slots := 0, locals := 27 } : Room) #[(.int (2 : Int32)), (.ref a2)] h0 (Non (fun h => h0 = h)) := by
  refine con_intro pn_24 Z0 (fr := fun m => mkF m 0 #[.val (.int (2 : Int32)), .val (.ref a2)] []) (fun m => by first | (simp [entryFrame, mkF, argsToLocals, Value.category]; done) | rfl) ?_
  intro p e s m below s₁ hs0 X0
  refine w_iloadN X0 (pc' := 1) d24_0 rfl rfl ?_
  refine w_aloadN X0 (pc' := 2) d24_1 rfl rfl rfl ?_
  refine w_staticV X0 (pc' := 5) d24_2 (rm_ul4 hw (h0 := h0) (sd_size X0) a2 A_2) (hw _ (List.mem_of_getElem? (i := 104) rfl)) (hw _ (List.mem_of_getElem? (i := 105) rfl)) (hw _ (List.mem_of_getElem? (i := 49) rfl)) (hw _ (List.mem_of_getElem? (i := 106) rfl)) (by decide) [(.ref a2)] [(.int (2 : Int32))] pd_25 rfl rfl rfl rfl 1 (Nat.le_refl _) (by decide) (by decide) (by decide) (by decide) rfl fun T1 h1 v1 X1 q1 => ?_
  obtain ⟨rfl, rfl⟩ := q1
  refine w_staticN X1 (pc' := 8) d24_5 (rm_ci hw (h0 := h0) (sd_size X1) (2 : Int32) (4 : Int32) S_c hzc S_f hfm S_a S_h S_l (by decide) (by decide)) (hw _ (List.mem_of_getElem? (i := 107) rfl)) (hw _ (List.mem_of_getElem? (i := 72) rfl)) (hw _ (List.mem_of_getElem? (i := 6) rfl)) (hw _ (List.mem_of_getElem? (i := 73) rfl)) (by decide) [(.int (2 : Int32)), (.int (4 : Int32))] [] pd_16 rfl rfl rfl rfl 0 (Nat.le_refl _) (by decide) (by decide) (by decide) (by decide) rfl fun T2 h2 X2 q2 => ?_
  obtain rfl := q2
  exact w_return X2 d24_8 rfl (by decide) (by decide)
set_option maxRecDepth 65536 in
set_option maxHeartbeats 40000000 in
theorem rm_uci4_3 {l : Launch} {Z : State} {a0 : Array Value} (hw : ∀ d ∈ tables_1, d.before a0 Z = true) {n0 : Nat} {h0 : Heap} (Z0 : n0 ≤ h0.size) (a2 : Addr) {zc : Int32} (S_c : Sta Z h0 "java/lang/String" "COMPACT_STRINGS" "Z" (.int zc)) (hzc : ¬ zc = (0 : Int32)) {fm : Value} (S_f : Sta Z h0 "jdk/internal/util/Preconditions" "SIOOBE_FORMATTER" "Ljava/util/function/BiFunction;" fm) (hfm : fm.isRef = true) (S_a : Sta Z h0 "java/lang/StringUTF16" "$assertionsDisabled" "Z" (.int 1)) (S_h : Sta Z h0 "java/lang/StringUTF16" "HI_BYTE_SHIFT" "I" (.int 0)) (S_l : Sta Z h0 "java/lang/StringUTF16" "LO_BYTE_SHIFT" "I" (.int 8)) {f : Nat → Value} (A_2 : Ary Z h0 a2 .byte 8 f) :
    Con l Z n0 (⟨"java/lang/StringUTF16", "checkIndex", "(I[B)V"⟩ : MethodName) jdk_52_method_91_code 2 none ({ frames := 2, cells := 0, slots := 0, locals := 27 } : Room) #[(.int (3 : Int32)), (.ref a2)] h0 (Non (fun h => h0 = h)) := by
  refine con_intro pn_24 Z0 (fr := fun m => mkF m 0 #[.val (.int (3 : Int32)), .val (.ref a2)] []) (fun m => by first | (simp [entryFrame, mkF, argsToLocals, Value.category]; done) | rfl) ?_
  intro p e s m below s₁ hs0 X0
  refine w_iloadN X0 (pc' := 1) d24_0 rfl rfl ?_
  refine w_aloadN X0 (pc' := 2) d24_1 rfl rfl rfl ?_
  refine w_staticV X0 (pc' := 5) d24_2 (rm_ul4 hw (h0 := h0) (sd_size X0) a2 A_2) (hw _ (List.mem_of_getElem? (i := 104) rfl)) (hw _ (List.mem_of_getElem? (i := 105) rfl)) (hw _ (List.mem_of_getElem? (i := 49) rfl)) (hw _ (List.mem_of_getElem? (i := 106) rfl)) (by decide) [(.ref a2)] [(.int (3 : Int32))] pd_25 rfl rfl rfl rfl 1 (Nat.le_refl _) (by decide) (by decide) (by decide) (by decide) rfl fun T1 h1 v1 X1 q1 => ?_
  obtain ⟨rfl, rfl⟩ := q1
  refine w_staticN X1 (pc' := 8) d24_5 (rm_ci hw (h0 := h0) (sd_size X1) (3 : Int32) (4 : Int32) S_c hzc S_f hfm S_a S_h S_l (by decide) (by decide)) (hw _ (List.mem_of_getElem? (i := 107) rfl)) (hw _ (List.mem_of_getElem? (i := 72) rfl)) (hw _ (List.mem_of_getElem? (i := 6) rfl)) (hw _ (List.mem_of_getElem? (i := 73) rfl)) (by decide) [(.int (3 : Int32)), (.int (4 : Int32))] [] pd_16 rfl rfl rfl rfl 0 (Nat.le_refl _) (by decide) (by decide) (by decide) (by decide) rfl fun T2 h2 X2 q2 => ?_
  obtain rfl := q2
  exact w_return X2 d24_8 rfl (by decide) (by decide)
theorem d22_0 : decode jdk_52_method_5_code 0 = .ok (.getstatic 44, 3) := by decide +kernel
theorem d22_3 : decode jdk_52_method_5_code 3 = .ok (.ifCond .ne 25, 3) := by decide +kernel
theorem d22_6 : decode jdk_52_method_5_code 6 = .ok (.iload_n 1, 1) := by decide +kernel
theorem d22_7 : decode jdk_52_method_5_code 7 = .ok (.ifCond .lt 11, 3) := by decide +kernel
theorem d22_10 : decode jdk_52_method_5_code 10 = .ok (.iload_n 1, 1) := by decide +kernel
theorem d22_11 : decode jdk_52_method_5_code 11 = .ok (.aload_n 0, 1) := by decide +kernel
theorem d22_12 : decode jdk_52_method_5_code 12 = .ok (.invokestatic 48, 3) := by decide +kernel
theorem d22_15 : decode jdk_52_method_5_code 15 = .ok (.if_icmp .lt 13, 3) := by decide +kernel
theorem d22_18 : decode jdk_52_method_5_code 18 = .ok (.new 52, 3) := by decide +kernel
theorem d22_21 : decode jdk_52_method_5_code 21 = .ok (.dup, 1) := by decide +kernel
theorem d22_22 : decode jdk_52_method_5_code 22 = .ok (.ldc 54, 2) := by decide +kernel
theorem d22_24 : decode jdk_52_method_5_code 24 = .ok (.invokespecial 56, 3) := by decide +kernel
theorem d22_27 : decode jdk_52_method_5_code 27 = .ok (.athrow, 1) := by decide +kernel
theorem d22_28 : decode jdk_52_method_5_code 28 = .ok (.iload_n 1, 1) := by decide +kernel
theorem d22_29 : decode jdk_52_method_5_code 29 = .ok (.iconst 1, 1) := by decide +kernel
theorem d22_30 : decode jdk_52_method_5_code 30 = .ok (.ishl, 1) := by decide +kernel
theorem d22_31 : decode jdk_52_method_5_code 31 = .ok (.istore_n 1, 1) := by decide +kernel
theorem d22_32 : decode jdk_52_method_5_code 32 = .ok (.aload_n 0, 1) := by decide +kernel
theorem d22_33 : decode jdk_52_method_5_code 33 = .ok (.iload_n 1, 1) := by decide +kernel
theorem d22_34 : decode jdk_52_method_5_code 34 = .ok (.iinc 1 1, 3) := by decide +kernel
theorem d22_37 : decode jdk_52_method_5_code 37 = .ok (.baload, 1) := by decide +kernel
theorem d22_38 : decode jdk_52_method_5_code 38 = .ok (.sipush 255, 3) := by decide +kernel
theorem d22_41 : decode jdk_52_method_5_code 41 = .ok (.iand, 1) := by decide +kernel
theorem d22_42 : decode jdk_52_method_5_code 42 = .ok (.getstatic 59, 3) := by decide +kernel
theorem d22_45 : decode jdk_52_method_5_code 45 = .ok (.ishl, 1) := by decide +kernel
theorem d22_46 : decode jdk_52_method_5_code 46 = .ok (.aload_n 0, 1) := by decide +kernel
theorem d22_47 : decode jdk_52_method_5_code 47 = .ok (.iload_n 1, 1) := by decide +kernel
theorem d22_48 : decode jdk_52_method_5_code 48 = .ok (.baload, 1) := by decide +kernel
theorem d22_49 : decode jdk_52_method_5_code 49 = .ok (.sipush 255, 3) := by decide +kernel
theorem d22_52 : decode jdk_52_method_5_code 52 = .ok (.iand, 1) := by decide +kernel
theorem d22_53 : decode jdk_52_method_5_code 53 = .ok (.getstatic 63, 3) := by decide +kernel
theorem d22_56 : decode jdk_52_method_5_code 56 = .ok (.ishl, 1) := by decide +kernel
theorem d22_57 : decode jdk_52_method_5_code 57 = .ok (.ior, 1) := by decide +kernel
theorem d22_58 : decode jdk_52_method_5_code 58 = .ok (.i2c, 1) := by decide +kernel
theorem d22_59 : decode jdk_52_method_5_code 59 = .ok (.ireturn, 1) := by decide +kernel
theorem pn_22 : plainFor (⟨"java/lang/StringUTF16", "getChar", "([BI)C"⟩ : MethodName) = true := plainFor_of_name (by first | (simp [plainName, overriddenIn]; done) | decide +kernel)
theorem pd_22 : parseMethodDescriptor "([BI)C" = some ⟨[(.array .byte), .int], some .char⟩ := by decide +kernel
set_option maxRecDepth 65536 in
set_option maxHeartbeats 40000000 in
theorem rm_gc1_0 {l : Launch} {Z : State} {a0 : Array Value} (hw : ∀ d ∈ tables_1, d.before a0 Z = true) {n0 : Nat} {h0 : Heap} (Z0 : n0 ≤ h0.size) (a1 : Addr) {zc : Int32} (S_c : Sta Z h0 "java/lang/String" "COMPACT_STRINGS" "Z" (.int zc)) (hzc : ¬ zc = (0 : Int32)) {fm : Value} (S_f : Sta Z h0 "jdk/internal/util/Preconditions" "SIOOBE_FORMATTER" "Ljava/util/function/BiFunction;" fm) (hfm : fm.isRef = true) (S_a : Sta Z h0 "java/lang/StringUTF16" "$assertionsDisabled" "Z" (.int 1)) (S_h : Sta Z h0 "java/lang/StringUTF16" "HI_BYTE_SHIFT" "I" (.int 0)) (S_l : Sta Z h0 "java/lang/StringUTF16" "LO_BYTE_SHIFT" "I" (.int 8)) {c0 : Int32} (R0 : own_R c0) (A_1 : Ary Z h0 a1 .byte 2 (own_u16 [c0])) :
    Con l Z n0 (⟨"java/lang/StringUTF16", "getChar", "([BI)C"⟩ : MethodName) jdk_52_method_5_code 2 (some .char) ({ frames := 0, cells := 0, slots := 0, locals := 0 } : Room) #[(.ref a1), (.int (0 : Int32))] h0 (Val (fun v h => v = .int c0 ∧ h0 = h)) := by
  refine con_intro pn_22 Z0 (fr := fun m => mkF m 0 #[.val (.ref a1), .val (.int (0 : Int32))] []) (fun m => by first | (simp [entryFrame, mkF, argsToLocals, Value.category]; done) | rfl) ?_
  intro p e s m below s₁ hs0 X0
  refine w_getstatic X0 (pc' := 3) d22_0 (host := "") (Or.inl (hw _ (List.mem_of_getElem? (i := 92) rfl))) Via.refl S_a rfl fun T1 X1 => ?_
  refine w_if_ne X1 28 6 d22_3 (by decide) rfl rfl (fun hc3 => ?_) (fun hc3 => by exfalso; revert hc3; decide)
  refine w_iloadN X1 (pc' := 29) d22_28 rfl rfl ?_
  refine w_iconst X1 (pc' := 30) (1 : Int32) d22_29 rfl rfl ?_
  refine w_ishl X1 (pc' := 31) d22_30 rfl ?_
  rw [show ((0 : Int32) <<< ((1 : Int32) &&& 31)) = (0 : Int32) from by decide]
  show Go p e below _ (T1.setTop (mkF m 31 #[.val (.ref a1), .val (.int (0 : Int32))] [(.int (0 : Int32))]))
  refine w_istoreN X1 (pc' := 32) (l' := #[.val (.ref a1), .val (.int (0 : Int32))]) d22_31 rfl rfl ?_
  refine w_aloadN X1 (pc' := 33) d22_32 rfl rfl rfl ?_
  refine w_iloadN X1 (pc' := 34) d22_33 rfl rfl ?_
  refine w_iinc X1 (pc' := 37) ((0 : Int32) + (1 : Int32)) (l' := #[.val (.ref a1), .val (.int ((0 : Int32) + (1 : Int32)))]) d22_34 rfl rfl rfl rfl ?_
  refine w_baload X1 (pc' := 38) 0 (v := (.int (c0.toInt8.toInt32))) d22_37 A_1 (by decide) (by decide) rfl rfl ?_
  refine w_sipush X1 (pc' := 41) (255 : Int32) d22_38 rfl rfl ?_
  refine w_iand X1 (pc' := 42) d22_41 rfl ?_
  refine w_getstatic X1 (pc' := 45) d22_42 (host := "") (Or.inl (hw _ (List.mem_of_getElem? (i := 93) rfl))) Via.refl S_h rfl fun T2 X2 => ?_
  refine w_ishl X2 (pc' := 46) d22_45 rfl ?_
  refine w_aloadN X2 (pc' := 47) d22_46 rfl rfl rfl ?_
  refine w_iloadN X2 (pc' := 48) d22_47 rfl rfl ?_
  refine w_baload X2 (pc' := 49) 1 (v := (.int ((c0 >>> ((8 : Int32) &&& 31)).toInt8.toInt32))) d22_48 A_1 (by decide) (by decide) rfl rfl ?_
  refine w_sipush X2 (pc' := 52) (255 : Int32) d22_49 rfl rfl ?_
  refine w_iand X2 (pc' := 53) d22_52 rfl ?_
  refine w_getstatic X2 (pc' := 56) d22_53 (host := "") (Or.inl (hw _ (List.mem_of_getElem? (i := 94) rfl))) Via.refl S_l rfl fun T3 X3 => ?_
  refine w_ishl X3 (pc' := 57) d22_56 rfl ?_
  refine w_ior X3 (pc' := 58) d22_57 rfl ?_
  refine w_i2c X3 (pc' := 59) d22_58 rfl ?_
  exact w_creturn X3 d22_59 ⟨by rw [own_join R0]; exact congrArg Value.int (own_i2c R0), rfl⟩ (by decide) (by decide)
set_option maxRecDepth 65536 in
set_option maxHeartbeats 40000000 in
theorem rm_gc2_0 {l : Launch} {Z : State} {a0 : Array Value} (hw : ∀ d ∈ tables_1, d.before a0 Z = true) {n0 : Nat} {h0 : Heap} (Z0 : n0 ≤ h0.size) (a1 : Addr) {zc : Int32} (S_c : Sta Z h0 "java/lang/String" "COMPACT_STRINGS" "Z" (.int zc)) (hzc : ¬ zc = (0 : Int32)) {fm : Value} (S_f : Sta Z h0 "jdk/internal/util/Preconditions" "SIOOBE_FORMATTER" "Ljava/util/function/BiFunction;" fm) (hfm : fm.isRef = true) (S_a : Sta Z h0 "java/lang/StringUTF16" "$assertionsDisabled" "Z" (.int 1)) (S_h : Sta Z h0 "java/lang/StringUTF16" "HI_BYTE_SHIFT" "I" (.int 0)) (S_l : Sta Z h0 "java/lang/StringUTF16" "LO_BYTE_SHIFT" "I" (.int 8)) {c0 c1 : Int32} (R0 : own_R c0) (R1 : own_R c1) (A_1 : Ary Z h0 a1 .byte 4 (own_u16 [c0, c1])) :
    Con l Z n0 (⟨"java/lang/StringUTF16", "getChar", "([BI)C"⟩ : MethodName) jdk_52_method_5_code 2 (some .char) ({ frames := 0, cells := 0, slots := 0, locals := 0 } : Room) #[(.ref a1), (.int (0 : Int32))] h0 (Val (fun v h => v = .int c0 ∧ h0 = h)) := by
  refine con_intro pn_22 Z0 (fr := fun m => mkF m 0 #[.val (.ref a1), .val (.int (0 : Int32))] []) (fun m => by first | (simp [entryFrame, mkF, argsToLocals, Value.category]; done) | rfl) ?_
  intro p e s m below s₁ hs0 X0
  refine w_getstatic X0 (pc' := 3) d22_0 (host := "") (Or.inl (hw _ (List.mem_of_getElem? (i := 92) rfl))) Via.refl S_a rfl fun T1 X1 => ?_
  refine w_if_ne X1 28 6 d22_3 (by decide) rfl rfl (fun hc3 => ?_) (fun hc3 => by exfalso; revert hc3; decide)
  refine w_iloadN X1 (pc' := 29) d22_28 rfl rfl ?_
  refine w_iconst X1 (pc' := 30) (1 : Int32) d22_29 rfl rfl ?_
  refine w_ishl X1 (pc' := 31) d22_30 rfl ?_
  rw [show ((0 : Int32) <<< ((1 : Int32) &&& 31)) = (0 : Int32) from by decide]
  show Go p e below _ (T1.setTop (mkF m 31 #[.val (.ref a1), .val (.int (0 : Int32))] [(.int (0 : Int32))]))
  refine w_istoreN X1 (pc' := 32) (l' := #[.val (.ref a1), .val (.int (0 : Int32))]) d22_31 rfl rfl ?_
  refine w_aloadN X1 (pc' := 33) d22_32 rfl rfl rfl ?_
  refine w_iloadN X1 (pc' := 34) d22_33 rfl rfl ?_
  refine w_iinc X1 (pc' := 37) ((0 : Int32) + (1 : Int32)) (l' := #[.val (.ref a1), .val (.int ((0 : Int32) + (1 : Int32)))]) d22_34 rfl rfl rfl rfl ?_
  refine w_baload X1 (pc' := 38) 0 (v := (.int (c0.toInt8.toInt32))) d22_37 A_1 (by decide) (by decide) rfl rfl ?_
  refine w_sipush X1 (pc' := 41) (255 : Int32) d22_38 rfl rfl ?_
  refine w_iand X1 (pc' := 42) d22_41 rfl ?_
  refine w_getstatic X1 (pc' := 45) d22_42 (host := "") (Or.inl (hw _ (List.mem_of_getElem? (i := 93) rfl))) Via.refl S_h rfl fun T2 X2 => ?_
  refine w_ishl X2 (pc' := 46) d22_45 rfl ?_
  refine w_aloadN X2 (pc' := 47) d22_46 rfl rfl rfl ?_
  refine w_iloadN X2 (pc' := 48) d22_47 rfl rfl ?_
  refine w_baload X2 (pc' := 49) 1 (v := (.int ((c0 >>> ((8 : Int32) &&& 31)).toInt8.toInt32))) d22_48 A_1 (by decide) (by decide) rfl rfl ?_
  refine w_sipush X2 (pc' := 52) (255 : Int32) d22_49 rfl rfl ?_
  refine w_iand X2 (pc' := 53) d22_52 rfl ?_
  refine w_getstatic X2 (pc' := 56) d22_53 (host := "") (Or.inl (hw _ (List.mem_of_getElem? (i := 94) rfl))) Via.refl S_l rfl fun T3 X3 => ?_
  refine w_ishl X3 (pc' := 57) d22_56 rfl ?_
  refine w_ior X3 (pc' := 58) d22_57 rfl ?_
  refine w_i2c X3 (pc' := 59) d22_58 rfl ?_
  exact w_creturn X3 d22_59 ⟨by rw [own_join R0]; exact congrArg Value.int (own_i2c R0), rfl⟩ (by decide) (by decide)
set_option maxRecDepth 65536 in
set_option maxHeartbeats 40000000 in
theorem rm_gc2_1 {l : Launch} {Z : State} {a0 : Array Value} (hw : ∀ d ∈ tables_1, d.before a0 Z = true) {n0 : Nat} {h0 : Heap} (Z0 : n0 ≤ h0.size) (a1 : Addr) {zc : Int32} (S_c : Sta Z h0 "java/lang/String" "COMPACT_STRINGS" "Z" (.int zc)) (hzc : ¬ zc = (0 : Int32)) {fm : Value} (S_f : Sta Z h0 "jdk/internal/util/Preconditions" "SIOOBE_FORMATTER" "Ljava/util/function/BiFunction;" fm) (hfm : fm.isRef = true) (S_a : Sta Z h0 "java/lang/StringUTF16" "$assertionsDisabled" "Z" (.int 1)) (S_h : Sta Z h0 "java/lang/StringUTF16" "HI_BYTE_SHIFT" "I" (.int 0)) (S_l : Sta Z h0 "java/lang/StringUTF16" "LO_BYTE_SHIFT" "I" (.int 8)) {c0 c1 : Int32} (R0 : own_R c0) (R1 : own_R c1) (A_1 : Ary Z h0 a1 .byte 4 (own_u16 [c0, c1])) :
    Con l Z n0 (⟨"java/lang/StringUTF16", "getChar", "([BI)C"⟩ : MethodName) jdk_52_method_5_code 2 (some .char) ({ frames := 0, cells := 0, slots := 0, locals := 0 } : Room) #[(.ref a1), (.int (1 : Int32))] h0 (Val (fun v h => v = .int c1 ∧ h0 = h)) := by
  refine con_intro pn_22 Z0 (fr := fun m => mkF m 0 #[.val (.ref a1), .val (.int (1 : Int32))] []) (fun m => by first | (simp [entryFrame, mkF, argsToLocals, Value.category]; done) | rfl) ?_
  intro p e s m below s₁ hs0 X0
  refine w_getstatic X0 (pc' := 3) d22_0 (host := "") (Or.inl (hw _ (List.mem_of_getElem? (i := 92) rfl))) Via.refl S_a rfl fun T1 X1 => ?_
  refine w_if_ne X1 28 6 d22_3 (by decide) rfl rfl (fun hc3 => ?_) (fun hc3 => by exfalso; revert hc3; decide)
  refine w_iloadN X1 (pc' := 29) d22_28 rfl rfl ?_
  refine w_iconst X1 (pc' := 30) (1 : Int32) d22_29 rfl rfl ?_
  refine w_ishl X1 (pc' := 31) d22_30 rfl ?_
  rw [show ((1 : Int32) <<< ((1 : Int32) &&& 31)) = (2 : Int32) from by decide]
  show Go p e below _ (T1.setTop (mkF m 31 #[.val (.ref a1), .val (.int (1 : Int32))] [(.int (2 : Int32))]))
  refine w_istoreN X1 (pc' := 32) (l' := #[.val (.ref a1), .val (.int (2 : Int32))]) d22_31 rfl rfl ?_
  refine w_aloadN X1 (pc' := 33) d22_32 rfl rfl rfl ?_
  refine w_iloadN X1 (pc' := 34) d22_33 rfl rfl ?_
  refine w_iinc X1 (pc' := 37) ((2 : Int32) + (1 : Int32)) (l' := #[.val (.ref a1), .val (.int ((2 : Int32) + (1 : Int32)))]) d22_34 rfl rfl rfl rfl ?_
  refine w_baload X1 (pc' := 38) 2 (v := (.int (c1.toInt8.toInt32))) d22_37 A_1 (by decide) (by decide) rfl rfl ?_
  refine w_sipush X1 (pc' := 41) (255 : Int32) d22_38 rfl rfl ?_
  refine w_iand X1 (pc' := 42) d22_41 rfl ?_
  refine w_getstatic X1 (pc' := 45) d22_42 (host := "") (Or.inl (hw _ (List.mem_of_getElem? (i := 93) rfl))) Via.refl S_h rfl fun T2 X2 => ?_
  refine w_ishl X2 (pc' := 46) d22_45 rfl ?_
  refine w_aloadN X2 (pc' := 47) d22_46 rfl rfl rfl ?_
  refine w_iloadN X2 (pc' := 48) d22_47 rfl rfl ?_
  refine w_baload X2 (pc' := 49) 3 (v := (.int ((c1 >>> ((8 : Int32) &&& 31)).toInt8.toInt32))) d22_48 A_1 (by decide) (by decide) rfl rfl ?_
  refine w_sipush X2 (pc' := 52) (255 : Int32) d22_49 rfl rfl ?_
  refine w_iand X2 (pc' := 53) d22_52 rfl ?_
  refine w_getstatic X2 (pc' := 56) d22_53 (host := "") (Or.inl (hw _ (List.mem_of_getElem? (i := 94) rfl))) Via.refl S_l rfl fun T3 X3 => ?_
  refine w_ishl X3 (pc' := 57) d22_56 rfl ?_
  refine w_ior X3 (pc' := 58) d22_57 rfl ?_
  refine w_i2c X3 (pc' := 59) d22_58 rfl ?_
  exact w_creturn X3 d22_59 ⟨by rw [own_join R1]; exact congrArg Value.int (own_i2c R1), rfl⟩ (by decide) (by decide)
set_option maxRecDepth 65536 in
set_option maxHeartbeats 40000000 in
theorem rm_gc3_0 {l : Launch} {Z : State} {a0 : Array Value} (hw : ∀ d ∈ tables_1, d.before a0 Z = true) {n0 : Nat} {h0 : Heap} (Z0 : n0 ≤ h0.size) (a1 : Addr) {zc : Int32} (S_c : Sta Z h0 "java/lang/String" "COMPACT_STRINGS" "Z" (.int zc)) (hzc : ¬ zc = (0 : Int32)) {fm : Value} (S_f : Sta Z h0 "jdk/internal/util/Preconditions" "SIOOBE_FORMATTER" "Ljava/util/function/BiFunction;" fm) (hfm : fm.isRef = true) (S_a : Sta Z h0 "java/lang/StringUTF16" "$assertionsDisabled" "Z" (.int 1)) (S_h : Sta Z h0 "java/lang/StringUTF16" "HI_BYTE_SHIFT" "I" (.int 0)) (S_l : Sta Z h0 "java/lang/StringUTF16" "LO_BYTE_SHIFT" "I" (.int 8)) {c0 c1 c2 : Int32} (R0 : own_R c0) (R1 : own_R c1) (R2 : own_R c2) (A_1 : Ary Z h0 a1 .byte 6 (own_u16 [c0, c1, c2])) :
    Con l Z n0 (⟨"java/lang/StringUTF16", "getChar", "([BI)C"⟩ : MethodName) jdk_52_method_5_code 2 (some .char) ({ frames := 0, cells := 0, slots := 0, locals := 0 } : Room) #[(.ref a1), (.int (0 : Int32))] h0 (Val (fun v h => v = .int c0 ∧ h0 = h)) := by
  refine con_intro pn_22 Z0 (fr := fun m => mkF m 0 #[.val (.ref a1), .val (.int (0 : Int32))] []) (fun m => by first | (simp [entryFrame, mkF, argsToLocals, Value.category]; done) | rfl) ?_
  intro p e s m below s₁ hs0 X0
  refine w_getstatic X0 (pc' := 3) d22_0 (host := "") (Or.inl (hw _ (List.mem_of_getElem? (i := 92) rfl))) Via.refl S_a rfl fun T1 X1 => ?_
  refine w_if_ne X1 28 6 d22_3 (by decide) rfl rfl (fun hc3 => ?_) (fun hc3 => by exfalso; revert hc3; decide)
  refine w_iloadN X1 (pc' := 29) d22_28 rfl rfl ?_
  refine w_iconst X1 (pc' := 30) (1 : Int32) d22_29 rfl rfl ?_
  refine w_ishl X1 (pc' := 31) d22_30 rfl ?_
  rw [show ((0 : Int32) <<< ((1 : Int32) &&& 31)) = (0 : Int32) from by decide]
  show Go p e below _ (T1.setTop (mkF m 31 #[.val (.ref a1), .val (.int (0 : Int32))] [(.int (0 : Int32))]))
  refine w_istoreN X1 (pc' := 32) (l' := #[.val (.ref a1), .val (.int (0 : Int32))]) d22_31 rfl rfl ?_
  refine w_aloadN X1 (pc' := 33) d22_32 rfl rfl rfl ?_
  refine w_iloadN X1 (pc' := 34) d22_33 rfl rfl ?_
  refine w_iinc X1 (pc' := 37) ((0 : Int32) + (1 : Int32)) (l' := #[.val (.ref a1), .val (.int ((0 : Int32) + (1 : Int32)))]) d22_34 rfl rfl rfl rfl ?_
  refine w_baload X1 (pc' := 38) 0 (v := (.int (c0.toInt8.toInt32))) d22_37 A_1 (by decide) (by decide) rfl rfl ?_
  refine w_sipush X1 (pc' := 41) (255 : Int32) d22_38 rfl rfl ?_
  refine w_iand X1 (pc' := 42) d22_41 rfl ?_
  refine w_getstatic X1 (pc' := 45) d22_42 (host := "") (Or.inl (hw _ (List.mem_of_getElem? (i := 93) rfl))) Via.refl S_h rfl fun T2 X2 => ?_
  refine w_ishl X2 (pc' := 46) d22_45 rfl ?_
  refine w_aloadN X2 (pc' := 47) d22_46 rfl rfl rfl ?_
  refine w_iloadN X2 (pc' := 48) d22_47 rfl rfl ?_
  refine w_baload X2 (pc' := 49) 1 (v := (.int ((c0 >>> ((8 : Int32) &&& 31)).toInt8.toInt32))) d22_48 A_1 (by decide) (by decide) rfl rfl ?_
  refine w_sipush X2 (pc' := 52) (255 : Int32) d22_49 rfl rfl ?_
  refine w_iand X2 (pc' := 53) d22_52 rfl ?_
  refine w_getstatic X2 (pc' := 56) d22_53 (host := "") (Or.inl (hw _ (List.mem_of_getElem? (i := 94) rfl))) Via.refl S_l rfl fun T3 X3 => ?_
  refine w_ishl X3 (pc' := 57) d22_56 rfl ?_
  refine w_ior X3 (pc' := 58) d22_57 rfl ?_
  refine w_i2c X3 (pc' := 59) d22_58 rfl ?_
  exact w_creturn X3 d22_59 ⟨by rw [own_join R0]; exact congrArg Value.int (own_i2c R0), rfl⟩ (by decide) (by decide)
set_option maxRecDepth 65536 in
set_option maxHeartbeats 40000000 in
theorem rm_gc3_1 {l : Launch} {Z : State} {a0 : Array Value} (hw : ∀ d ∈ tables_1, d.before a0 Z = true) {n0 : Nat} {h0 : Heap} (Z0 : n0 ≤ h0.size) (a1 : Addr) {zc : Int32} (S_c : Sta Z h0 "java/lang/String" "COMPACT_STRINGS" "Z" (.int zc)) (hzc : ¬ zc = (0 : Int32)) {fm : Value} (S_f : Sta Z h0 "jdk/internal/util/Preconditions" "SIOOBE_FORMATTER" "Ljava/util/function/BiFunction;" fm) (hfm : fm.isRef = true) (S_a : Sta Z h0 "java/lang/StringUTF16" "$assertionsDisabled" "Z" (.int 1)) (S_h : Sta Z h0 "java/lang/StringUTF16" "HI_BYTE_SHIFT" "I" (.int 0)) (S_l : Sta Z h0 "java/lang/StringUTF16" "LO_BYTE_SHIFT" "I" (.int 8)) {c0 c1 c2 : Int32} (R0 : own_R c0) (R1 : own_R c1) (R2 : own_R c2) (A_1 : Ary Z h0 a1 .byte 6 (own_u16 [c0, c1, c2])) :
    Con l Z n0 (⟨"java/lang/StringUTF16", "getChar", "([BI)C"⟩ : MethodName) jdk_52_method_5_code 2 (some .char) ({ frames := 0, cells := 0, slots := 0, locals := 0 } : Room) #[(.ref a1), (.int (1 : Int32))] h0 (Val (fun v h => v = .int c1 ∧ h0 = h)) := by
  refine con_intro pn_22 Z0 (fr := fun m => mkF m 0 #[.val (.ref a1), .val (.int (1 : Int32))] []) (fun m => by first | (simp [entryFrame, mkF, argsToLocals, Value.category]; done) | rfl) ?_
  intro p e s m below s₁ hs0 X0
  refine w_getstatic X0 (pc' := 3) d22_0 (host := "") (Or.inl (hw _ (List.mem_of_getElem? (i := 92) rfl))) Via.refl S_a rfl fun T1 X1 => ?_
  refine w_if_ne X1 28 6 d22_3 (by decide) rfl rfl (fun hc3 => ?_) (fun hc3 => by exfalso; revert hc3; decide)
  refine w_iloadN X1 (pc' := 29) d22_28 rfl rfl ?_
  refine w_iconst X1 (pc' := 30) (1 : Int32) d22_29 rfl rfl ?_
  refine w_ishl X1 (pc' := 31) d22_30 rfl ?_
  rw [show ((1 : Int32) <<< ((1 : Int32) &&& 31)) = (2 : Int32) from by decide]
  show Go p e below _ (T1.setTop (mkF m 31 #[.val (.ref a1), .val (.int (1 : Int32))] [(.int (2 : Int32))]))
  refine w_istoreN X1 (pc' := 32) (l' := #[.val (.ref a1), .val (.int (2 : Int32))]) d22_31 rfl rfl ?_
  refine w_aloadN X1 (pc' := 33) d22_32 rfl rfl rfl ?_
  refine w_iloadN X1 (pc' := 34) d22_33 rfl rfl ?_
  refine w_iinc X1 (pc' := 37) ((2 : Int32) + (1 : Int32)) (l' := #[.val (.ref a1), .val (.int ((2 : Int32) + (1 : Int32)))]) d22_34 rfl rfl rfl rfl ?_
  refine w_baload X1 (pc' := 38) 2 (v := (.int (c1.toInt8.toInt32))) d22_37 A_1 (by decide) (by decide) rfl rfl ?_
  refine w_sipush X1 (pc' := 41) (255 : Int32) d22_38 rfl rfl ?_
  refine w_iand X1 (pc' := 42) d22_41 rfl ?_
  refine w_getstatic X1 (pc' := 45) d22_42 (host := "") (Or.inl (hw _ (List.mem_of_getElem? (i := 93) rfl))) Via.refl S_h rfl fun T2 X2 => ?_
  refine w_ishl X2 (pc' := 46) d22_45 rfl ?_
  refine w_aloadN X2 (pc' := 47) d22_46 rfl rfl rfl ?_
  refine w_iloadN X2 (pc' := 48) d22_47 rfl rfl ?_
  refine w_baload X2 (pc' := 49) 3 (v := (.int ((c1 >>> ((8 : Int32) &&& 31)).toInt8.toInt32))) d22_48 A_1 (by decide) (by decide) rfl rfl ?_
  refine w_sipush X2 (pc' := 52) (255 : Int32) d22_49 rfl rfl ?_
  refine w_iand X2 (pc' := 53) d22_52 rfl ?_
  refine w_getstatic X2 (pc' := 56) d22_53 (host := "") (Or.inl (hw _ (List.mem_of_getElem? (i := 94) rfl))) Via.refl S_l rfl fun T3 X3 => ?_
  refine w_ishl X3 (pc' := 57) d22_56 rfl ?_
  refine w_ior X3 (pc' := 58) d22_57 rfl ?_
  refine w_i2c X3 (pc' := 59) d22_58 rfl ?_
  exact w_creturn X3 d22_59 ⟨by rw [own_join R1]; exact congrArg Value.int (own_i2c R1), rfl⟩ (by decide) (by decide)
set_option maxRecDepth 65536 in
set_option maxHeartbeats 40000000 in
theorem rm_gc3_2 {l : Launch} {Z : State} {a0 : Array Value} (hw : ∀ d ∈ tables_1, d.before a0 Z = true) {n0 : Nat} {h0 : Heap} (Z0 : n0 ≤ h0.size) (a1 : Addr) {zc : Int32} (S_c : Sta Z h0 "java/lang/String" "COMPACT_STRINGS" "Z" (.int zc)) (hzc : ¬ zc = (0 : Int32)) {fm : Value} (S_f : Sta Z h0 "jdk/internal/util/Preconditions" "SIOOBE_FORMATTER" "Ljava/util/function/BiFunction;" fm) (hfm : fm.isRef = true) (S_a : Sta Z h0 "java/lang/StringUTF16" "$assertionsDisabled" "Z" (.int 1)) (S_h : Sta Z h0 "java/lang/StringUTF16" "HI_BYTE_SHIFT" "I" (.int 0)) (S_l : Sta Z h0 "java/lang/StringUTF16" "LO_BYTE_SHIFT" "I" (.int 8)) {c0 c1 c2 : Int32} (R0 : own_R c0) (R1 : own_R c1) (R2 : own_R c2) (A_1 : Ary Z h0 a1 .byte 6 (own_u16 [c0, c1, c2])) :
    Con l Z n0 (⟨"java/lang/StringUTF16", "getChar", "([BI)C"⟩ : MethodName) jdk_52_method_5_code 2 (some .char) ({ frames := 0, cells := 0, slots := 0, locals := 0 } : Room) #[(.ref a1), (.int (2 : Int32))] h0 (Val (fun v h => v = .int c2 ∧ h0 = h)) := by
  refine con_intro pn_22 Z0 (fr := fun m => mkF m 0 #[.val (.ref a1), .val (.int (2 : Int32))] []) (fun m => by first | (simp [entryFrame, mkF, argsToLocals, Value.category]; done) | rfl) ?_
  intro p e s m below s₁ hs0 X0
  refine w_getstatic X0 (pc' := 3) d22_0 (host := "") (Or.inl (hw _ (List.mem_of_getElem? (i := 92) rfl))) Via.refl S_a rfl fun T1 X1 => ?_
  refine w_if_ne X1 28 6 d22_3 (by decide) rfl rfl (fun hc3 => ?_) (fun hc3 => by exfalso; revert hc3; decide)
  refine w_iloadN X1 (pc' := 29) d22_28 rfl rfl ?_
  refine w_iconst X1 (pc' := 30) (1 : Int32) d22_29 rfl rfl ?_
  refine w_ishl X1 (pc' := 31) d22_30 rfl ?_
  rw [show ((2 : Int32) <<< ((1 : Int32) &&& 31)) = (4 : Int32) from by decide]
  show Go p e below _ (T1.setTop (mkF m 31 #[.val (.ref a1), .val (.int (2 : Int32))] [(.int (4 : Int32))]))
  refine w_istoreN X1 (pc' := 32) (l' := #[.val (.ref a1), .val (.int (4 : Int32))]) d22_31 rfl rfl ?_
  refine w_aloadN X1 (pc' := 33) d22_32 rfl rfl rfl ?_
  refine w_iloadN X1 (pc' := 34) d22_33 rfl rfl ?_
  refine w_iinc X1 (pc' := 37) ((4 : Int32) + (1 : Int32)) (l' := #[.val (.ref a1), .val (.int ((4 : Int32) + (1 : Int32)))]) d22_34 rfl rfl rfl rfl ?_
  refine w_baload X1 (pc' := 38) 4 (v := (.int (c2.toInt8.toInt32))) d22_37 A_1 (by decide) (by decide) rfl rfl ?_
  refine w_sipush X1 (pc' := 41) (255 : Int32) d22_38 rfl rfl ?_
  refine w_iand X1 (pc' := 42) d22_41 rfl ?_
  refine w_getstatic X1 (pc' := 45) d22_42 (host := "") (Or.inl (hw _ (List.mem_of_getElem? (i := 93) rfl))) Via.refl S_h rfl fun T2 X2 => ?_
  refine w_ishl X2 (pc' := 46) d22_45 rfl ?_
  refine w_aloadN X2 (pc' := 47) d22_46 rfl rfl rfl ?_
  refine w_iloadN X2 (pc' := 48) d22_47 rfl rfl ?_
  refine w_baload X2 (pc' := 49) 5 (v := (.int ((c2 >>> ((8 : Int32) &&& 31)).toInt8.toInt32))) d22_48 A_1 (by decide) (by decide) rfl rfl ?_
  refine w_sipush X2 (pc' := 52) (255 : Int32) d22_49 rfl rfl ?_
  refine w_iand X2 (pc' := 53) d22_52 rfl ?_
  refine w_getstatic X2 (pc' := 56) d22_53 (host := "") (Or.inl (hw _ (List.mem_of_getElem? (i := 94) rfl))) Via.refl S_l rfl fun T3 X3 => ?_
  refine w_ishl X3 (pc' := 57) d22_56 rfl ?_
  refine w_ior X3 (pc' := 58) d22_57 rfl ?_
  refine w_i2c X3 (pc' := 59) d22_58 rfl ?_
  exact w_creturn X3 d22_59 ⟨by rw [own_join R2]; exact congrArg Value.int (own_i2c R2), rfl⟩ (by decide) (by decide)
set_option maxRecDepth 65536 in
set_option maxHeartbeats 40000000 in
theorem rm_gc4_0 {l : Launch} {Z : State} {a0 : Array Value} (hw : ∀ d ∈ tables_1, d.before a0 Z = true) {n0 : Nat} {h0 : Heap} (Z0 : n0 ≤ h0.size) (a1 : Addr) {zc : Int32} (S_c : Sta Z h0 "java/lang/String" "COMPACT_STRINGS" "Z" (.int zc)) (hzc : ¬ zc = (0 : Int32)) {fm : Value} (S_f : Sta Z h0 "jdk/internal/util/Preconditions" "SIOOBE_FORMATTER" "Ljava/util/function/BiFunction;" fm) (hfm : fm.isRef = true) (S_a : Sta Z h0 "java/lang/StringUTF16" "$assertionsDisabled" "Z" (.int 1)) (S_h : Sta Z h0 "java/lang/StringUTF16" "HI_BYTE_SHIFT" "I" (.int 0)) (S_l : Sta Z h0 "java/lang/StringUTF16" "LO_BYTE_SHIFT" "I" (.int 8)) {c0 c1 c2 c3 : Int32} (R0 : own_R c0) (R1 : own_R c1) (R2 : own_R c2) (R3 : own_R c3) (A_1 : Ary Z h0 a1 .byte 8 (own_u16 [c0, c1, c2, c3])) :
    Con l Z n0 (⟨"java/lang/StringUTF16", "getChar", "([BI)C"⟩ : MethodName) jdk_52_method_5_code 2 (some .char) ({ frames := 0, cells := 0, slots := 0, locals := 0 } : Room) #[(.ref a1), (.int (0 : Int32))] h0 (Val (fun v h => v = .int c0 ∧ h0 = h)) := by
  refine con_intro pn_22 Z0 (fr := fun m => mkF m 0 #[.val (.ref a1), .val (.int (0 : Int32))] []) (fun m => by first | (simp [entryFrame, mkF, argsToLocals, Value.category]; done) | rfl) ?_
  intro p e s m below s₁ hs0 X0
  refine w_getstatic X0 (pc' := 3) d22_0 (host := "") (Or.inl (hw _ (List.mem_of_getElem? (i := 92) rfl))) Via.refl S_a rfl fun T1 X1 => ?_
  refine w_if_ne X1 28 6 d22_3 (by decide) rfl rfl (fun hc3 => ?_) (fun hc3 => by exfalso; revert hc3; decide)
  refine w_iloadN X1 (pc' := 29) d22_28 rfl rfl ?_
  refine w_iconst X1 (pc' := 30) (1 : Int32) d22_29 rfl rfl ?_
  refine w_ishl X1 (pc' := 31) d22_30 rfl ?_
  rw [show ((0 : Int32) <<< ((1 : Int32) &&& 31)) = (0 : Int32) from by decide]
  show Go p e below _ (T1.setTop (mkF m 31 #[.val (.ref a1), .val (.int (0 : Int32))] [(.int (0 : Int32))]))
  refine w_istoreN X1 (pc' := 32) (l' := #[.val (.ref a1), .val (.int (0 : Int32))]) d22_31 rfl rfl ?_
  refine w_aloadN X1 (pc' := 33) d22_32 rfl rfl rfl ?_
  refine w_iloadN X1 (pc' := 34) d22_33 rfl rfl ?_
  refine w_iinc X1 (pc' := 37) ((0 : Int32) + (1 : Int32)) (l' := #[.val (.ref a1), .val (.int ((0 : Int32) + (1 : Int32)))]) d22_34 rfl rfl rfl rfl ?_
  refine w_baload X1 (pc' := 38) 0 (v := (.int (c0.toInt8.toInt32))) d22_37 A_1 (by decide) (by decide) rfl rfl ?_
  refine w_sipush X1 (pc' := 41) (255 : Int32) d22_38 rfl rfl ?_
  refine w_iand X1 (pc' := 42) d22_41 rfl ?_
  refine w_getstatic X1 (pc' := 45) d22_42 (host := "") (Or.inl (hw _ (List.mem_of_getElem? (i := 93) rfl))) Via.refl S_h rfl fun T2 X2 => ?_
  refine w_ishl X2 (pc' := 46) d22_45 rfl ?_
  refine w_aloadN X2 (pc' := 47) d22_46 rfl rfl rfl ?_
  refine w_iloadN X2 (pc' := 48) d22_47 rfl rfl ?_
  refine w_baload X2 (pc' := 49) 1 (v := (.int ((c0 >>> ((8 : Int32) &&& 31)).toInt8.toInt32))) d22_48 A_1 (by decide) (by decide) rfl rfl ?_
  refine w_sipush X2 (pc' := 52) (255 : Int32) d22_49 rfl rfl ?_
  refine w_iand X2 (pc' := 53) d22_52 rfl ?_
  refine w_getstatic X2 (pc' := 56) d22_53 (host := "") (Or.inl (hw _ (List.mem_of_getElem? (i := 94) rfl))) Via.refl S_l rfl fun T3 X3 => ?_
  refine w_ishl X3 (pc' := 57) d22_56 rfl ?_
  refine w_ior X3 (pc' := 58) d22_57 rfl ?_
  refine w_i2c X3 (pc' := 59) d22_58 rfl ?_
  exact w_creturn X3 d22_59 ⟨by rw [own_join R0]; exact congrArg Value.int (own_i2c R0), rfl⟩ (by decide) (by decide)
set_option maxRecDepth 65536 in
set_option maxHeartbeats 40000000 in
theorem rm_gc4_1 {l : Launch} {Z : State} {a0 : Array Value} (hw : ∀ d ∈ tables_1, d.before a0 Z = true) {n0 : Nat} {h0 : Heap} (Z0 : n0 ≤ h0.size) (a1 : Addr) {zc : Int32} (S_c : Sta Z h0 "java/lang/String" "COMPACT_STRINGS" "Z" (.int zc)) (hzc : ¬ zc = (0 : Int32)) {fm : Value} (S_f : Sta Z h0 "jdk/internal/util/Preconditions" "SIOOBE_FORMATTER" "Ljava/util/function/BiFunction;" fm) (hfm : fm.isRef = true) (S_a : Sta Z h0 "java/lang/StringUTF16" "$assertionsDisabled" "Z" (.int 1)) (S_h : Sta Z h0 "java/lang/StringUTF16" "HI_BYTE_SHIFT" "I" (.int 0)) (S_l : Sta Z h0 "java/lang/StringUTF16" "LO_BYTE_SHIFT" "I" (.int 8)) {c0 c1 c2 c3 : Int32} (R0 : own_R c0) (R1 : own_R c1) (R2 : own_R c2) (R3 : own_R c3) (A_1 : Ary Z h0 a1 .byte 8 (own_u16 [c0, c1, c2, c3])) :
    Con l Z n0 (⟨"java/lang/StringUTF16", "getChar", "([BI)C"⟩ : MethodName) jdk_52_method_5_code 2 (some .char) ({ frames := 0, cells := 0, slots := 0, locals := 0 } : Room) #[(.ref a1), (.int (1 : Int32))] h0 (Val (fun v h => v = .int c1 ∧ h0 = h)) := by
  refine con_intro pn_22 Z0 (fr := fun m => mkF m 0 #[.val (.ref a1), .val (.int (1 : Int32))] []) (fun m => by first | (simp [entryFrame, mkF, argsToLocals, Value.category]; done) | rfl) ?_
  intro p e s m below s₁ hs0 X0
  refine w_getstatic X0 (pc' := 3) d22_0 (host := "") (Or.inl (hw _ (List.mem_of_getElem? (i := 92) rfl))) Via.refl S_a rfl fun T1 X1 => ?_
  refine w_if_ne X1 28 6 d22_3 (by decide) rfl rfl (fun hc3 => ?_) (fun hc3 => by exfalso; revert hc3; decide)
  refine w_iloadN X1 (pc' := 29) d22_28 rfl rfl ?_
  refine w_iconst X1 (pc' := 30) (1 : Int32) d22_29 rfl rfl ?_
  refine w_ishl X1 (pc' := 31) d22_30 rfl ?_
  rw [show ((1 : Int32) <<< ((1 : Int32) &&& 31)) = (2 : Int32) from by decide]
  show Go p e below _ (T1.setTop (mkF m 31 #[.val (.ref a1), .val (.int (1 : Int32))] [(.int (2 : Int32))]))
  refine w_istoreN X1 (pc' := 32) (l' := #[.val (.ref a1), .val (.int (2 : Int32))]) d22_31 rfl rfl ?_
  refine w_aloadN X1 (pc' := 33) d22_32 rfl rfl rfl ?_
  refine w_iloadN X1 (pc' := 34) d22_33 rfl rfl ?_
  refine w_iinc X1 (pc' := 37) ((2 : Int32) + (1 : Int32)) (l' := #[.val (.ref a1), .val (.int ((2 : Int32) + (1 : Int32)))]) d22_34 rfl rfl rfl rfl ?_
  refine w_baload X1 (pc' := 38) 2 (v := (.int (c1.toInt8.toInt32))) d22_37 A_1 (by decide) (by decide) rfl rfl ?_
  refine w_sipush X1 (pc' := 41) (255 : Int32) d22_38 rfl rfl ?_
  refine w_iand X1 (pc' := 42) d22_41 rfl ?_
  refine w_getstatic X1 (pc' := 45) d22_42 (host := "") (Or.inl (hw _ (List.mem_of_getElem? (i := 93) rfl))) Via.refl S_h rfl fun T2 X2 => ?_
  refine w_ishl X2 (pc' := 46) d22_45 rfl ?_
  refine w_aloadN X2 (pc' := 47) d22_46 rfl rfl rfl ?_
  refine w_iloadN X2 (pc' := 48) d22_47 rfl rfl ?_
  refine w_baload X2 (pc' := 49) 3 (v := (.int ((c1 >>> ((8 : Int32) &&& 31)).toInt8.toInt32))) d22_48 A_1 (by decide) (by decide) rfl rfl ?_
  refine w_sipush X2 (pc' := 52) (255 : Int32) d22_49 rfl rfl ?_
  refine w_iand X2 (pc' := 53) d22_52 rfl ?_
  refine w_getstatic X2 (pc' := 56) d22_53 (host := "") (Or.inl (hw _ (List.mem_of_getElem? (i := 94) rfl))) Via.refl S_l rfl fun T3 X3 => ?_
  refine w_ishl X3 (pc' := 57) d22_56 rfl ?_
  refine w_ior X3 (pc' := 58) d22_57 rfl ?_
  refine w_i2c X3 (pc' := 59) d22_58 rfl ?_
  exact w_creturn X3 d22_59 ⟨by rw [own_join R1]; exact congrArg Value.int (own_i2c R1), rfl⟩ (by decide) (by decide)
set_option maxRecDepth 65536 in
set_option maxHeartbeats 40000000 in
theorem rm_gc4_2 {l : Launch} {Z : State} {a0 : Array Value} (hw : ∀ d ∈ tables_1, d.before a0 Z = true) {n0 : Nat} {h0 : Heap} (Z0 : n0 ≤ h0.size) (a1 : Addr) {zc : Int32} (S_c : Sta Z h0 "java/lang/String" "COMPACT_STRINGS" "Z" (.int zc)) (hzc : ¬ zc = (0 : Int32)) {fm : Value} (S_f : Sta Z h0 "jdk/internal/util/Preconditions" "SIOOBE_FORMATTER" "Ljava/util/function/BiFunction;" fm) (hfm : fm.isRef = true) (S_a : Sta Z h0 "java/lang/StringUTF16" "$assertionsDisabled" "Z" (.int 1)) (S_h : Sta Z h0 "java/lang/StringUTF16" "HI_BYTE_SHIFT" "I" (.int 0)) (S_l : Sta Z h0 "java/lang/StringUTF16" "LO_BYTE_SHIFT" "I" (.int 8)) {c0 c1 c2 c3 : Int32} (R0 : own_R c0) (R1 : own_R c1) (R2 : own_R c2) (R3 : own_R c3) (A_1 : Ary Z h0 a1 .byte 8 (own_u16 [c0, c1, c2, c3])) :
    Con l Z n0 (⟨"java/lang/StringUTF16", "getChar", "([BI)C"⟩ : MethodName) jdk_52_method_5_code 2 (some .char) ({ frames := 0, cells := 0, slots := 0, locals := 0 } : Room) #[(.ref a1), (.int (2 : Int32))] h0 (Val (fun v h => v = .int c2 ∧ h0 = h)) := by
  refine con_intro pn_22 Z0 (fr := fun m => mkF m 0 #[.val (.ref a1), .val (.int (2 : Int32))] []) (fun m => by first | (simp [entryFrame, mkF, argsToLocals, Value.category]; done) | rfl) ?_
  intro p e s m below s₁ hs0 X0
  refine w_getstatic X0 (pc' := 3) d22_0 (host := "") (Or.inl (hw _ (List.mem_of_getElem? (i := 92) rfl))) Via.refl S_a rfl fun T1 X1 => ?_
  refine w_if_ne X1 28 6 d22_3 (by decide) rfl rfl (fun hc3 => ?_) (fun hc3 => by exfalso; revert hc3; decide)
  refine w_iloadN X1 (pc' := 29) d22_28 rfl rfl ?_
  refine w_iconst X1 (pc' := 30) (1 : Int32) d22_29 rfl rfl ?_
  refine w_ishl X1 (pc' := 31) d22_30 rfl ?_
  rw [show ((2 : Int32) <<< ((1 : Int32) &&& 31)) = (4 : Int32) from by decide]
  show Go p e below _ (T1.setTop (mkF m 31 #[.val (.ref a1), .val (.int (2 : Int32))] [(.int (4 : Int32))]))
  refine w_istoreN X1 (pc' := 32) (l' := #[.val (.ref a1), .val (.int (4 : Int32))]) d22_31 rfl rfl ?_
  refine w_aloadN X1 (pc' := 33) d22_32 rfl rfl rfl ?_
  refine w_iloadN X1 (pc' := 34) d22_33 rfl rfl ?_
  refine w_iinc X1 (pc' := 37) ((4 : Int32) + (1 : Int32)) (l' := #[.val (.ref a1), .val (.int ((4 : Int32) + (1 : Int32)))]) d22_34 rfl rfl rfl rfl ?_
  refine w_baload X1 (pc' := 38) 4 (v := (.int (c2.toInt8.toInt32))) d22_37 A_1 (by decide) (by decide) rfl rfl ?_
  refine w_sipush X1 (pc' := 41) (255 : Int32) d22_38 rfl rfl ?_
  refine w_iand X1 (pc' := 42) d22_41 rfl ?_
  refine w_getstatic X1 (pc' := 45) d22_42 (host := "") (Or.inl (hw _ (List.mem_of_getElem? (i := 93) rfl))) Via.refl S_h rfl fun T2 X2 => ?_
  refine w_ishl X2 (pc' := 46) d22_45 rfl ?_
  refine w_aloadN X2 (pc' := 47) d22_46 rfl rfl rfl ?_
  refine w_iloadN X2 (pc' := 48) d22_47 rfl rfl ?_
  refine w_baload X2 (pc' := 49) 5 (v := (.int ((c2 >>> ((8 : Int32) &&& 31)).toInt8.toInt32))) d22_48 A_1 (by decide) (by decide) rfl rfl ?_
  refine w_sipush X2 (pc' := 52) (255 : Int32) d22_49 rfl rfl ?_
  refine w_iand X2 (pc' := 53) d22_52 rfl ?_
  refine w_getstatic X2 (pc' := 56) d22_53 (host := "") (Or.inl (hw _ (List.mem_of_getElem? (i := 94) rfl))) Via.refl S_l rfl fun T3 X3 => ?_
  refine w_ishl X3 (pc' := 57) d22_56 rfl ?_
  refine w_ior X3 (pc' := 58) d22_57 rfl ?_
  refine w_i2c X3 (pc' := 59) d22_58 rfl ?_
  exact w_creturn X3 d22_59 ⟨by rw [own_join R2]; exact congrArg Value.int (own_i2c R2), rfl⟩ (by decide) (by decide)
set_option maxRecDepth 65536 in
set_option maxHeartbeats 40000000 in
theorem rm_gc4_3 {l : Launch} {Z : State} {a0 : Array Value} (hw : ∀ d ∈ tables_1, d.before a0 Z = true) {n0 : Nat} {h0 : Heap} (Z0 : n0 ≤ h0.size) (a1 : Addr) {zc : Int32} (S_c : Sta Z h0 "java/lang/String" "COMPACT_STRINGS" "Z" (.int zc)) (hzc : ¬ zc = (0 : Int32)) {fm : Value} (S_f : Sta Z h0 "jdk/internal/util/Preconditions" "SIOOBE_FORMATTER" "Ljava/util/function/BiFunction;" fm) (hfm : fm.isRef = true) (S_a : Sta Z h0 "java/lang/StringUTF16" "$assertionsDisabled" "Z" (.int 1)) (S_h : Sta Z h0 "java/lang/StringUTF16" "HI_BYTE_SHIFT" "I" (.int 0)) (S_l : Sta Z h0 "java/lang/StringUTF16" "LO_BYTE_SHIFT" "I" (.int 8)) {c0 c1 c2 c3 : Int32} (R0 : own_R c0) (R1 : own_R c1) (R2 : own_R c2) (R3 : own_R c3) (A_1 : Ary Z h0 a1 .byte 8 (own_u16 [c0, c1, c2, c3])) :
    Con l Z n0 (⟨"java/lang/StringUTF16", "getChar", "([BI)C"⟩ : MethodName) jdk_52_method_5_code 2 (some .char) ({ frames := 0, cells := 0, slots := 0, locals := 0 } : Room) #[(.ref a1), (.int (3 : Int32))] h0 (Val (fun v h => v = .int c3 ∧ h0 = h)) := by
  refine con_intro pn_22 Z0 (fr := fun m => mkF m 0 #[.val (.ref a1), .val (.int (3 : Int32))] []) (fun m => by first | (simp [entryFrame, mkF, argsToLocals, Value.category]; done) | rfl) ?_
  intro p e s m below s₁ hs0 X0
  refine w_getstatic X0 (pc' := 3) d22_0 (host := "") (Or.inl (hw _ (List.mem_of_getElem? (i := 92) rfl))) Via.refl S_a rfl fun T1 X1 => ?_
  refine w_if_ne X1 28 6 d22_3 (by decide) rfl rfl (fun hc3 => ?_) (fun hc3 => by exfalso; revert hc3; decide)
  refine w_iloadN X1 (pc' := 29) d22_28 rfl rfl ?_
  refine w_iconst X1 (pc' := 30) (1 : Int32) d22_29 rfl rfl ?_
  refine w_ishl X1 (pc' := 31) d22_30 rfl ?_
  rw [show ((3 : Int32) <<< ((1 : Int32) &&& 31)) = (6 : Int32) from by decide]
  show Go p e below _ (T1.setTop (mkF m 31 #[.val (.ref a1), .val (.int (3 : Int32))] [(.int (6 : Int32))]))
  refine w_istoreN X1 (pc' := 32) (l' := #[.val (.ref a1), .val (.int (6 : Int32))]) d22_31 rfl rfl ?_
  refine w_aloadN X1 (pc' := 33) d22_32 rfl rfl rfl ?_
  refine w_iloadN X1 (pc' := 34) d22_33 rfl rfl ?_
  refine w_iinc X1 (pc' := 37) ((6 : Int32) + (1 : Int32)) (l' := #[.val (.ref a1), .val (.int ((6 : Int32) + (1 : Int32)))]) d22_34 rfl rfl rfl rfl ?_
  refine w_baload X1 (pc' := 38) 6 (v := (.int (c3.toInt8.toInt32))) d22_37 A_1 (by decide) (by decide) rfl rfl ?_
  refine w_sipush X1 (pc' := 41) (255 : Int32) d22_38 rfl rfl ?_
  refine w_iand X1 (pc' := 42) d22_41 rfl ?_
  refine w_getstatic X1 (pc' := 45) d22_42 (host := "") (Or.inl (hw _ (List.mem_of_getElem? (i := 93) rfl))) Via.refl S_h rfl fun T2 X2 => ?_
  refine w_ishl X2 (pc' := 46) d22_45 rfl ?_
  refine w_aloadN X2 (pc' := 47) d22_46 rfl rfl rfl ?_
  refine w_iloadN X2 (pc' := 48) d22_47 rfl rfl ?_
  refine w_baload X2 (pc' := 49) 7 (v := (.int ((c3 >>> ((8 : Int32) &&& 31)).toInt8.toInt32))) d22_48 A_1 (by decide) (by decide) rfl rfl ?_
  refine w_sipush X2 (pc' := 52) (255 : Int32) d22_49 rfl rfl ?_
  refine w_iand X2 (pc' := 53) d22_52 rfl ?_
  refine w_getstatic X2 (pc' := 56) d22_53 (host := "") (Or.inl (hw _ (List.mem_of_getElem? (i := 94) rfl))) Via.refl S_l rfl fun T3 X3 => ?_
  refine w_ishl X3 (pc' := 57) d22_56 rfl ?_
  refine w_ior X3 (pc' := 58) d22_57 rfl ?_
  refine w_i2c X3 (pc' := 59) d22_58 rfl ?_
  exact w_creturn X3 d22_59 ⟨by rw [own_join R3]; exact congrArg Value.int (own_i2c R3), rfl⟩ (by decide) (by decide)
theorem d23_0 : decode jdk_52_method_83_code 0 = .ok (.iload_n 1, 1) := by decide +kernel
theorem d23_1 : decode jdk_52_method_83_code 1 = .ok (.aload_n 0, 1) := by decide +kernel
theorem d23_2 : decode jdk_52_method_83_code 2 = .ok (.invokestatic 67, 3) := by decide +kernel
theorem d23_5 : decode jdk_52_method_83_code 5 = .ok (.aload_n 0, 1) := by decide +kernel
theorem d23_6 : decode jdk_52_method_83_code 6 = .ok (.iload_n 1, 1) := by decide +kernel
theorem d23_7 : decode jdk_52_method_83_code 7 = .ok (.invokestatic 71, 3) := by decide +kernel
theorem d23_10 : decode jdk_52_method_83_code 10 = .ok (.ireturn, 1) := by decide +kernel
theorem pn_23 : plainFor (⟨"java/lang/StringUTF16", "charAt", "([BI)C"⟩ : MethodName) = true := plainFor_of_name (by first | (simp [plainName, overriddenIn]; done) | decide +kernel)
theorem pd_23 : parseMethodDescriptor "([BI)C" = some ⟨[(.array .byte), .int], some .char⟩ := by decide +kernel
set_option maxRecDepth 65536 in
set_option maxHeartbeats 40000000 in
theorem rm_uc1_0 {l : Launch} {Z : State} {a0 : Array Value} (hw : ∀ d ∈ tables_1, d.before a0 Z = true) {n0 : Nat} {h0 : Heap} (Z0 : n0 ≤ h0.size) (a1 : Addr) {zc : Int32} (S_c : Sta Z h0 "java/lang/String" "COMPACT_STRINGS" "Z" (.int zc)) (hzc : ¬ zc = (0 : Int32)) {fm : Value} (S_f : Sta Z h0 "jdk/internal/util/Preconditions" "SIOOBE_FORMATTER" "Ljava/util/function/BiFunction;" fm) (hfm : fm.isRef = true) (S_a : Sta Z h0 "java/lang/StringUTF16" "$assertionsDisabled" "Z" (.int 1)) (S_h : Sta Z h0 "java/lang/StringUTF16" "HI_BYTE_SHIFT" "I" (.int 0)) (S_l : Sta Z h0 "java/lang/StringUTF16" "LO_BYTE_SHIFT" "I" (.int 8)) {c0 : Int32} (R0 : own_R c0) (A_1 : Ary Z h0 a1 .byte 2 (own_u16 [c0])) :
    Con l Z n0 (⟨"java/lang/StringUTF16", "charAt", "([BI)C"⟩ : MethodName) jdk_52_method_83_code 2 (some .char) ({ frames := 3, cells := 0, slots := 0, locals := 40 } : Room) #[(.ref a1), (.int (0 : Int32))] h0 (Val (fun v h => v = .int c0 ∧ h0 = h)) := by
  refine con_intro pn_23 Z0 (fr := fun m => mkF m 0 #[.val (.ref a1), .val (.int (0 : Int32))] []) (fun m => by first | (simp [entryFrame, mkF, argsToLocals, Value.category]; done) | rfl) ?_
  intro p e s m below s₁ hs0 X0
  refine w_iloadN X0 (pc' := 1) d23_0 rfl rfl ?_
  refine w_aloadN X0 (pc' := 2) d23_1 rfl rfl rfl ?_
  refine w_staticN X0 (pc' := 5) d23_2 (rm_uci1_0 hw (h0 := h0) (sd_size X0) a1 S_c hzc S_f hfm S_a S_h S_l A_1) (hw _ (List.mem_of_getElem? (i := 101) rfl)) (hw _ (List.mem_of_getElem? (i := 102) rfl)) (hw _ (List.mem_of_getElem? (i := 49) rfl)) (hw _ (List.mem_of_getElem? (i := 103) rfl)) (by decide) [(.int (0 : Int32)), (.ref a1)] [] pd_24 rfl rfl rfl rfl 0 (Nat.le_refl _) (by decide) (by decide) (by decide) (by decide) rfl fun T1 h1 X1 q1 => ?_
  obtain rfl := q1
  refine w_aloadN X1 (pc' := 6) d23_5 rfl rfl rfl ?_
  refine w_iloadN X1 (pc' := 7) d23_6 rfl rfl ?_
  refine w_staticV X1 (pc' := 10) d23_7 (rm_gc1_0 hw (h0 := h0) (sd_size X1) a1 S_c hzc S_f hfm S_a S_h S_l R0 A_1) (hw _ (List.mem_of_getElem? (i := 95) rfl)) (hw _ (List.mem_of_getElem? (i := 96) rfl)) (hw _ (List.mem_of_getElem? (i := 49) rfl)) (hw _ (List.mem_of_getElem? (i := 97) rfl)) (by decide) [(.ref a1), (.int (0 : Int32))] [] pd_22 rfl rfl rfl rfl 0 (Nat.le_refl _) (by decide) (by decide) (by decide) (by decide) rfl fun T2 h2 v2 X2 q2 => ?_
  obtain ⟨rfl, rfl⟩ := q2
  exact w_creturn X2 d23_10 ⟨congrArg Value.int (own_i2c R0), rfl⟩ (by decide) (by decide)
set_option maxRecDepth 65536 in
set_option maxHeartbeats 40000000 in
theorem rm_uc2_0 {l : Launch} {Z : State} {a0 : Array Value} (hw : ∀ d ∈ tables_1, d.before a0 Z = true) {n0 : Nat} {h0 : Heap} (Z0 : n0 ≤ h0.size) (a1 : Addr) {zc : Int32} (S_c : Sta Z h0 "java/lang/String" "COMPACT_STRINGS" "Z" (.int zc)) (hzc : ¬ zc = (0 : Int32)) {fm : Value} (S_f : Sta Z h0 "jdk/internal/util/Preconditions" "SIOOBE_FORMATTER" "Ljava/util/function/BiFunction;" fm) (hfm : fm.isRef = true) (S_a : Sta Z h0 "java/lang/StringUTF16" "$assertionsDisabled" "Z" (.int 1)) (S_h : Sta Z h0 "java/lang/StringUTF16" "HI_BYTE_SHIFT" "I" (.int 0)) (S_l : Sta Z h0 "java/lang/StringUTF16" "LO_BYTE_SHIFT" "I" (.int 8)) {c0 c1 : Int32} (R0 : own_R c0) (R1 : own_R c1) (A_1 : Ary Z h0 a1 .byte 4 (own_u16 [c0, c1])) :
    Con l Z n0 (⟨"java/lang/StringUTF16", "charAt", "([BI)C"⟩ : MethodName) jdk_52_method_83_code 2 (some .char) ({ frames := 3, cells := 0, slots := 0, locals := 40 } : Room) #[(.ref a1), (.int (0 : Int32))] h0 (Val (fun v h => v = .int c0 ∧ h0 = h)) := by
  refine con_intro pn_23 Z0 (fr := fun m => mkF m 0 #[.val (.ref a1), .val (.int (0 : Int32))] []) (fun m => by first | (simp [entryFrame, mkF, argsToLocals, Value.category]; done) | rfl) ?_
  intro p e s m below s₁ hs0 X0
  refine w_iloadN X0 (pc' := 1) d23_0 rfl rfl ?_
  refine w_aloadN X0 (pc' := 2) d23_1 rfl rfl rfl ?_
  refine w_staticN X0 (pc' := 5) d23_2 (rm_uci2_0 hw (h0 := h0) (sd_size X0) a1 S_c hzc S_f hfm S_a S_h S_l A_1) (hw _ (List.mem_of_getElem? (i := 101) rfl)) (hw _ (List.mem_of_getElem? (i := 102) rfl)) (hw _ (List.mem_of_getElem? (i := 49) rfl)) (hw _ (List.mem_of_getElem? (i := 103) rfl)) (by decide) [(.int (0 : Int32)), (.ref a1)] [] pd_24 rfl rfl rfl rfl 0 (Nat.le_refl _) (by decide) (by decide) (by decide) (by decide) rfl fun T1 h1 X1 q1 => ?_
  obtain rfl := q1
  refine w_aloadN X1 (pc' := 6) d23_5 rfl rfl rfl ?_
  refine w_iloadN X1 (pc' := 7) d23_6 rfl rfl ?_
  refine w_staticV X1 (pc' := 10) d23_7 (rm_gc2_0 hw (h0 := h0) (sd_size X1) a1 S_c hzc S_f hfm S_a S_h S_l R0 R1 A_1) (hw _ (List.mem_of_getElem? (i := 95) rfl)) (hw _ (List.mem_of_getElem? (i := 96) rfl)) (hw _ (List.mem_of_getElem? (i := 49) rfl)) (hw _ (List.mem_of_getElem? (i := 97) rfl)) (by decide) [(.ref a1), (.int (0 : Int32))] [] pd_22 rfl rfl rfl rfl 0 (Nat.le_refl _) (by decide) (by decide) (by decide) (by decide) rfl fun T2 h2 v2 X2 q2 => ?_
  obtain ⟨rfl, rfl⟩ := q2
  exact w_creturn X2 d23_10 ⟨congrArg Value.int (own_i2c R0), rfl⟩ (by decide) (by decide)
set_option maxRecDepth 65536 in
set_option maxHeartbeats 40000000 in
theorem rm_uc2_1 {l : Launch} {Z : State} {a0 : Array Value} (hw : ∀ d ∈ tables_1, d.before a0 Z = true) {n0 : Nat} {h0 : Heap} (Z0 : n0 ≤ h0.size) (a1 : Addr) {zc : Int32} (S_c : Sta Z h0 "java/lang/String" "COMPACT_STRINGS" "Z" (.int zc)) (hzc : ¬ zc = (0 : Int32)) {fm : Value} (S_f : Sta Z h0 "jdk/internal/util/Preconditions" "SIOOBE_FORMATTER" "Ljava/util/function/BiFunction;" fm) (hfm : fm.isRef = true) (S_a : Sta Z h0 "java/lang/StringUTF16" "$assertionsDisabled" "Z" (.int 1)) (S_h : Sta Z h0 "java/lang/StringUTF16" "HI_BYTE_SHIFT" "I" (.int 0)) (S_l : Sta Z h0 "java/lang/StringUTF16" "LO_BYTE_SHIFT" "I" (.int 8)) {c0 c1 : Int32} (R0 : own_R c0) (R1 : own_R c1) (A_1 : Ary Z h0 a1 .byte 4 (own_u16 [c0, c1])) :
    Con l Z n0 (⟨"java/lang/StringUTF16", "charAt", "([BI)C"⟩ : MethodName) jdk_52_method_83_code 2 (some .char) ({ frames := 3, cells := 0, slots := 0, locals := 40 } : Room) #[(.ref a1), (.int (1 : Int32))] h0 (Val (fun v h => v = .int c1 ∧ h0 = h)) := by
  refine con_intro pn_23 Z0 (fr := fun m => mkF m 0 #[.val (.ref a1), .val (.int (1 : Int32))] []) (fun m => by first | (simp [entryFrame, mkF, argsToLocals, Value.category]; done) | rfl) ?_
  intro p e s m below s₁ hs0 X0
  refine w_iloadN X0 (pc' := 1) d23_0 rfl rfl ?_
  refine w_aloadN X0 (pc' := 2) d23_1 rfl rfl rfl ?_
  refine w_staticN X0 (pc' := 5) d23_2 (rm_uci2_1 hw (h0 := h0) (sd_size X0) a1 S_c hzc S_f hfm S_a S_h S_l A_1) (hw _ (List.mem_of_getElem? (i := 101) rfl)) (hw _ (List.mem_of_getElem? (i := 102) rfl)) (hw _ (List.mem_of_getElem? (i := 49) rfl)) (hw _ (List.mem_of_getElem? (i := 103) rfl)) (by decide) [(.int (1 : Int32)), (.ref a1)] [] pd_24 rfl rfl rfl rfl 0 (Nat.le_refl _) (by decide) (by decide) (by decide) (by decide) rfl fun T1 h1 X1 q1 => ?_
  obtain rfl := q1
  refine w_aloadN X1 (pc' := 6) d23_5 rfl rfl rfl ?_
  refine w_iloadN X1 (pc' := 7) d23_6 rfl rfl ?_
  refine w_staticV X1 (pc' := 10) d23_7 (rm_gc2_1 hw (h0 := h0) (sd_size X1) a1 S_c hzc S_f hfm S_a S_h S_l R0 R1 A_1) (hw _ (List.mem_of_getElem? (i := 95) rfl)) (hw _ (List.mem_of_getElem? (i := 96) rfl)) (hw _ (List.mem_of_getElem? (i := 49) rfl)) (hw _ (List.mem_of_getElem? (i := 97) rfl)) (by decide) [(.ref a1), (.int (1 : Int32))] [] pd_22 rfl rfl rfl rfl 0 (Nat.le_refl _) (by decide) (by decide) (by decide) (by decide) rfl fun T2 h2 v2 X2 q2 => ?_
  obtain ⟨rfl, rfl⟩ := q2
  exact w_creturn X2 d23_10 ⟨congrArg Value.int (own_i2c R1), rfl⟩ (by decide) (by decide)
set_option maxRecDepth 65536 in
set_option maxHeartbeats 40000000 in
theorem rm_uc3_0 {l : Launch} {Z : State} {a0 : Array Value} (hw : ∀ d ∈ tables_1, d.before a0 Z = true) {n0 : Nat} {h0 : Heap} (Z0 : n0 ≤ h0.size) (a1 : Addr) {zc : Int32} (S_c : Sta Z h0 "java/lang/String" "COMPACT_STRINGS" "Z" (.int zc)) (hzc : ¬ zc = (0 : Int32)) {fm : Value} (S_f : Sta Z h0 "jdk/internal/util/Preconditions" "SIOOBE_FORMATTER" "Ljava/util/function/BiFunction;" fm) (hfm : fm.isRef = true) (S_a : Sta Z h0 "java/lang/StringUTF16" "$assertionsDisabled" "Z" (.int 1)) (S_h : Sta Z h0 "java/lang/StringUTF16" "HI_BYTE_SHIFT" "I" (.int 0)) (S_l : Sta Z h0 "java/lang/StringUTF16" "LO_BYTE_SHIFT" "I" (.int 8)) {c0 c1 c2 : Int32} (R0 : own_R c0) (R1 : own_R c1) (R2 : own_R c2) (A_1 : Ary Z h0 a1 .byte 6 (own_u16 [c0, c1, c2])) :
    Con l Z n0 (⟨"java/lang/StringUTF16", "charAt", "([BI)C"⟩ : MethodName) jdk_52_method_83_code 2 (some .char) ({ frames := 3, cells := 0, slots := 0, locals := 40 } : Room) #[(.ref a1), (.int (0 : Int32))] h0 (Val (fun v h => v = .int c0 ∧ h0 = h)) := by
  refine con_intro pn_23 Z0 (fr := fun m => mkF m 0 #[.val (.ref a1), .val (.int (0 : Int32))] []) (fun m => by first | (simp [entryFrame, mkF, argsToLocals, Value.category]; done) | rfl) ?_
  intro p e s m below s₁ hs0 X0
  refine w_iloadN X0 (pc' := 1) d23_0 rfl rfl ?_
  refine w_aloadN X0 (pc' := 2) d23_1 rfl rfl rfl ?_
  refine w_staticN X0 (pc' := 5) d23_2 (rm_uci3_0 hw (h0 := h0) (sd_size X0) a1 S_c hzc S_f hfm S_a S_h S_l A_1) (hw _ (List.mem_of_getElem? (i := 101) rfl)) (hw _ (List.mem_of_getElem? (i := 102) rfl)) (hw _ (List.mem_of_getElem? (i := 49) rfl)) (hw _ (List.mem_of_getElem? (i := 103) rfl)) (by decide) [(.int (0 : Int32)), (.ref a1)] [] pd_24 rfl rfl rfl rfl 0 (Nat.le_refl _) (by decide) (by decide) (by decide) (by decide) rfl fun T1 h1 X1 q1 => ?_
  obtain rfl := q1
  refine w_aloadN X1 (pc' := 6) d23_5 rfl rfl rfl ?_
  refine w_iloadN X1 (pc' := 7) d23_6 rfl rfl ?_
  refine w_staticV X1 (pc' := 10) d23_7 (rm_gc3_0 hw (h0 := h0) (sd_size X1) a1 S_c hzc S_f hfm S_a S_h S_l R0 R1 R2 A_1) (hw _ (List.mem_of_getElem? (i := 95) rfl)) (hw _ (List.mem_of_getElem? (i := 96) rfl)) (hw _ (List.mem_of_getElem? (i := 49) rfl)) (hw _ (List.mem_of_getElem? (i := 97) rfl)) (by decide) [(.ref a1), (.int (0 : Int32))] [] pd_22 rfl rfl rfl rfl 0 (Nat.le_refl _) (by decide) (by decide) (by decide) (by decide) rfl fun T2 h2 v2 X2 q2 => ?_
  obtain ⟨rfl, rfl⟩ := q2
  exact w_creturn X2 d23_10 ⟨congrArg Value.int (own_i2c R0), rfl⟩ (by decide) (by decide)
set_option maxRecDepth 65536 in
set_option maxHeartbeats 40000000 in
theorem rm_uc3_1 {l : Launch} {Z : State} {a0 : Array Value} (hw : ∀ d ∈ tables_1, d.before a0 Z = true) {n0 : Nat} {h0 : Heap} (Z0 : n0 ≤ h0.size) (a1 : Addr) {zc : Int32} (S_c : Sta Z h0 "java/lang/String" "COMPACT_STRINGS" "Z" (.int zc)) (hzc : ¬ zc = (0 : Int32)) {fm : Value} (S_f : Sta Z h0 "jdk/internal/util/Preconditions" "SIOOBE_FORMATTER" "Ljava/util/function/BiFunction;" fm) (hfm : fm.isRef = true) (S_a : Sta Z h0 "java/lang/StringUTF16" "$assertionsDisabled" "Z" (.int 1)) (S_h : Sta Z h0 "java/lang/StringUTF16" "HI_BYTE_SHIFT" "I" (.int 0)) (S_l : Sta Z h0 "java/lang/StringUTF16" "LO_BYTE_SHIFT" "I" (.int 8)) {c0 c1 c2 : Int32} (R0 : own_R c0) (R1 : own_R c1) (R2 : own_R c2) (A_1 : Ary Z h0 a1 .byte 6 (own_u16 [c0, c1, c2])) :
    Con l Z n0 (⟨"java/lang/StringUTF16", "charAt", "([BI)C"⟩ : MethodName) jdk_52_method_83_code 2 (some .char) ({ frames := 3, cells := 0, slots := 0, locals := 40 } : Room) #[(.ref a1), (.int (1 : Int32))] h0 (Val (fun v h => v = .int c1 ∧ h0 = h)) := by
  refine con_intro pn_23 Z0 (fr := fun m => mkF m 0 #[.val (.ref a1), .val (.int (1 : Int32))] []) (fun m => by first | (simp [entryFrame, mkF, argsToLocals, Value.category]; done) | rfl) ?_
  intro p e s m below s₁ hs0 X0
  refine w_iloadN X0 (pc' := 1) d23_0 rfl rfl ?_
  refine w_aloadN X0 (pc' := 2) d23_1 rfl rfl rfl ?_
  refine w_staticN X0 (pc' := 5) d23_2 (rm_uci3_1 hw (h0 := h0) (sd_size X0) a1 S_c hzc S_f hfm S_a S_h S_l A_1) (hw _ (List.mem_of_getElem? (i := 101) rfl)) (hw _ (List.mem_of_getElem? (i := 102) rfl)) (hw _ (List.mem_of_getElem? (i := 49) rfl)) (hw _ (List.mem_of_getElem? (i := 103) rfl)) (by decide) [(.int (1 : Int32)), (.ref a1)] [] pd_24 rfl rfl rfl rfl 0 (Nat.le_refl _) (by decide) (by decide) (by decide) (by decide) rfl fun T1 h1 X1 q1 => ?_
  obtain rfl := q1
  refine w_aloadN X1 (pc' := 6) d23_5 rfl rfl rfl ?_
  refine w_iloadN X1 (pc' := 7) d23_6 rfl rfl ?_
  refine w_staticV X1 (pc' := 10) d23_7 (rm_gc3_1 hw (h0 := h0) (sd_size X1) a1 S_c hzc S_f hfm S_a S_h S_l R0 R1 R2 A_1) (hw _ (List.mem_of_getElem? (i := 95) rfl)) (hw _ (List.mem_of_getElem? (i := 96) rfl)) (hw _ (List.mem_of_getElem? (i := 49) rfl)) (hw _ (List.mem_of_getElem? (i := 97) rfl)) (by decide) [(.ref a1), (.int (1 : Int32))] [] pd_22 rfl rfl rfl rfl 0 (Nat.le_refl _) (by decide) (by decide) (by decide) (by decide) rfl fun T2 h2 v2 X2 q2 => ?_
  obtain ⟨rfl, rfl⟩ := q2
  exact w_creturn X2 d23_10 ⟨congrArg Value.int (own_i2c R1), rfl⟩ (by decide) (by decide)
set_option maxRecDepth 65536 in
set_option maxHeartbeats 40000000 in
theorem rm_uc3_2 {l : Launch} {Z : State} {a0 : Array Value} (hw : ∀ d ∈ tables_1, d.before a0 Z = true) {n0 : Nat} {h0 : Heap} (Z0 : n0 ≤ h0.size) (a1 : Addr) {zc : Int32} (S_c : Sta Z h0 "java/lang/String" "COMPACT_STRINGS" "Z" (.int zc)) (hzc : ¬ zc = (0 : Int32)) {fm : Value} (S_f : Sta Z h0 "jdk/internal/util/Preconditions" "SIOOBE_FORMATTER" "Ljava/util/function/BiFunction;" fm) (hfm : fm.isRef = true) (S_a : Sta Z h0 "java/lang/StringUTF16" "$assertionsDisabled" "Z" (.int 1)) (S_h : Sta Z h0 "java/lang/StringUTF16" "HI_BYTE_SHIFT" "I" (.int 0)) (S_l : Sta Z h0 "java/lang/StringUTF16" "LO_BYTE_SHIFT" "I" (.int 8)) {c0 c1 c2 : Int32} (R0 : own_R c0) (R1 : own_R c1) (R2 : own_R c2) (A_1 : Ary Z h0 a1 .byte 6 (own_u16 [c0, c1, c2])) :
    Con l Z n0 (⟨"java/lang/StringUTF16", "charAt", "([BI)C"⟩ : MethodName) jdk_52_method_83_code 2 (some .char) ({ frames := 3, cells := 0, slots := 0, locals := 40 } : Room) #[(.ref a1), (.int (2 : Int32))] h0 (Val (fun v h => v = .int c2 ∧ h0 = h)) := by
  refine con_intro pn_23 Z0 (fr := fun m => mkF m 0 #[.val (.ref a1), .val (.int (2 : Int32))] []) (fun m => by first | (simp [entryFrame, mkF, argsToLocals, Value.category]; done) | rfl) ?_
  intro p e s m below s₁ hs0 X0
  refine w_iloadN X0 (pc' := 1) d23_0 rfl rfl ?_
  refine w_aloadN X0 (pc' := 2) d23_1 rfl rfl rfl ?_
  refine w_staticN X0 (pc' := 5) d23_2 (rm_uci3_2 hw (h0 := h0) (sd_size X0) a1 S_c hzc S_f hfm S_a S_h S_l A_1) (hw _ (List.mem_of_getElem? (i := 101) rfl)) (hw _ (List.mem_of_getElem? (i := 102) rfl)) (hw _ (List.mem_of_getElem? (i := 49) rfl)) (hw _ (List.mem_of_getElem? (i := 103) rfl)) (by decide) [(.int (2 : Int32)), (.ref a1)] [] pd_24 rfl rfl rfl rfl 0 (Nat.le_refl _) (by decide) (by decide) (by decide) (by decide) rfl fun T1 h1 X1 q1 => ?_
  obtain rfl := q1
  refine w_aloadN X1 (pc' := 6) d23_5 rfl rfl rfl ?_
  refine w_iloadN X1 (pc' := 7) d23_6 rfl rfl ?_
  refine w_staticV X1 (pc' := 10) d23_7 (rm_gc3_2 hw (h0 := h0) (sd_size X1) a1 S_c hzc S_f hfm S_a S_h S_l R0 R1 R2 A_1) (hw _ (List.mem_of_getElem? (i := 95) rfl)) (hw _ (List.mem_of_getElem? (i := 96) rfl)) (hw _ (List.mem_of_getElem? (i := 49) rfl)) (hw _ (List.mem_of_getElem? (i := 97) rfl)) (by decide) [(.ref a1), (.int (2 : Int32))] [] pd_22 rfl rfl rfl rfl 0 (Nat.le_refl _) (by decide) (by decide) (by decide) (by decide) rfl fun T2 h2 v2 X2 q2 => ?_
  obtain ⟨rfl, rfl⟩ := q2
  exact w_creturn X2 d23_10 ⟨congrArg Value.int (own_i2c R2), rfl⟩ (by decide) (by decide)
set_option maxRecDepth 65536 in
set_option maxHeartbeats 40000000 in
theorem rm_uc4_0 {l : Launch} {Z : State} {a0 : Array Value} (hw : ∀ d ∈ tables_1, d.before a0 Z = true) {n0 : Nat} {h0 : Heap} (Z0 : n0 ≤ h0.size) (a1 : Addr) {zc : Int32} (S_c : Sta Z h0 "java/lang/String" "COMPACT_STRINGS" "Z" (.int zc)) (hzc : ¬ zc = (0 : Int32)) {fm : Value} (S_f : Sta Z h0 "jdk/internal/util/Preconditions" "SIOOBE_FORMATTER" "Ljava/util/function/BiFunction;" fm) (hfm : fm.isRef = true) (S_a : Sta Z h0 "java/lang/StringUTF16" "$assertionsDisabled" "Z" (.int 1)) (S_h : Sta Z h0 "java/lang/StringUTF16" "HI_BYTE_SHIFT" "I" (.int 0)) (S_l : Sta Z h0 "java/lang/StringUTF16" "LO_BYTE_SHIFT" "I" (.int 8)) {c0 c1 c2 c3 : Int32} (R0 : own_R c0) (R1 : own_R c1) (R2 : own_R c2) (R3 : own_R c3) (A_1 : Ary Z h0 a1 .byte 8 (own_u16 [c0, c1, c2, c3])) :
    Con l Z n0 (⟨"java/lang/StringUTF16", "charAt", "([BI)C"⟩ : MethodName) jdk_52_method_83_code 2 (some .char) ({ frames := 3, cells := 0, slots := 0, locals := 40 } : Room) #[(.ref a1), (.int (0 : Int32))] h0 (Val (fun v h => v = .int c0 ∧ h0 = h)) := by
  refine con_intro pn_23 Z0 (fr := fun m => mkF m 0 #[.val (.ref a1), .val (.int (0 : Int32))] []) (fun m => by first | (simp [entryFrame, mkF, argsToLocals, Value.category]; done) | rfl) ?_
  intro p e s m below s₁ hs0 X0
  refine w_iloadN X0 (pc' := 1) d23_0 rfl rfl ?_
  refine w_aloadN X0 (pc' := 2) d23_1 rfl rfl rfl ?_
  refine w_staticN X0 (pc' := 5) d23_2 (rm_uci4_0 hw (h0 := h0) (sd_size X0) a1 S_c hzc S_f hfm S_a S_h S_l A_1) (hw _ (List.mem_of_getElem? (i := 101) rfl)) (hw _ (List.mem_of_getElem? (i := 102) rfl)) (hw _ (List.mem_of_getElem? (i := 49) rfl)) (hw _ (List.mem_of_getElem? (i := 103) rfl)) (by decide) [(.int (0 : Int32)), (.ref a1)] [] pd_24 rfl rfl rfl rfl 0 (Nat.le_refl _) (by decide) (by decide) (by decide) (by decide) rfl fun T1 h1 X1 q1 => ?_
  obtain rfl := q1
  refine w_aloadN X1 (pc' := 6) d23_5 rfl rfl rfl ?_
  refine w_iloadN X1 (pc' := 7) d23_6 rfl rfl ?_
  refine w_staticV X1 (pc' := 10) d23_7 (rm_gc4_0 hw (h0 := h0) (sd_size X1) a1 S_c hzc S_f hfm S_a S_h S_l R0 R1 R2 R3 A_1) (hw _ (List.mem_of_getElem? (i := 95) rfl)) (hw _ (List.mem_of_getElem? (i := 96) rfl)) (hw _ (List.mem_of_getElem? (i := 49) rfl)) (hw _ (List.mem_of_getElem? (i := 97) rfl)) (by decide) [(.ref a1), (.int (0 : Int32))] [] pd_22 rfl rfl rfl rfl 0 (Nat.le_refl _) (by decide) (by decide) (by decide) (by decide) rfl fun T2 h2 v2 X2 q2 => ?_
  obtain ⟨rfl, rfl⟩ := q2
  exact w_creturn X2 d23_10 ⟨congrArg Value.int (own_i2c R0), rfl⟩ (by decide) (by decide)
set_option maxRecDepth 65536 in
set_option maxHeartbeats 40000000 in
theorem rm_uc4_1 {l : Launch} {Z : State} {a0 : Array Value} (hw : ∀ d ∈ tables_1, d.before a0 Z = true) {n0 : Nat} {h0 : Heap} (Z0 : n0 ≤ h0.size) (a1 : Addr) {zc : Int32} (S_c : Sta Z h0 "java/lang/String" "COMPACT_STRINGS" "Z" (.int zc)) (hzc : ¬ zc = (0 : Int32)) {fm : Value} (S_f : Sta Z h0 "jdk/internal/util/Preconditions" "SIOOBE_FORMATTER" "Ljava/util/function/BiFunction;" fm) (hfm : fm.isRef = true) (S_a : Sta Z h0 "java/lang/StringUTF16" "$assertionsDisabled" "Z" (.int 1)) (S_h : Sta Z h0 "java/lang/StringUTF16" "HI_BYTE_SHIFT" "I" (.int 0)) (S_l : Sta Z h0 "java/lang/StringUTF16" "LO_BYTE_SHIFT" "I" (.int 8)) {c0 c1 c2 c3 : Int32} (R0 : own_R c0) (R1 : own_R c1) (R2 : own_R c2) (R3 : own_R c3) (A_1 : Ary Z h0 a1 .byte 8 (own_u16 [c0, c1, c2, c3])) :
    Con l Z n0 (⟨"java/lang/StringUTF16", "charAt", "([BI)C"⟩ : MethodName) jdk_52_method_83_code 2 (some .char) ({ frames := 3, cells := 0, slots := 0, locals := 40 } : Room) #[(.ref a1), (.int (1 : Int32))] h0 (Val (fun v h => v = .int c1 ∧ h0 = h)) := by
  refine con_intro pn_23 Z0 (fr := fun m => mkF m 0 #[.val (.ref a1), .val (.int (1 : Int32))] []) (fun m => by first | (simp [entryFrame, mkF, argsToLocals, Value.category]; done) | rfl) ?_
  intro p e s m below s₁ hs0 X0
  refine w_iloadN X0 (pc' := 1) d23_0 rfl rfl ?_
  refine w_aloadN X0 (pc' := 2) d23_1 rfl rfl rfl ?_
  refine w_staticN X0 (pc' := 5) d23_2 (rm_uci4_1 hw (h0 := h0) (sd_size X0) a1 S_c hzc S_f hfm S_a S_h S_l A_1) (hw _ (List.mem_of_getElem? (i := 101) rfl)) (hw _ (List.mem_of_getElem? (i := 102) rfl)) (hw _ (List.mem_of_getElem? (i := 49) rfl)) (hw _ (List.mem_of_getElem? (i := 103) rfl)) (by decide) [(.int (1 : Int32)), (.ref a1)] [] pd_24 rfl rfl rfl rfl 0 (Nat.le_refl _) (by decide) (by decide) (by decide) (by decide) rfl fun T1 h1 X1 q1 => ?_
  obtain rfl := q1
  refine w_aloadN X1 (pc' := 6) d23_5 rfl rfl rfl ?_
  refine w_iloadN X1 (pc' := 7) d23_6 rfl rfl ?_
  refine w_staticV X1 (pc' := 10) d23_7 (rm_gc4_1 hw (h0 := h0) (sd_size X1) a1 S_c hzc S_f hfm S_a S_h S_l R0 R1 R2 R3 A_1) (hw _ (List.mem_of_getElem? (i := 95) rfl)) (hw _ (List.mem_of_getElem? (i := 96) rfl)) (hw _ (List.mem_of_getElem? (i := 49) rfl)) (hw _ (List.mem_of_getElem? (i := 97) rfl)) (by decide) [(.ref a1), (.int (1 : Int32))] [] pd_22 rfl rfl rfl rfl 0 (Nat.le_refl _) (by decide) (by decide) (by decide) (by decide) rfl fun T2 h2 v2 X2 q2 => ?_
  obtain ⟨rfl, rfl⟩ := q2
  exact w_creturn X2 d23_10 ⟨congrArg Value.int (own_i2c R1), rfl⟩ (by decide) (by decide)
set_option maxRecDepth 65536 in
set_option maxHeartbeats 40000000 in
theorem rm_uc4_2 {l : Launch} {Z : State} {a0 : Array Value} (hw : ∀ d ∈ tables_1, d.before a0 Z = true) {n0 : Nat} {h0 : Heap} (Z0 : n0 ≤ h0.size) (a1 : Addr) {zc : Int32} (S_c : Sta Z h0 "java/lang/String" "COMPACT_STRINGS" "Z" (.int zc)) (hzc : ¬ zc = (0 : Int32)) {fm : Value} (S_f : Sta Z h0 "jdk/internal/util/Preconditions" "SIOOBE_FORMATTER" "Ljava/util/function/BiFunction;" fm) (hfm : fm.isRef = true) (S_a : Sta Z h0 "java/lang/StringUTF16" "$assertionsDisabled" "Z" (.int 1)) (S_h : Sta Z h0 "java/lang/StringUTF16" "HI_BYTE_SHIFT" "I" (.int 0)) (S_l : Sta Z h0 "java/lang/StringUTF16" "LO_BYTE_SHIFT" "I" (.int 8)) {c0 c1 c2 c3 : Int32} (R0 : own_R c0) (R1 : own_R c1) (R2 : own_R c2) (R3 : own_R c3) (A_1 : Ary Z h0 a1 .byte 8 (own_u16 [c0, c1, c2, c3])) :
    Con l Z n0 (⟨"java/lang/StringUTF16", "charAt", "([BI)C"⟩ : MethodName) jdk_52_method_83_code 2 (some .char) ({ frames := 3, cells := 0, slots := 0, locals := 40 } : Room) #[(.ref a1), (.int (2 : Int32))] h0 (Val (fun v h => v = .int c2 ∧ h0 = h)) := by
  refine con_intro pn_23 Z0 (fr := fun m => mkF m 0 #[.val (.ref a1), .val (.int (2 : Int32))] []) (fun m => by first | (simp [entryFrame, mkF, argsToLocals, Value.category]; done) | rfl) ?_
  intro p e s m below s₁ hs0 X0
  refine w_iloadN X0 (pc' := 1) d23_0 rfl rfl ?_
  refine w_aloadN X0 (pc' := 2) d23_1 rfl rfl rfl ?_
  refine w_staticN X0 (pc' := 5) d23_2 (rm_uci4_2 hw (h0 := h0) (sd_size X0) a1 S_c hzc S_f hfm S_a S_h S_l A_1) (hw _ (List.mem_of_getElem? (i := 101) rfl)) (hw _ (List.mem_of_getElem? (i := 102) rfl)) (hw _ (List.mem_of_getElem? (i := 49) rfl)) (hw _ (List.mem_of_getElem? (i := 103) rfl)) (by decide) [(.int (2 : Int32)), (.ref a1)] [] pd_24 rfl rfl rfl rfl 0 (Nat.le_refl _) (by decide) (by decide) (by decide) (by decide) rfl fun T1 h1 X1 q1 => ?_
  obtain rfl := q1
  refine w_aloadN X1 (pc' := 6) d23_5 rfl rfl rfl ?_
  refine w_iloadN X1 (pc' := 7) d23_6 rfl rfl ?_
  refine w_staticV X1 (pc' := 10) d23_7 (rm_gc4_2 hw (h0 := h0) (sd_size X1) a1 S_c hzc S_f hfm S_a S_h S_l R0 R1 R2 R3 A_1) (hw _ (List.mem_of_getElem? (i := 95) rfl)) (hw _ (List.mem_of_getElem? (i := 96) rfl)) (hw _ (List.mem_of_getElem? (i := 49) rfl)) (hw _ (List.mem_of_getElem? (i := 97) rfl)) (by decide) [(.ref a1), (.int (2 : Int32))] [] pd_22 rfl rfl rfl rfl 0 (Nat.le_refl _) (by decide) (by decide) (by decide) (by decide) rfl fun T2 h2 v2 X2 q2 => ?_
  obtain ⟨rfl, rfl⟩ := q2
  exact w_creturn X2 d23_10 ⟨congrArg Value.int (own_i2c R2), rfl⟩ (by decide) (by decide)
set_option maxRecDepth 65536 in
set_option maxHeartbeats 40000000 in
theorem rm_uc4_3 {l : Launch} {Z : State} {a0 : Array Value} (hw : ∀ d ∈ tables_1, d.before a0 Z = true) {n0 : Nat} {h0 : Heap} (Z0 : n0 ≤ h0.size) (a1 : Addr) {zc : Int32} (S_c : Sta Z h0 "java/lang/String" "COMPACT_STRINGS" "Z" (.int zc)) (hzc : ¬ zc = (0 : Int32)) {fm : Value} (S_f : Sta Z h0 "jdk/internal/util/Preconditions" "SIOOBE_FORMATTER" "Ljava/util/function/BiFunction;" fm) (hfm : fm.isRef = true) (S_a : Sta Z h0 "java/lang/StringUTF16" "$assertionsDisabled" "Z" (.int 1)) (S_h : Sta Z h0 "java/lang/StringUTF16" "HI_BYTE_SHIFT" "I" (.int 0)) (S_l : Sta Z h0 "java/lang/StringUTF16" "LO_BYTE_SHIFT" "I" (.int 8)) {c0 c1 c2 c3 : Int32} (R0 : own_R c0) (R1 : own_R c1) (R2 : own_R c2) (R3 : own_R c3) (A_1 : Ary Z h0 a1 .byte 8 (own_u16 [c0, c1, c2, c3])) :
    Con l Z n0 (⟨"java/lang/StringUTF16", "charAt", "([BI)C"⟩ : MethodName) jdk_52_method_83_code 2 (some .char) ({ frames := 3, cells := 0, slots := 0, locals := 40 } : Room) #[(.ref a1), (.int (3 : Int32))] h0 (Val (fun v h => v = .int c3 ∧ h0 = h)) := by
  refine con_intro pn_23 Z0 (fr := fun m => mkF m 0 #[.val (.ref a1), .val (.int (3 : Int32))] []) (fun m => by first | (simp [entryFrame, mkF, argsToLocals, Value.category]; done) | rfl) ?_
  intro p e s m below s₁ hs0 X0
  refine w_iloadN X0 (pc' := 1) d23_0 rfl rfl ?_
  refine w_aloadN X0 (pc' := 2) d23_1 rfl rfl rfl ?_
  refine w_staticN X0 (pc' := 5) d23_2 (rm_uci4_3 hw (h0 := h0) (sd_size X0) a1 S_c hzc S_f hfm S_a S_h S_l A_1) (hw _ (List.mem_of_getElem? (i := 101) rfl)) (hw _ (List.mem_of_getElem? (i := 102) rfl)) (hw _ (List.mem_of_getElem? (i := 49) rfl)) (hw _ (List.mem_of_getElem? (i := 103) rfl)) (by decide) [(.int (3 : Int32)), (.ref a1)] [] pd_24 rfl rfl rfl rfl 0 (Nat.le_refl _) (by decide) (by decide) (by decide) (by decide) rfl fun T1 h1 X1 q1 => ?_
  obtain rfl := q1
  refine w_aloadN X1 (pc' := 6) d23_5 rfl rfl rfl ?_
  refine w_iloadN X1 (pc' := 7) d23_6 rfl rfl ?_
  refine w_staticV X1 (pc' := 10) d23_7 (rm_gc4_3 hw (h0 := h0) (sd_size X1) a1 S_c hzc S_f hfm S_a S_h S_l R0 R1 R2 R3 A_1) (hw _ (List.mem_of_getElem? (i := 95) rfl)) (hw _ (List.mem_of_getElem? (i := 96) rfl)) (hw _ (List.mem_of_getElem? (i := 49) rfl)) (hw _ (List.mem_of_getElem? (i := 97) rfl)) (by decide) [(.ref a1), (.int (3 : Int32))] [] pd_22 rfl rfl rfl rfl 0 (Nat.le_refl _) (by decide) (by decide) (by decide) (by decide) rfl fun T2 h2 v2 X2 q2 => ?_
  obtain ⟨rfl, rfl⟩ := q2
  exact w_creturn X2 d23_10 ⟨congrArg Value.int (own_i2c R3), rfl⟩ (by decide) (by decide)
theorem d15_0 : decode jdk_43_method_2_code 0 = .ok (.iload_n 1, 1) := by decide +kernel
theorem d15_1 : decode jdk_43_method_2_code 1 = .ok (.aload_n 0, 1) := by decide +kernel
theorem d15_2 : decode jdk_43_method_2_code 2 = .ok (.arraylength, 1) := by decide +kernel
theorem d15_3 : decode jdk_43_method_2_code 3 = .ok (.invokestatic 9, 3) := by decide +kernel
theorem d15_6 : decode jdk_43_method_2_code 6 = .ok (.aload_n 0, 1) := by decide +kernel
theorem d15_7 : decode jdk_43_method_2_code 7 = .ok (.iload_n 1, 1) := by decide +kernel
theorem d15_8 : decode jdk_43_method_2_code 8 = .ok (.baload, 1) := by decide +kernel
theorem d15_9 : decode jdk_43_method_2_code 9 = .ok (.sipush 255, 3) := by decide +kernel
theorem d15_12 : decode jdk_43_method_2_code 12 = .ok (.iand, 1) := by decide +kernel
theorem d15_13 : decode jdk_43_method_2_code 13 = .ok (.i2c, 1) := by decide +kernel
theorem d15_14 : decode jdk_43_method_2_code 14 = .ok (.ireturn, 1) := by decide +kernel
theorem pn_15 : plainFor (⟨"java/lang/StringLatin1", "charAt", "([BI)C"⟩ : MethodName) = true := plainFor_of_name (by first | (simp [plainName, overriddenIn]; done) | decide +kernel)
theorem pd_15 : parseMethodDescriptor "([BI)C" = some ⟨[(.array .byte), .int], some .char⟩ := by decide +kernel
set_option maxRecDepth 65536 in
set_option maxHeartbeats 40000000 in
theorem rm_lc1_0 {l : Launch} {Z : State} {a0 : Array Value} (hw : ∀ d ∈ tables_1, d.before a0 Z = true) {n0 : Nat} {h0 : Heap} (Z0 : n0 ≤ h0.size) (a1 : Addr) {zc : Int32} (S_c : Sta Z h0 "java/lang/String" "COMPACT_STRINGS" "Z" (.int zc)) (hzc : ¬ zc = (0 : Int32)) {fm : Value} (S_f : Sta Z h0 "jdk/internal/util/Preconditions" "SIOOBE_FORMATTER" "Ljava/util/function/BiFunction;" fm) (hfm : fm.isRef = true) (S_a : Sta Z h0 "java/lang/StringUTF16" "$assertionsDisabled" "Z" (.int 1)) (S_h : Sta Z h0 "java/lang/StringUTF16" "HI_BYTE_SHIFT" "I" (.int 0)) (S_l : Sta Z h0 "java/lang/StringUTF16" "LO_BYTE_SHIFT" "I" (.int 8)) {c0 : Int32} (R0 : own_R c0) (A_1 : Ary Z h0 a1 .byte 1 (fun i => .int ([c0].getD i 0).toInt8.toInt32)) (hl : ∀ i, i < 1 → ¬ (255 : Int32) < [c0].getD i 0) :
    Con l Z n0 (⟨"java/lang/StringLatin1", "charAt", "([BI)C"⟩ : MethodName) jdk_43_method_2_code 2 (some .char) ({ frames := 2, cells := 0, slots := 0, locals := 27 } : Room) #[(.ref a1), (.int (0 : Int32))] h0 (Val (fun v h => v = .int c0 ∧ h0 = h)) := by
  refine con_intro pn_15 Z0 (fr := fun m => mkF m 0 #[.val (.ref a1), .val (.int (0 : Int32))] []) (fun m => by first | (simp [entryFrame, mkF, argsToLocals, Value.category]; done) | rfl) ?_
  intro p e s m below s₁ hs0 X0
  refine w_iloadN X0 (pc' := 1) d15_0 rfl rfl ?_
  refine w_aloadN X0 (pc' := 2) d15_1 rfl rfl rfl ?_
  refine w_arraylength X0 (pc' := 3) (1 : Int32) d15_2 A_1 (by decide) rfl ?_
  refine w_staticN X0 (pc' := 6) d15_3 (rm_ci hw (h0 := h0) (sd_size X0) (0 : Int32) (1 : Int32) S_c hzc S_f hfm S_a S_h S_l (by decide) (by decide)) (hw _ (List.mem_of_getElem? (i := 71) rfl)) (hw _ (List.mem_of_getElem? (i := 72) rfl)) (hw _ (List.mem_of_getElem? (i := 6) rfl)) (hw _ (List.mem_of_getElem? (i := 73) rfl)) (by decide) [(.int (0 : Int32)), (.int (1 : Int32))] [] pd_16 rfl rfl rfl rfl 0 (Nat.le_refl _) (by decide) (by decide) (by decide) (by decide) rfl fun T1 h1 X1 q1 => ?_
  obtain rfl := q1
  refine w_aloadN X1 (pc' := 7) d15_6 rfl rfl rfl ?_
  refine w_iloadN X1 (pc' := 8) d15_7 rfl rfl ?_
  refine w_baload X1 (pc' := 9) 0 (v := (.int (c0.toInt8.toInt32))) d15_8 A_1 (by decide) (by decide) rfl rfl ?_
  refine w_sipush X1 (pc' := 12) (255 : Int32) d15_9 rfl rfl ?_
  refine w_iand X1 (pc' := 13) d15_12 rfl ?_
  refine w_i2c X1 (pc' := 14) d15_13 rfl ?_
  exact w_creturn X1 d15_14 ⟨by rw [own_lat R0 (hl 0 (by decide))]; exact congrArg Value.int (own_i2c R0), rfl⟩ (by decide) (by decide)
set_option maxRecDepth 65536 in
set_option maxHeartbeats 40000000 in
theorem rm_lc2_0 {l : Launch} {Z : State} {a0 : Array Value} (hw : ∀ d ∈ tables_1, d.before a0 Z = true) {n0 : Nat} {h0 : Heap} (Z0 : n0 ≤ h0.size) (a1 : Addr) {zc : Int32} (S_c : Sta Z h0 "java/lang/String" "COMPACT_STRINGS" "Z" (.int zc)) (hzc : ¬ zc = (0 : Int32)) {fm : Value} (S_f : Sta Z h0 "jdk/internal/util/Preconditions" "SIOOBE_FORMATTER" "Ljava/util/function/BiFunction;" fm) (hfm : fm.isRef = true) (S_a : Sta Z h0 "java/lang/StringUTF16" "$assertionsDisabled" "Z" (.int 1)) (S_h : Sta Z h0 "java/lang/StringUTF16" "HI_BYTE_SHIFT" "I" (.int 0)) (S_l : Sta Z h0 "java/lang/StringUTF16" "LO_BYTE_SHIFT" "I" (.int 8)) {c0 c1 : Int32} (R0 : own_R c0) (R1 : own_R c1) (A_1 : Ary Z h0 a1 .byte 2 (fun i => .int ([c0, c1].getD i 0).toInt8.toInt32)) (hl : ∀ i, i < 2 → ¬ (255 : Int32) < [c0, c1].getD i 0) :
    Con l Z n0 (⟨"java/lang/StringLatin1", "charAt", "([BI)C"⟩ : MethodName) jdk_43_method_2_code 2 (some .char) ({ frames := 2, cells := 0, slots := 0, locals := 27 } : Room) #[(.ref a1), (.int (0 : Int32))] h0 (Val (fun v h => v = .int c0 ∧ h0 = h)) := by
  refine con_intro pn_15 Z0 (fr := fun m => mkF m 0 #[.val (.ref a1), .val (.int (0 : Int32))] []) (fun m => by first | (simp [entryFrame, mkF, argsToLocals, Value.category]; done) | rfl) ?_
  intro p e s m below s₁ hs0 X0
  refine w_iloadN X0 (pc' := 1) d15_0 rfl rfl ?_
  refine w_aloadN X0 (pc' := 2) d15_1 rfl rfl rfl ?_
  refine w_arraylength X0 (pc' := 3) (2 : Int32) d15_2 A_1 (by decide) rfl ?_
  refine w_staticN X0 (pc' := 6) d15_3 (rm_ci hw (h0 := h0) (sd_size X0) (0 : Int32) (2 : Int32) S_c hzc S_f hfm S_a S_h S_l (by decide) (by decide)) (hw _ (List.mem_of_getElem? (i := 71) rfl)) (hw _ (List.mem_of_getElem? (i := 72) rfl)) (hw _ (List.mem_of_getElem? (i := 6) rfl)) (hw _ (List.mem_of_getElem? (i := 73) rfl)) (by decide) [(.int (0 : Int32)), (.int (2 : Int32))] [] pd_16 rfl rfl rfl rfl 0 (Nat.le_refl _) (by decide) (by decide) (by decide) (by decide) rfl fun T1 h1 X1 q1 => ?_
  obtain rfl := q1
  refine w_aloadN X1 (pc' := 7) d15_6 rfl rfl rfl ?_
  refine w_iloadN X1 (pc' := 8) d15_7 rfl rfl ?_
  refine w_baload X1 (pc' := 9) 0 (v := (.int (c0.toInt8.toInt32))) d15_8 A_1 (by decide) (by decide) rfl rfl ?_
  refine w_sipush X1 (pc' := 12) (255 : Int32) d15_9 rfl rfl ?_
  refine w_iand X1 (pc' := 13) d15_12 rfl ?_
  refine w_i2c X1 (pc' := 14) d15_13 rfl ?_
  exact w_creturn X1 d15_14 ⟨by rw [own_lat R0 (hl 0 (by decide))]; exact congrArg Value.int (own_i2c R0), rfl⟩ (by decide) (by decide)
set_option maxRecDepth 65536 in
set_option maxHeartbeats 40000000 in
theorem rm_lc2_1 {l : Launch} {Z : State} {a0 : Array Value} (hw : ∀ d ∈ tables_1, d.before a0 Z = true) {n0 : Nat} {h0 : Heap} (Z0 : n0 ≤ h0.size) (a1 : Addr) {zc : Int32} (S_c : Sta Z h0 "java/lang/String" "COMPACT_STRINGS" "Z" (.int zc)) (hzc : ¬ zc = (0 : Int32)) {fm : Value} (S_f : Sta Z h0 "jdk/internal/util/Preconditions" "SIOOBE_FORMATTER" "Ljava/util/function/BiFunction;" fm) (hfm : fm.isRef = true) (S_a : Sta Z h0 "java/lang/StringUTF16" "$assertionsDisabled" "Z" (.int 1)) (S_h : Sta Z h0 "java/lang/StringUTF16" "HI_BYTE_SHIFT" "I" (.int 0)) (S_l : Sta Z h0 "java/lang/StringUTF16" "LO_BYTE_SHIFT" "I" (.int 8)) {c0 c1 : Int32} (R0 : own_R c0) (R1 : own_R c1) (A_1 : Ary Z h0 a1 .byte 2 (fun i => .int ([c0, c1].getD i 0).toInt8.toInt32)) (hl : ∀ i, i < 2 → ¬ (255 : Int32) < [c0, c1].getD i 0) :
    Con l Z n0 (⟨"java/lang/StringLatin1", "charAt", "([BI)C"⟩ : MethodName) jdk_43_method_2_code 2 (some .char) ({ frames := 2, cells := 0, slots := 0, locals := 27 } : Room) #[(.ref a1), (.int (1 : Int32))] h0 (Val (fun v h => v = .int c1 ∧ h0 = h)) := by
  refine con_intro pn_15 Z0 (fr := fun m => mkF m 0 #[.val (.ref a1), .val (.int (1 : Int32))] []) (fun m => by first | (simp [entryFrame, mkF, argsToLocals, Value.category]; done) | rfl) ?_
  intro p e s m below s₁ hs0 X0
  refine w_iloadN X0 (pc' := 1) d15_0 rfl rfl ?_
  refine w_aloadN X0 (pc' := 2) d15_1 rfl rfl rfl ?_
  refine w_arraylength X0 (pc' := 3) (2 : Int32) d15_2 A_1 (by decide) rfl ?_
  refine w_staticN X0 (pc' := 6) d15_3 (rm_ci hw (h0 := h0) (sd_size X0) (1 : Int32) (2 : Int32) S_c hzc S_f hfm S_a S_h S_l (by decide) (by decide)) (hw _ (List.mem_of_getElem? (i := 71) rfl)) (hw _ (List.mem_of_getElem? (i := 72) rfl)) (hw _ (List.mem_of_getElem? (i := 6) rfl)) (hw _ (List.mem_of_getElem? (i := 73) rfl)) (by decide) [(.int (1 : Int32)), (.int (2 : Int32))] [] pd_16 rfl rfl rfl rfl 0 (Nat.le_refl _) (by decide) (by decide) (by decide) (by decide) rfl fun T1 h1 X1 q1 => ?_
  obtain rfl := q1
  refine w_aloadN X1 (pc' := 7) d15_6 rfl rfl rfl ?_
  refine w_iloadN X1 (pc' := 8) d15_7 rfl rfl ?_
  refine w_baload X1 (pc' := 9) 1 (v := (.int (c1.toInt8.toInt32))) d15_8 A_1 (by decide) (by decide) rfl rfl ?_
  refine w_sipush X1 (pc' := 12) (255 : Int32) d15_9 rfl rfl ?_
  refine w_iand X1 (pc' := 13) d15_12 rfl ?_
  refine w_i2c X1 (pc' := 14) d15_13 rfl ?_
  exact w_creturn X1 d15_14 ⟨by rw [own_lat R1 (hl 1 (by decide))]; exact congrArg Value.int (own_i2c R1), rfl⟩ (by decide) (by decide)
set_option maxRecDepth 65536 in
set_option maxHeartbeats 40000000 in
theorem rm_lc3_0 {l : Launch} {Z : State} {a0 : Array Value} (hw : ∀ d ∈ tables_1, d.before a0 Z = true) {n0 : Nat} {h0 : Heap} (Z0 : n0 ≤ h0.size) (a1 : Addr) {zc : Int32} (S_c : Sta Z h0 "java/lang/String" "COMPACT_STRINGS" "Z" (.int zc)) (hzc : ¬ zc = (0 : Int32)) {fm : Value} (S_f : Sta Z h0 "jdk/internal/util/Preconditions" "SIOOBE_FORMATTER" "Ljava/util/function/BiFunction;" fm) (hfm : fm.isRef = true) (S_a : Sta Z h0 "java/lang/StringUTF16" "$assertionsDisabled" "Z" (.int 1)) (S_h : Sta Z h0 "java/lang/StringUTF16" "HI_BYTE_SHIFT" "I" (.int 0)) (S_l : Sta Z h0 "java/lang/StringUTF16" "LO_BYTE_SHIFT" "I" (.int 8)) {c0 c1 c2 : Int32} (R0 : own_R c0) (R1 : own_R c1) (R2 : own_R c2) (A_1 : Ary Z h0 a1 .byte 3 (fun i => .int ([c0, c1, c2].getD i 0).toInt8.toInt32)) (hl : ∀ i, i < 3 → ¬ (255 : Int32) < [c0, c1, c2].getD i 0) :
    Con l Z n0 (⟨"java/lang/StringLatin1", "charAt", "([BI)C"⟩ : MethodName) jdk_43_method_2_code 2 (some .char) ({ frames := 2, cells := 0, slots := 0, locals := 27 } : Room) #[(.ref a1), (.int (0 : Int32))] h0 (Val (fun v h => v = .int c0 ∧ h0 = h)) := by
  refine con_intro pn_15 Z0 (fr := fun m => mkF m 0 #[.val (.ref a1), .val (.int (0 : Int32))] []) (fun m => by first | (simp [entryFrame, mkF, argsToLocals, Value.category]; done) | rfl) ?_
  intro p e s m below s₁ hs0 X0
  refine w_iloadN X0 (pc' := 1) d15_0 rfl rfl ?_
  refine w_aloadN X0 (pc' := 2) d15_1 rfl rfl rfl ?_
  refine w_arraylength X0 (pc' := 3) (3 : Int32) d15_2 A_1 (by decide) rfl ?_
  refine w_staticN X0 (pc' := 6) d15_3 (rm_ci hw (h0 := h0) (sd_size X0) (0 : Int32) (3 : Int32) S_c hzc S_f hfm S_a S_h S_l (by decide) (by decide)) (hw _ (List.mem_of_getElem? (i := 71) rfl)) (hw _ (List.mem_of_getElem? (i := 72) rfl)) (hw _ (List.mem_of_getElem? (i := 6) rfl)) (hw _ (List.mem_of_getElem? (i := 73) rfl)) (by decide) [(.int (0 : Int32)), (.int (3 : Int32))] [] pd_16 rfl rfl rfl rfl 0 (Nat.le_refl _) (by decide) (by decide) (by decide) (by decide) rfl fun T1 h1 X1 q1 => ?_
  obtain rfl := q1
  refine w_aloadN X1 (pc' := 7) d15_6 rfl rfl rfl ?_
  refine w_iloadN X1 (pc' := 8) d15_7 rfl rfl ?_
  refine w_baload X1 (pc' := 9) 0 (v := (.int (c0.toInt8.toInt32))) d15_8 A_1 (by decide) (by decide) rfl rfl ?_
  refine w_sipush X1 (pc' := 12) (255 : Int32) d15_9 rfl rfl ?_
  refine w_iand X1 (pc' := 13) d15_12 rfl ?_
  refine w_i2c X1 (pc' := 14) d15_13 rfl ?_
  exact w_creturn X1 d15_14 ⟨by rw [own_lat R0 (hl 0 (by decide))]; exact congrArg Value.int (own_i2c R0), rfl⟩ (by decide) (by decide)
set_option maxRecDepth 65536 in
set_option maxHeartbeats 40000000 in
theorem rm_lc3_1 {l : Launch} {Z : State} {a0 : Array Value} (hw : ∀ d ∈ tables_1, d.before a0 Z = true) {n0 : Nat} {h0 : Heap} (Z0 : n0 ≤ h0.size) (a1 : Addr) {zc : Int32} (S_c : Sta Z h0 "java/lang/String" "COMPACT_STRINGS" "Z" (.int zc)) (hzc : ¬ zc = (0 : Int32)) {fm : Value} (S_f : Sta Z h0 "jdk/internal/util/Preconditions" "SIOOBE_FORMATTER" "Ljava/util/function/BiFunction;" fm) (hfm : fm.isRef = true) (S_a : Sta Z h0 "java/lang/StringUTF16" "$assertionsDisabled" "Z" (.int 1)) (S_h : Sta Z h0 "java/lang/StringUTF16" "HI_BYTE_SHIFT" "I" (.int 0)) (S_l : Sta Z h0 "java/lang/StringUTF16" "LO_BYTE_SHIFT" "I" (.int 8)) {c0 c1 c2 : Int32} (R0 : own_R c0) (R1 : own_R c1) (R2 : own_R c2) (A_1 : Ary Z h0 a1 .byte 3 (fun i => .int ([c0, c1, c2].getD i 0).toInt8.toInt32)) (hl : ∀ i, i < 3 → ¬ (255 : Int32) < [c0, c1, c2].getD i 0) :
    Con l Z n0 (⟨"java/lang/StringLatin1", "charAt", "([BI)C"⟩ : MethodName) jdk_43_method_2_code 2 (some .char) ({ frames := 2, cells := 0, slots := 0, locals := 27 } : Room) #[(.ref a1), (.int (1 : Int32))] h0 (Val (fun v h => v = .int c1 ∧ h0 = h)) := by
  refine con_intro pn_15 Z0 (fr := fun m => mkF m 0 #[.val (.ref a1), .val (.int (1 : Int32))] []) (fun m => by first | (simp [entryFrame, mkF, argsToLocals, Value.category]; done) | rfl) ?_
  intro p e s m below s₁ hs0 X0
  refine w_iloadN X0 (pc' := 1) d15_0 rfl rfl ?_
  refine w_aloadN X0 (pc' := 2) d15_1 rfl rfl rfl ?_
  refine w_arraylength X0 (pc' := 3) (3 : Int32) d15_2 A_1 (by decide) rfl ?_
  refine w_staticN X0 (pc' := 6) d15_3 (rm_ci hw (h0 := h0) (sd_size X0) (1 : Int32) (3 : Int32) S_c hzc S_f hfm S_a S_h S_l (by decide) (by decide)) (hw _ (List.mem_of_getElem? (i := 71) rfl)) (hw _ (List.mem_of_getElem? (i := 72) rfl)) (hw _ (List.mem_of_getElem? (i := 6) rfl)) (hw _ (List.mem_of_getElem? (i := 73) rfl)) (by decide) [(.int (1 : Int32)), (.int (3 : Int32))] [] pd_16 rfl rfl rfl rfl 0 (Nat.le_refl _) (by decide) (by decide) (by decide) (by decide) rfl fun T1 h1 X1 q1 => ?_
  obtain rfl := q1
  refine w_aloadN X1 (pc' := 7) d15_6 rfl rfl rfl ?_
  refine w_iloadN X1 (pc' := 8) d15_7 rfl rfl ?_
  refine w_baload X1 (pc' := 9) 1 (v := (.int (c1.toInt8.toInt32))) d15_8 A_1 (by decide) (by decide) rfl rfl ?_
  refine w_sipush X1 (pc' := 12) (255 : Int32) d15_9 rfl rfl ?_
  refine w_iand X1 (pc' := 13) d15_12 rfl ?_
  refine w_i2c X1 (pc' := 14) d15_13 rfl ?_
  exact w_creturn X1 d15_14 ⟨by rw [own_lat R1 (hl 1 (by decide))]; exact congrArg Value.int (own_i2c R1), rfl⟩ (by decide) (by decide)
set_option maxRecDepth 65536 in
set_option maxHeartbeats 40000000 in
theorem rm_lc3_2 {l : Launch} {Z : State} {a0 : Array Value} (hw : ∀ d ∈ tables_1, d.before a0 Z = true) {n0 : Nat} {h0 : Heap} (Z0 : n0 ≤ h0.size) (a1 : Addr) {zc : Int32} (S_c : Sta Z h0 "java/lang/String" "COMPACT_STRINGS" "Z" (.int zc)) (hzc : ¬ zc = (0 : Int32)) {fm : Value} (S_f : Sta Z h0 "jdk/internal/util/Preconditions" "SIOOBE_FORMATTER" "Ljava/util/function/BiFunction;" fm) (hfm : fm.isRef = true) (S_a : Sta Z h0 "java/lang/StringUTF16" "$assertionsDisabled" "Z" (.int 1)) (S_h : Sta Z h0 "java/lang/StringUTF16" "HI_BYTE_SHIFT" "I" (.int 0)) (S_l : Sta Z h0 "java/lang/StringUTF16" "LO_BYTE_SHIFT" "I" (.int 8)) {c0 c1 c2 : Int32} (R0 : own_R c0) (R1 : own_R c1) (R2 : own_R c2) (A_1 : Ary Z h0 a1 .byte 3 (fun i => .int ([c0, c1, c2].getD i 0).toInt8.toInt32)) (hl : ∀ i, i < 3 → ¬ (255 : Int32) < [c0, c1, c2].getD i 0) :
    Con l Z n0 (⟨"java/lang/StringLatin1", "charAt", "([BI)C"⟩ : MethodName) jdk_43_method_2_code 2 (some .char) ({ frames := 2, cells := 0, slots := 0, locals := 27 } : Room) #[(.ref a1), (.int (2 : Int32))] h0 (Val (fun v h => v = .int c2 ∧ h0 = h)) := by
  refine con_intro pn_15 Z0 (fr := fun m => mkF m 0 #[.val (.ref a1), .val (.int (2 : Int32))] []) (fun m => by first | (simp [entryFrame, mkF, argsToLocals, Value.category]; done) | rfl) ?_
  intro p e s m below s₁ hs0 X0
  refine w_iloadN X0 (pc' := 1) d15_0 rfl rfl ?_
  refine w_aloadN X0 (pc' := 2) d15_1 rfl rfl rfl ?_
  refine w_arraylength X0 (pc' := 3) (3 : Int32) d15_2 A_1 (by decide) rfl ?_
  refine w_staticN X0 (pc' := 6) d15_3 (rm_ci hw (h0 := h0) (sd_size X0) (2 : Int32) (3 : Int32) S_c hzc S_f hfm S_a S_h S_l (by decide) (by decide)) (hw _ (List.mem_of_getElem? (i := 71) rfl)) (hw _ (List.mem_of_getElem? (i := 72) rfl)) (hw _ (List.mem_of_getElem? (i := 6) rfl)) (hw _ (List.mem_of_getElem? (i := 73) rfl)) (by decide) [(.int (2 : Int32)), (.int (3 : Int32))] [] pd_16 rfl rfl rfl rfl 0 (Nat.le_refl _) (by decide) (by decide) (by decide) (by decide) rfl fun T1 h1 X1 q1 => ?_
  obtain rfl := q1
  refine w_aloadN X1 (pc' := 7) d15_6 rfl rfl rfl ?_
  refine w_iloadN X1 (pc' := 8) d15_7 rfl rfl ?_
  refine w_baload X1 (pc' := 9) 2 (v := (.int (c2.toInt8.toInt32))) d15_8 A_1 (by decide) (by decide) rfl rfl ?_
  refine w_sipush X1 (pc' := 12) (255 : Int32) d15_9 rfl rfl ?_
  refine w_iand X1 (pc' := 13) d15_12 rfl ?_
  refine w_i2c X1 (pc' := 14) d15_13 rfl ?_
  exact w_creturn X1 d15_14 ⟨by rw [own_lat R2 (hl 2 (by decide))]; exact congrArg Value.int (own_i2c R2), rfl⟩ (by decide) (by decide)
set_option maxRecDepth 65536 in
set_option maxHeartbeats 40000000 in
theorem rm_lc4_0 {l : Launch} {Z : State} {a0 : Array Value} (hw : ∀ d ∈ tables_1, d.before a0 Z = true) {n0 : Nat} {h0 : Heap} (Z0 : n0 ≤ h0.size) (a1 : Addr) {zc : Int32} (S_c : Sta Z h0 "java/lang/String" "COMPACT_STRINGS" "Z" (.int zc)) (hzc : ¬ zc = (0 : Int32)) {fm : Value} (S_f : Sta Z h0 "jdk/internal/util/Preconditions" "SIOOBE_FORMATTER" "Ljava/util/function/BiFunction;" fm) (hfm : fm.isRef = true) (S_a : Sta Z h0 "java/lang/StringUTF16" "$assertionsDisabled" "Z" (.int 1)) (S_h : Sta Z h0 "java/lang/StringUTF16" "HI_BYTE_SHIFT" "I" (.int 0)) (S_l : Sta Z h0 "java/lang/StringUTF16" "LO_BYTE_SHIFT" "I" (.int 8)) {c0 c1 c2 c3 : Int32} (R0 : own_R c0) (R1 : own_R c1) (R2 : own_R c2) (R3 : own_R c3) (A_1 : Ary Z h0 a1 .byte 4 (fun i => .int ([c0, c1, c2, c3].getD i 0).toInt8.toInt32)) (hl : ∀ i, i < 4 → ¬ (255 : Int32) < [c0, c1, c2, c3].getD i 0) :
    Con l Z n0 (⟨"java/lang/StringLatin1", "charAt", "([BI)C"⟩ : MethodName) jdk_43_method_2_code 2 (some .char) ({ frames := 2, cells := 0, slots := 0, locals := 27 } : Room) #[(.ref a1), (.int (0 : Int32))] h0 (Val (fun v h => v = .int c0 ∧ h0 = h)) := by
  refine con_intro pn_15 Z0 (fr := fun m => mkF m 0 #[.val (.ref a1), .val (.int (0 : Int32))] []) (fun m => by first | (simp [entryFrame, mkF, argsToLocals, Value.category]; done) | rfl) ?_
  intro p e s m below s₁ hs0 X0
  refine w_iloadN X0 (pc' := 1) d15_0 rfl rfl ?_
  refine w_aloadN X0 (pc' := 2) d15_1 rfl rfl rfl ?_
  refine w_arraylength X0 (pc' := 3) (4 : Int32) d15_2 A_1 (by decide) rfl ?_
  refine w_staticN X0 (pc' := 6) d15_3 (rm_ci hw (h0 := h0) (sd_size X0) (0 : Int32) (4 : Int32) S_c hzc S_f hfm S_a S_h S_l (by decide) (by decide)) (hw _ (List.mem_of_getElem? (i := 71) rfl)) (hw _ (List.mem_of_getElem? (i := 72) rfl)) (hw _ (List.mem_of_getElem? (i := 6) rfl)) (hw _ (List.mem_of_getElem? (i := 73) rfl)) (by decide) [(.int (0 : Int32)), (.int (4 : Int32))] [] pd_16 rfl rfl rfl rfl 0 (Nat.le_refl _) (by decide) (by decide) (by decide) (by decide) rfl fun T1 h1 X1 q1 => ?_
  obtain rfl := q1
  refine w_aloadN X1 (pc' := 7) d15_6 rfl rfl rfl ?_
  refine w_iloadN X1 (pc' := 8) d15_7 rfl rfl ?_
  refine w_baload X1 (pc' := 9) 0 (v := (.int (c0.toInt8.toInt32))) d15_8 A_1 (by decide) (by decide) rfl rfl ?_
  refine w_sipush X1 (pc' := 12) (255 : Int32) d15_9 rfl rfl ?_
  refine w_iand X1 (pc' := 13) d15_12 rfl ?_
  refine w_i2c X1 (pc' := 14) d15_13 rfl ?_
  exact w_creturn X1 d15_14 ⟨by rw [own_lat R0 (hl 0 (by decide))]; exact congrArg Value.int (own_i2c R0), rfl⟩ (by decide) (by decide)
set_option maxRecDepth 65536 in
set_option maxHeartbeats 40000000 in
theorem rm_lc4_1 {l : Launch} {Z : State} {a0 : Array Value} (hw : ∀ d ∈ tables_1, d.before a0 Z = true) {n0 : Nat} {h0 : Heap} (Z0 : n0 ≤ h0.size) (a1 : Addr) {zc : Int32} (S_c : Sta Z h0 "java/lang/String" "COMPACT_STRINGS" "Z" (.int zc)) (hzc : ¬ zc = (0 : Int32)) {fm : Value} (S_f : Sta Z h0 "jdk/internal/util/Preconditions" "SIOOBE_FORMATTER" "Ljava/util/function/BiFunction;" fm) (hfm : fm.isRef = true) (S_a : Sta Z h0 "java/lang/StringUTF16" "$assertionsDisabled" "Z" (.int 1)) (S_h : Sta Z h0 "java/lang/StringUTF16" "HI_BYTE_SHIFT" "I" (.int 0)) (S_l : Sta Z h0 "java/lang/StringUTF16" "LO_BYTE_SHIFT" "I" (.int 8)) {c0 c1 c2 c3 : Int32} (R0 : own_R c0) (R1 : own_R c1) (R2 : own_R c2) (R3 : own_R c3) (A_1 : Ary Z h0 a1 .byte 4 (fun i => .int ([c0, c1, c2, c3].getD i 0).toInt8.toInt32)) (hl : ∀ i, i < 4 → ¬ (255 : Int32) < [c0, c1, c2, c3].getD i 0) :
    Con l Z n0 (⟨"java/lang/StringLatin1", "charAt", "([BI)C"⟩ : MethodName) jdk_43_method_2_code 2 (some .char) ({ frames := 2, cells := 0, slots := 0, locals := 27 } : Room) #[(.ref a1), (.int (1 : Int32))] h0 (Val (fun v h => v = .int c1 ∧ h0 = h)) := by
  refine con_intro pn_15 Z0 (fr := fun m => mkF m 0 #[.val (.ref a1), .val (.int (1 : Int32))] []) (fun m => by first | (simp [entryFrame, mkF, argsToLocals, Value.category]; done) | rfl) ?_
  intro p e s m below s₁ hs0 X0
  refine w_iloadN X0 (pc' := 1) d15_0 rfl rfl ?_
  refine w_aloadN X0 (pc' := 2) d15_1 rfl rfl rfl ?_
  refine w_arraylength X0 (pc' := 3) (4 : Int32) d15_2 A_1 (by decide) rfl ?_
  refine w_staticN X0 (pc' := 6) d15_3 (rm_ci hw (h0 := h0) (sd_size X0) (1 : Int32) (4 : Int32) S_c hzc S_f hfm S_a S_h S_l (by decide) (by decide)) (hw _ (List.mem_of_getElem? (i := 71) rfl)) (hw _ (List.mem_of_getElem? (i := 72) rfl)) (hw _ (List.mem_of_getElem? (i := 6) rfl)) (hw _ (List.mem_of_getElem? (i := 73) rfl)) (by decide) [(.int (1 : Int32)), (.int (4 : Int32))] [] pd_16 rfl rfl rfl rfl 0 (Nat.le_refl _) (by decide) (by decide) (by decide) (by decide) rfl fun T1 h1 X1 q1 => ?_
  obtain rfl := q1
  refine w_aloadN X1 (pc' := 7) d15_6 rfl rfl rfl ?_
  refine w_iloadN X1 (pc' := 8) d15_7 rfl rfl ?_
  refine w_baload X1 (pc' := 9) 1 (v := (.int (c1.toInt8.toInt32))) d15_8 A_1 (by decide) (by decide) rfl rfl ?_
  refine w_sipush X1 (pc' := 12) (255 : Int32) d15_9 rfl rfl ?_
  refine w_iand X1 (pc' := 13) d15_12 rfl ?_
  refine w_i2c X1 (pc' := 14) d15_13 rfl ?_
  exact w_creturn X1 d15_14 ⟨by rw [own_lat R1 (hl 1 (by decide))]; exact congrArg Value.int (own_i2c R1), rfl⟩ (by decide) (by decide)
set_option maxRecDepth 65536 in
set_option maxHeartbeats 40000000 in
theorem rm_lc4_2 {l : Launch} {Z : State} {a0 : Array Value} (hw : ∀ d ∈ tables_1, d.before a0 Z = true) {n0 : Nat} {h0 : Heap} (Z0 : n0 ≤ h0.size) (a1 : Addr) {zc : Int32} (S_c : Sta Z h0 "java/lang/String" "COMPACT_STRINGS" "Z" (.int zc)) (hzc : ¬ zc = (0 : Int32)) {fm : Value} (S_f : Sta Z h0 "jdk/internal/util/Preconditions" "SIOOBE_FORMATTER" "Ljava/util/function/BiFunction;" fm) (hfm : fm.isRef = true) (S_a : Sta Z h0 "java/lang/StringUTF16" "$assertionsDisabled" "Z" (.int 1)) (S_h : Sta Z h0 "java/lang/StringUTF16" "HI_BYTE_SHIFT" "I" (.int 0)) (S_l : Sta Z h0 "java/lang/StringUTF16" "LO_BYTE_SHIFT" "I" (.int 8)) {c0 c1 c2 c3 : Int32} (R0 : own_R c0) (R1 : own_R c1) (R2 : own_R c2) (R3 : own_R c3) (A_1 : Ary Z h0 a1 .byte 4 (fun i => .int ([c0, c1, c2, c3].getD i 0).toInt8.toInt32)) (hl : ∀ i, i < 4 → ¬ (255 : Int32) < [c0, c1, c2, c3].getD i 0) :
    Con l Z n0 (⟨"java/lang/StringLatin1", "charAt", "([BI)C"⟩ : MethodName) jdk_43_method_2_code 2 (some .char) ({ frames := 2, cells := 0, slots := 0, locals := 27 } : Room) #[(.ref a1), (.int (2 : Int32))] h0 (Val (fun v h => v = .int c2 ∧ h0 = h)) := by
  refine con_intro pn_15 Z0 (fr := fun m => mkF m 0 #[.val (.ref a1), .val (.int (2 : Int32))] []) (fun m => by first | (simp [entryFrame, mkF, argsToLocals, Value.category]; done) | rfl) ?_
  intro p e s m below s₁ hs0 X0
  refine w_iloadN X0 (pc' := 1) d15_0 rfl rfl ?_
  refine w_aloadN X0 (pc' := 2) d15_1 rfl rfl rfl ?_
  refine w_arraylength X0 (pc' := 3) (4 : Int32) d15_2 A_1 (by decide) rfl ?_
  refine w_staticN X0 (pc' := 6) d15_3 (rm_ci hw (h0 := h0) (sd_size X0) (2 : Int32) (4 : Int32) S_c hzc S_f hfm S_a S_h S_l (by decide) (by decide)) (hw _ (List.mem_of_getElem? (i := 71) rfl)) (hw _ (List.mem_of_getElem? (i := 72) rfl)) (hw _ (List.mem_of_getElem? (i := 6) rfl)) (hw _ (List.mem_of_getElem? (i := 73) rfl)) (by decide) [(.int (2 : Int32)), (.int (4 : Int32))] [] pd_16 rfl rfl rfl rfl 0 (Nat.le_refl _) (by decide) (by decide) (by decide) (by decide) rfl fun T1 h1 X1 q1 => ?_
  obtain rfl := q1
  refine w_aloadN X1 (pc' := 7) d15_6 rfl rfl rfl ?_
  refine w_iloadN X1 (pc' := 8) d15_7 rfl rfl ?_
  refine w_baload X1 (pc' := 9) 2 (v := (.int (c2.toInt8.toInt32))) d15_8 A_1 (by decide) (by decide) rfl rfl ?_
  refine w_sipush X1 (pc' := 12) (255 : Int32) d15_9 rfl rfl ?_
  refine w_iand X1 (pc' := 13) d15_12 rfl ?_
  refine w_i2c X1 (pc' := 14) d15_13 rfl ?_
  exact w_creturn X1 d15_14 ⟨by rw [own_lat R2 (hl 2 (by decide))]; exact congrArg Value.int (own_i2c R2), rfl⟩ (by decide) (by decide)
set_option maxRecDepth 65536 in
set_option maxHeartbeats 40000000 in
theorem rm_lc4_3 {l : Launch} {Z : State} {a0 : Array Value} (hw : ∀ d ∈ tables_1, d.before a0 Z = true) {n0 : Nat} {h0 : Heap} (Z0 : n0 ≤ h0.size) (a1 : Addr) {zc : Int32} (S_c : Sta Z h0 "java/lang/String" "COMPACT_STRINGS" "Z" (.int zc)) (hzc : ¬ zc = (0 : Int32)) {fm : Value} (S_f : Sta Z h0 "jdk/internal/util/Preconditions" "SIOOBE_FORMATTER" "Ljava/util/function/BiFunction;" fm) (hfm : fm.isRef = true) (S_a : Sta Z h0 "java/lang/StringUTF16" "$assertionsDisabled" "Z" (.int 1)) (S_h : Sta Z h0 "java/lang/StringUTF16" "HI_BYTE_SHIFT" "I" (.int 0)) (S_l : Sta Z h0 "java/lang/StringUTF16" "LO_BYTE_SHIFT" "I" (.int 8)) {c0 c1 c2 c3 : Int32} (R0 : own_R c0) (R1 : own_R c1) (R2 : own_R c2) (R3 : own_R c3) (A_1 : Ary Z h0 a1 .byte 4 (fun i => .int ([c0, c1, c2, c3].getD i 0).toInt8.toInt32)) (hl : ∀ i, i < 4 → ¬ (255 : Int32) < [c0, c1, c2, c3].getD i 0) :
    Con l Z n0 (⟨"java/lang/StringLatin1", "charAt", "([BI)C"⟩ : MethodName) jdk_43_method_2_code 2 (some .char) ({ frames := 2, cells := 0, slots := 0, locals := 27 } : Room) #[(.ref a1), (.int (3 : Int32))] h0 (Val (fun v h => v = .int c3 ∧ h0 = h)) := by
  refine con_intro pn_15 Z0 (fr := fun m => mkF m 0 #[.val (.ref a1), .val (.int (3 : Int32))] []) (fun m => by first | (simp [entryFrame, mkF, argsToLocals, Value.category]; done) | rfl) ?_
  intro p e s m below s₁ hs0 X0
  refine w_iloadN X0 (pc' := 1) d15_0 rfl rfl ?_
  refine w_aloadN X0 (pc' := 2) d15_1 rfl rfl rfl ?_
  refine w_arraylength X0 (pc' := 3) (4 : Int32) d15_2 A_1 (by decide) rfl ?_
  refine w_staticN X0 (pc' := 6) d15_3 (rm_ci hw (h0 := h0) (sd_size X0) (3 : Int32) (4 : Int32) S_c hzc S_f hfm S_a S_h S_l (by decide) (by decide)) (hw _ (List.mem_of_getElem? (i := 71) rfl)) (hw _ (List.mem_of_getElem? (i := 72) rfl)) (hw _ (List.mem_of_getElem? (i := 6) rfl)) (hw _ (List.mem_of_getElem? (i := 73) rfl)) (by decide) [(.int (3 : Int32)), (.int (4 : Int32))] [] pd_16 rfl rfl rfl rfl 0 (Nat.le_refl _) (by decide) (by decide) (by decide) (by decide) rfl fun T1 h1 X1 q1 => ?_
  obtain rfl := q1
  refine w_aloadN X1 (pc' := 7) d15_6 rfl rfl rfl ?_
  refine w_iloadN X1 (pc' := 8) d15_7 rfl rfl ?_
  refine w_baload X1 (pc' := 9) 3 (v := (.int (c3.toInt8.toInt32))) d15_8 A_1 (by decide) (by decide) rfl rfl ?_
  refine w_sipush X1 (pc' := 12) (255 : Int32) d15_9 rfl rfl ?_
  refine w_iand X1 (pc' := 13) d15_12 rfl ?_
  refine w_i2c X1 (pc' := 14) d15_13 rfl ?_
  exact w_creturn X1 d15_14 ⟨by rw [own_lat R3 (hl 3 (by decide))]; exact congrArg Value.int (own_i2c R3), rfl⟩ (by decide) (by decide)
theorem d6_0 : decode jdk_42_method_54_code 0 = .ok (.aload_n 0, 1) := by decide +kernel
theorem d6_1 : decode jdk_42_method_54_code 1 = .ok (.getfield 9, 3) := by decide +kernel
theorem d6_4 : decode jdk_42_method_54_code 4 = .ok (.arraylength, 1) := by decide +kernel
theorem d6_5 : decode jdk_42_method_54_code 5 = .ok (.aload_n 0, 1) := by decide +kernel
theorem d6_6 : decode jdk_42_method_54_code 6 = .ok (.invokevirtual 335, 3) := by decide +kernel
theorem d6_9 : decode jdk_42_method_54_code 9 = .ok (.ishr, 1) := by decide +kernel
theorem d6_10 : decode jdk_42_method_54_code 10 = .ok (.ireturn, 1) := by decide +kernel
theorem pn_6 : plainFor (⟨"java/lang/String", "length", "()I"⟩ : MethodName) = true := plainFor_of_name (by first | (simp [plainName, overriddenIn]; done) | decide +kernel)
theorem pd_6 : parseMethodDescriptor "()I" = some ⟨[], some .int⟩ := by decide +kernel
set_option maxRecDepth 65536 in
set_option maxHeartbeats 40000000 in
theorem rm_len0 {l : Launch} {Z : State} {a0 : Array Value} (hw : ∀ d ∈ tables_1, d.before a0 Z = true) {n0 : Nat} {h0 : Heap} (Z0 : n0 ≤ h0.size) (a1 : Addr) {zc : Int32} (S_c : Sta Z h0 "java/lang/String" "COMPACT_STRINGS" "Z" (.int zc)) (hzc : ¬ zc = (0 : Int32)) {fm : Value} (S_f : Sta Z h0 "jdk/internal/util/Preconditions" "SIOOBE_FORMATTER" "Ljava/util/function/BiFunction;" fm) (hfm : fm.isRef = true) (S_a : Sta Z h0 "java/lang/StringUTF16" "$assertionsDisabled" "Z" (.int 1)) (S_h : Sta Z h0 "java/lang/StringUTF16" "HI_BYTE_SHIFT" "I" (.int 0)) (S_l : Sta Z h0 "java/lang/StringUTF16" "LO_BYTE_SHIFT" "I" (.int 8))  (U : StrU Z h0 a1 []) :
    Con l Z n0 (⟨"java/lang/String", "length", "()I"⟩ : MethodName) jdk_42_method_54_code 1 (some .int) ({ frames := 1, cells := 0, slots := 0, locals := 13 } : Room) #[(.ref a1)] h0 (Val (fun v h => v = .int 0 ∧ h0 = h)) := by
  refine con_intro pn_6 Z0 (fr := fun m => mkF m 0 #[.val (.ref a1)] []) (fun m => by first | (simp [entryFrame, mkF, argsToLocals, Value.category]; done) | rfl) ?_
  intro p e s m below s₁ hs0 X0
  rcases U with ⟨b, E_1, F_c, F_v, A_1, hl⟩ | ⟨b, E_1, F_c, F_v, A_1⟩
  · skip
    replace A_1 : Ary Z h0 b .byte 0 (fun i => .int ([].getD i 0).toInt8.toInt32) := A_1
    replace hl : ∀ i, i < 0 → ¬ (255 : Int32) < [].getD i 0 := hl
    refine w_aloadN X0 (pc' := 1) d6_0 rfl rfl rfl ?_
    refine w_getfield X0 (pc' := 4) d6_1 (host := "") (Or.inl (hw _ (List.mem_of_getElem? (i := 24) rfl))) Via.refl F_v rfl fun T1 X1 => ?_
    refine w_arraylength X1 (pc' := 5) (0 : Int32) d6_4 A_1 (by decide) rfl ?_
    refine w_aloadN X1 (pc' := 6) d6_5 rfl rfl rfl ?_
    refine w_virtualV X1 (pc' := 9) d6_6 (rm_cdr0 hw (h0 := h0) (sd_size X1) a1 S_c hzc S_f hfm S_a S_h S_l F_c) (hw _ (List.mem_of_getElem? (i := 35) rfl)) (hw _ (List.mem_of_getElem? (i := 36) rfl)) (hw _ (List.mem_of_getElem? (i := 38) rfl)) (hw _ (List.mem_of_getElem? (i := 37) rfl)) (hw _ (List.mem_of_getElem? (i := 6) rfl)) (hw _ (List.mem_of_getElem? (i := 39) rfl)) E_1 (by decide) [] [(.int (0 : Int32))] pd_7 rfl rfl rfl rfl 1 (Nat.le_refl _) (by decide) (by decide) (by decide) (by decide) rfl fun T2 h2 v2 X2 q2 => ?_
    obtain ⟨rfl, rfl⟩ := q2
    refine w_ishr X2 (pc' := 10) d6_9 rfl ?_
    exact w_ireturn X2 d6_10 ⟨by decide, rfl⟩ (by decide) (by decide)
  · skip
    replace A_1 : Ary Z h0 b .byte 0 (own_u16 []) := A_1
    refine w_aloadN X0 (pc' := 1) d6_0 rfl rfl rfl ?_
    refine w_getfield X0 (pc' := 4) d6_1 (host := "") (Or.inl (hw _ (List.mem_of_getElem? (i := 24) rfl))) Via.refl F_v rfl fun T3 X3 => ?_
    refine w_arraylength X3 (pc' := 5) (0 : Int32) d6_4 A_1 (by decide) rfl ?_
    refine w_aloadN X3 (pc' := 6) d6_5 rfl rfl rfl ?_
    refine w_virtualV X3 (pc' := 9) d6_6 (rm_cdr1 hw (h0 := h0) (sd_size X3) a1 S_c hzc S_f hfm S_a S_h S_l F_c) (hw _ (List.mem_of_getElem? (i := 35) rfl)) (hw _ (List.mem_of_getElem? (i := 36) rfl)) (hw _ (List.mem_of_getElem? (i := 38) rfl)) (hw _ (List.mem_of_getElem? (i := 37) rfl)) (hw _ (List.mem_of_getElem? (i := 6) rfl)) (hw _ (List.mem_of_getElem? (i := 39) rfl)) E_1 (by decide) [] [(.int (0 : Int32))] pd_7 rfl rfl rfl rfl 1 (Nat.le_refl _) (by decide) (by decide) (by decide) (by decide) rfl fun T4 h4 v4 X4 q4 => ?_
    obtain ⟨rfl, rfl⟩ := q4
    refine w_ishr X4 (pc' := 10) d6_9 rfl ?_
    exact w_ireturn X4 d6_10 ⟨by decide, rfl⟩ (by decide) (by decide)
set_option maxRecDepth 65536 in
set_option maxHeartbeats 40000000 in
theorem rm_len1 {l : Launch} {Z : State} {a0 : Array Value} (hw : ∀ d ∈ tables_1, d.before a0 Z = true) {n0 : Nat} {h0 : Heap} (Z0 : n0 ≤ h0.size) (a1 : Addr) {zc : Int32} (S_c : Sta Z h0 "java/lang/String" "COMPACT_STRINGS" "Z" (.int zc)) (hzc : ¬ zc = (0 : Int32)) {fm : Value} (S_f : Sta Z h0 "jdk/internal/util/Preconditions" "SIOOBE_FORMATTER" "Ljava/util/function/BiFunction;" fm) (hfm : fm.isRef = true) (S_a : Sta Z h0 "java/lang/StringUTF16" "$assertionsDisabled" "Z" (.int 1)) (S_h : Sta Z h0 "java/lang/StringUTF16" "HI_BYTE_SHIFT" "I" (.int 0)) (S_l : Sta Z h0 "java/lang/StringUTF16" "LO_BYTE_SHIFT" "I" (.int 8)) {c0 : Int32} (R0 : own_R c0) (U : StrU Z h0 a1 [c0]) :
    Con l Z n0 (⟨"java/lang/String", "length", "()I"⟩ : MethodName) jdk_42_method_54_code 1 (some .int) ({ frames := 1, cells := 0, slots := 0, locals := 13 } : Room) #[(.ref a1)] h0 (Val (fun v h => v = .int 1 ∧ h0 = h)) := by
  refine con_intro pn_6 Z0 (fr := fun m => mkF m 0 #[.val (.ref a1)] []) (fun m => by first | (simp [entryFrame, mkF, argsToLocals, Value.category]; done) | rfl) ?_
  intro p e s m below s₁ hs0 X0
  rcases U with ⟨b, E_1, F_c, F_v, A_1, hl⟩ | ⟨b, E_1, F_c, F_v, A_1⟩
  · skip
    replace A_1 : Ary Z h0 b .byte 1 (fun i => .int ([c0].getD i 0).toInt8.toInt32) := A_1
    replace hl : ∀ i, i < 1 → ¬ (255 : Int32) < [c0].getD i 0 := hl
    refine w_aloadN X0 (pc' := 1) d6_0 rfl rfl rfl ?_
    refine w_getfield X0 (pc' := 4) d6_1 (host := "") (Or.inl (hw _ (List.mem_of_getElem? (i := 24) rfl))) Via.refl F_v rfl fun T1 X1 => ?_
    refine w_arraylength X1 (pc' := 5) (1 : Int32) d6_4 A_1 (by decide) rfl ?_
    refine w_aloadN X1 (pc' := 6) d6_5 rfl rfl rfl ?_
    refine w_virtualV X1 (pc' := 9) d6_6 (rm_cdr0 hw (h0 := h0) (sd_size X1) a1 S_c hzc S_f hfm S_a S_h S_l F_c) (hw _ (List.mem_of_getElem? (i := 35) rfl)) (hw _ (List.mem_of_getElem? (i := 36) rfl)) (hw _ (List.mem_of_getElem? (i := 38) rfl)) (hw _ (List.mem_of_getElem? (i := 37) rfl)) (hw _ (List.mem_of_getElem? (i := 6) rfl)) (hw _ (List.mem_of_getElem? (i := 39) rfl)) E_1 (by decide) [] [(.int (1 : Int32))] pd_7 rfl rfl rfl rfl 1 (Nat.le_refl _) (by decide) (by decide) (by decide) (by decide) rfl fun T2 h2 v2 X2 q2 => ?_
    obtain ⟨rfl, rfl⟩ := q2
    refine w_ishr X2 (pc' := 10) d6_9 rfl ?_
    exact w_ireturn X2 d6_10 ⟨by decide, rfl⟩ (by decide) (by decide)
  · skip
    replace A_1 : Ary Z h0 b .byte 2 (own_u16 [c0]) := A_1
    refine w_aloadN X0 (pc' := 1) d6_0 rfl rfl rfl ?_
    refine w_getfield X0 (pc' := 4) d6_1 (host := "") (Or.inl (hw _ (List.mem_of_getElem? (i := 24) rfl))) Via.refl F_v rfl fun T3 X3 => ?_
    refine w_arraylength X3 (pc' := 5) (2 : Int32) d6_4 A_1 (by decide) rfl ?_
    refine w_aloadN X3 (pc' := 6) d6_5 rfl rfl rfl ?_
    refine w_virtualV X3 (pc' := 9) d6_6 (rm_cdr1 hw (h0 := h0) (sd_size X3) a1 S_c hzc S_f hfm S_a S_h S_l F_c) (hw _ (List.mem_of_getElem? (i := 35) rfl)) (hw _ (List.mem_of_getElem? (i := 36) rfl)) (hw _ (List.mem_of_getElem? (i := 38) rfl)) (hw _ (List.mem_of_getElem? (i := 37) rfl)) (hw _ (List.mem_of_getElem? (i := 6) rfl)) (hw _ (List.mem_of_getElem? (i := 39) rfl)) E_1 (by decide) [] [(.int (2 : Int32))] pd_7 rfl rfl rfl rfl 1 (Nat.le_refl _) (by decide) (by decide) (by decide) (by decide) rfl fun T4 h4 v4 X4 q4 => ?_
    obtain ⟨rfl, rfl⟩ := q4
    refine w_ishr X4 (pc' := 10) d6_9 rfl ?_
    exact w_ireturn X4 d6_10 ⟨by decide, rfl⟩ (by decide) (by decide)
theorem d13_0 : decode jdk_42_method_56_code 0 = .ok (.aload_n 0, 1) := by decide +kernel
theorem d13_1 : decode jdk_42_method_56_code 1 = .ok (.invokevirtual 492, 3) := by decide +kernel
theorem d13_4 : decode jdk_42_method_56_code 4 = .ok (.ifCond .eq 12, 3) := by decide +kernel
theorem d13_7 : decode jdk_42_method_56_code 7 = .ok (.aload_n 0, 1) := by decide +kernel
theorem d13_8 : decode jdk_42_method_56_code 8 = .ok (.getfield 9, 3) := by decide +kernel
theorem d13_11 : decode jdk_42_method_56_code 11 = .ok (.iload_n 1, 1) := by decide +kernel
theorem d13_12 : decode jdk_42_method_56_code 12 = .ok (.invokestatic 495, 3) := by decide +kernel
theorem d13_15 : decode jdk_42_method_56_code 15 = .ok (.ireturn, 1) := by decide +kernel
theorem d13_16 : decode jdk_42_method_56_code 16 = .ok (.aload_n 0, 1) := by decide +kernel
theorem d13_17 : decode jdk_42_method_56_code 17 = .ok (.getfield 9, 3) := by decide +kernel
theorem d13_20 : decode jdk_42_method_56_code 20 = .ok (.iload_n 1, 1) := by decide +kernel
theorem d13_21 : decode jdk_42_method_56_code 21 = .ok (.invokestatic 498, 3) := by decide +kernel
theorem d13_24 : decode jdk_42_method_56_code 24 = .ok (.ireturn, 1) := by decide +kernel
theorem pn_13 : plainFor (⟨"java/lang/String", "charAt", "(I)C"⟩ : MethodName) = true := plainFor_of_name (by first | (simp [plainName, overriddenIn]; done) | decide +kernel)
theorem pd_13 : parseMethodDescriptor "(I)C" = some ⟨[.int], some .char⟩ := by decide +kernel
set_option maxRecDepth 65536 in
set_option maxHeartbeats 40000000 in
theorem rm_ch1_0 {l : Launch} {Z : State} {a0 : Array Value} (hw : ∀ d ∈ tables_1, d.before a0 Z = true) {n0 : Nat} {h0 : Heap} (Z0 : n0 ≤ h0.size) (a1 : Addr) {zc : Int32} (S_c : Sta Z h0 "java/lang/String" "COMPACT_STRINGS" "Z" (.int zc)) (hzc : ¬ zc = (0 : Int32)) {fm : Value} (S_f : Sta Z h0 "jdk/internal/util/Preconditions" "SIOOBE_FORMATTER" "Ljava/util/function/BiFunction;" fm) (hfm : fm.isRef = true) (S_a : Sta Z h0 "java/lang/StringUTF16" "$assertionsDisabled" "Z" (.int 1)) (S_h : Sta Z h0 "java/lang/StringUTF16" "HI_BYTE_SHIFT" "I" (.int 0)) (S_l : Sta Z h0 "java/lang/StringUTF16" "LO_BYTE_SHIFT" "I" (.int 8)) {c0 : Int32} (R0 : own_R c0) (U : StrU Z h0 a1 [c0]) :
    Con l Z n0 (⟨"java/lang/String", "charAt", "(I)C"⟩ : MethodName) jdk_42_method_56_code 2 (some .char) ({ frames := 4, cells := 0, slots := 0, locals := 53 } : Room) #[(.ref a1), (.int (0 : Int32))] h0 (Val (fun v h => v = .int c0 ∧ h0 = h)) := by
  refine con_intro pn_13 Z0 (fr := fun m => mkF m 0 #[.val (.ref a1), .val (.int (0 : Int32))] []) (fun m => by first | (simp [entryFrame, mkF, argsToLocals, Value.category]; done) | rfl) ?_
  intro p e s m below s₁ hs0 X0
  rcases U with ⟨b, E_1, F_c, F_v, A_1, hl⟩ | ⟨b, E_1, F_c, F_v, A_1⟩
  · skip
    replace A_1 : Ary Z h0 b .byte 1 (fun i => .int ([c0].getD i 0).toInt8.toInt32) := A_1
    replace hl : ∀ i, i < 1 → ¬ (255 : Int32) < [c0].getD i 0 := hl
    refine w_aloadN X0 (pc' := 1) d13_0 rfl rfl rfl ?_
    refine w_virtualV X0 (pc' := 4) d13_1 (rm_isl0 hw (h0 := h0) (sd_size X0) a1 S_c hzc S_f hfm S_a S_h S_l F_c) (hw _ (List.mem_of_getElem? (i := 62) rfl)) (hw _ (List.mem_of_getElem? (i := 63) rfl)) (hw _ (List.mem_of_getElem? (i := 65) rfl)) (hw _ (List.mem_of_getElem? (i := 64) rfl)) (hw _ (List.mem_of_getElem? (i := 6) rfl)) (hw _ (List.mem_of_getElem? (i := 66) rfl)) E_1 (by decide) [] [] pd_14 rfl rfl rfl rfl 0 (Nat.le_refl _) (by decide) (by decide) (by decide) (by decide) rfl fun T1 h1 v1 X1 q1 => ?_
    obtain ⟨rfl, rfl⟩ := q1
    refine w_if_eq X1 16 7 d13_4 (by decide) rfl rfl (fun hc4 => by exfalso; revert hc4; decide) (fun hc4 => ?_)
    refine w_aloadN X1 (pc' := 8) d13_7 rfl rfl rfl ?_
    refine w_getfield X1 (pc' := 11) d13_8 (host := "") (Or.inl (hw _ (List.mem_of_getElem? (i := 24) rfl))) Via.refl F_v rfl fun T2 X2 => ?_
    refine w_iloadN X2 (pc' := 12) d13_11 rfl rfl ?_
    refine w_staticV X2 (pc' := 15) d13_12 (rm_lc1_0 hw (h0 := h0) (sd_size X2) b S_c hzc S_f hfm S_a S_h S_l R0 A_1 hl) (hw _ (List.mem_of_getElem? (i := 67) rfl)) (hw _ (List.mem_of_getElem? (i := 68) rfl)) (hw _ (List.mem_of_getElem? (i := 69) rfl)) (hw _ (List.mem_of_getElem? (i := 70) rfl)) (by decide) [(.ref b), (.int (0 : Int32))] [] pd_15 rfl rfl rfl rfl 0 (Nat.le_refl _) (by decide) (by decide) (by decide) (by decide) rfl fun T3 h3 v3 X3 q3 => ?_
    obtain ⟨rfl, rfl⟩ := q3
    exact w_creturn X3 d13_15 ⟨congrArg Value.int (own_i2c R0), rfl⟩ (by decide) (by decide)
  · skip
    replace A_1 : Ary Z h0 b .byte 2 (own_u16 [c0]) := A_1
    refine w_aloadN X0 (pc' := 1) d13_0 rfl rfl rfl ?_
    refine w_virtualV X0 (pc' := 4) d13_1 (rm_isl1 hw (h0 := h0) (sd_size X0) a1 S_c hzc S_f hfm S_a S_h S_l F_c) (hw _ (List.mem_of_getElem? (i := 62) rfl)) (hw _ (List.mem_of_getElem? (i := 63) rfl)) (hw _ (List.mem_of_getElem? (i := 65) rfl)) (hw _ (List.mem_of_getElem? (i := 64) rfl)) (hw _ (List.mem_of_getElem? (i := 6) rfl)) (hw _ (List.mem_of_getElem? (i := 66) rfl)) E_1 (by decide) [] [] pd_14 rfl rfl rfl rfl 0 (Nat.le_refl _) (by decide) (by decide) (by decide) (by decide) rfl fun T4 h4 v4 X4 q4 => ?_
    obtain ⟨rfl, rfl⟩ := q4
    refine w_if_eq X4 16 7 d13_4 (by decide) rfl rfl (fun hc4 => ?_) (fun hc4 => by exfalso; revert hc4; decide)
    refine w_aloadN X4 (pc' := 17) d13_16 rfl rfl rfl ?_
    refine w_getfield X4 (pc' := 20) d13_17 (host := "") (Or.inl (hw _ (List.mem_of_getElem? (i := 24) rfl))) Via.refl F_v rfl fun T5 X5 => ?_
    refine w_iloadN X5 (pc' := 21) d13_20 rfl rfl ?_
    refine w_staticV X5 (pc' := 24) d13_21 (rm_uc1_0 hw (h0 := h0) (sd_size X5) b S_c hzc S_f hfm S_a S_h S_l R0 A_1) (hw _ (List.mem_of_getElem? (i := 98) rfl)) (hw _ (List.mem_of_getElem? (i := 99) rfl)) (hw _ (List.mem_of_getElem? (i := 49) rfl)) (hw _ (List.mem_of_getElem? (i := 100) rfl)) (by decide) [(.ref b), (.int (0 : Int32))] [] pd_23 rfl rfl rfl rfl 0 (Nat.le_refl _) (by decide) (by decide) (by decide) (by decide) rfl fun T6 h6 v6 X6 q6 => ?_
    obtain ⟨rfl, rfl⟩ := q6
    exact w_creturn X6 d13_24 ⟨congrArg Value.int (own_i2c R0), rfl⟩ (by decide) (by decide)
set_option maxRecDepth 65536 in
set_option maxHeartbeats 40000000 in
theorem rm_len2 {l : Launch} {Z : State} {a0 : Array Value} (hw : ∀ d ∈ tables_1, d.before a0 Z = true) {n0 : Nat} {h0 : Heap} (Z0 : n0 ≤ h0.size) (a1 : Addr) {zc : Int32} (S_c : Sta Z h0 "java/lang/String" "COMPACT_STRINGS" "Z" (.int zc)) (hzc : ¬ zc = (0 : Int32)) {fm : Value} (S_f : Sta Z h0 "jdk/internal/util/Preconditions" "SIOOBE_FORMATTER" "Ljava/util/function/BiFunction;" fm) (hfm : fm.isRef = true) (S_a : Sta Z h0 "java/lang/StringUTF16" "$assertionsDisabled" "Z" (.int 1)) (S_h : Sta Z h0 "java/lang/StringUTF16" "HI_BYTE_SHIFT" "I" (.int 0)) (S_l : Sta Z h0 "java/lang/StringUTF16" "LO_BYTE_SHIFT" "I" (.int 8)) {c0 c1 : Int32} (R0 : own_R c0) (R1 : own_R c1) (U : StrU Z h0 a1 [c0, c1]) :
    Con l Z n0 (⟨"java/lang/String", "length", "()I"⟩ : MethodName) jdk_42_method_54_code 1 (some .int) ({ frames := 1, cells := 0, slots := 0, locals := 13 } : Room) #[(.ref a1)] h0 (Val (fun v h => v = .int 2 ∧ h0 = h)) := by
  refine con_intro pn_6 Z0 (fr := fun m => mkF m 0 #[.val (.ref a1)] []) (fun m => by first | (simp [entryFrame, mkF, argsToLocals, Value.category]; done) | rfl) ?_
  intro p e s m below s₁ hs0 X0
  rcases U with ⟨b, E_1, F_c, F_v, A_1, hl⟩ | ⟨b, E_1, F_c, F_v, A_1⟩
  · skip
    replace A_1 : Ary Z h0 b .byte 2 (fun i => .int ([c0, c1].getD i 0).toInt8.toInt32) := A_1
    replace hl : ∀ i, i < 2 → ¬ (255 : Int32) < [c0, c1].getD i 0 := hl
    refine w_aloadN X0 (pc' := 1) d6_0 rfl rfl rfl ?_
    refine w_getfield X0 (pc' := 4) d6_1 (host := "") (Or.inl (hw _ (List.mem_of_getElem? (i := 24) rfl))) Via.refl F_v rfl fun T1 X1 => ?_
    refine w_arraylength X1 (pc' := 5) (2 : Int32) d6_4 A_1 (by decide) rfl ?_
    refine w_aloadN X1 (pc' := 6) d6_5 rfl rfl rfl ?_
    refine w_virtualV X1 (pc' := 9) d6_6 (rm_cdr0 hw (h0 := h0) (sd_size X1) a1 S_c hzc S_f hfm S_a S_h S_l F_c) (hw _ (List.mem_of_getElem? (i := 35) rfl)) (hw _ (List.mem_of_getElem? (i := 36) rfl)) (hw _ (List.mem_of_getElem? (i := 38) rfl)) (hw _ (List.mem_of_getElem? (i := 37) rfl)) (hw _ (List.mem_of_getElem? (i := 6) rfl)) (hw _ (List.mem_of_getElem? (i := 39) rfl)) E_1 (by decide) [] [(.int (2 : Int32))] pd_7 rfl rfl rfl rfl 1 (Nat.le_refl _) (by decide) (by decide) (by decide) (by decide) rfl fun T2 h2 v2 X2 q2 => ?_
    obtain ⟨rfl, rfl⟩ := q2
    refine w_ishr X2 (pc' := 10) d6_9 rfl ?_
    exact w_ireturn X2 d6_10 ⟨by decide, rfl⟩ (by decide) (by decide)
  · skip
    replace A_1 : Ary Z h0 b .byte 4 (own_u16 [c0, c1]) := A_1
    refine w_aloadN X0 (pc' := 1) d6_0 rfl rfl rfl ?_
    refine w_getfield X0 (pc' := 4) d6_1 (host := "") (Or.inl (hw _ (List.mem_of_getElem? (i := 24) rfl))) Via.refl F_v rfl fun T3 X3 => ?_
    refine w_arraylength X3 (pc' := 5) (4 : Int32) d6_4 A_1 (by decide) rfl ?_
    refine w_aloadN X3 (pc' := 6) d6_5 rfl rfl rfl ?_
    refine w_virtualV X3 (pc' := 9) d6_6 (rm_cdr1 hw (h0 := h0) (sd_size X3) a1 S_c hzc S_f hfm S_a S_h S_l F_c) (hw _ (List.mem_of_getElem? (i := 35) rfl)) (hw _ (List.mem_of_getElem? (i := 36) rfl)) (hw _ (List.mem_of_getElem? (i := 38) rfl)) (hw _ (List.mem_of_getElem? (i := 37) rfl)) (hw _ (List.mem_of_getElem? (i := 6) rfl)) (hw _ (List.mem_of_getElem? (i := 39) rfl)) E_1 (by decide) [] [(.int (4 : Int32))] pd_7 rfl rfl rfl rfl 1 (Nat.le_refl _) (by decide) (by decide) (by decide) (by decide) rfl fun T4 h4 v4 X4 q4 => ?_
    obtain ⟨rfl, rfl⟩ := q4
    refine w_ishr X4 (pc' := 10) d6_9 rfl ?_
    exact w_ireturn X4 d6_10 ⟨by decide, rfl⟩ (by decide) (by decide)
set_option maxRecDepth 65536 in
set_option maxHeartbeats 40000000 in
theorem rm_ch2_0 {l : Launch} {Z : State} {a0 : Array Value} (hw : ∀ d ∈ tables_1, d.before a0 Z = true) {n0 : Nat} {h0 : Heap} (Z0 : n0 ≤ h0.size) (a1 : Addr) {zc : Int32} (S_c : Sta Z h0 "java/lang/String" "COMPACT_STRINGS" "Z" (.int zc)) (hzc : ¬ zc = (0 : Int32)) {fm : Value} (S_f : Sta Z h0 "jdk/internal/util/Preconditions" "SIOOBE_FORMATTER" "Ljava/util/function/BiFunction;" fm) (hfm : fm.isRef = true) (S_a : Sta Z h0 "java/lang/StringUTF16" "$assertionsDisabled" "Z" (.int 1)) (S_h : Sta Z h0 "java/lang/StringUTF16" "HI_BYTE_SHIFT" "I" (.int 0)) (S_l : Sta Z h0 "java/lang/StringUTF16" "LO_BYTE_SHIFT" "I" (.int 8)) {c0 c1 : Int32} (R0 : own_R c0) (R1 : own_R c1) (U : StrU Z h0 a1 [c0, c1]) :
    Con l Z n0 (⟨"java/lang/String", "charAt", "(I)C"⟩ : MethodName) jdk_42_method_56_code 2 (some .char) ({ frames := 4, cells := 0, slots := 0, locals := 53 } : Room) #[(.ref a1), (.int (0 : Int32))] h0 (Val (fun v h => v = .int c0 ∧ h0 = h)) := by
  refine con_intro pn_13 Z0 (fr := fun m => mkF m 0 #[.val (.ref a1), .val (.int (0 : Int32))] []) (fun m => by first | (simp [entryFrame, mkF, argsToLocals, Value.category]; done) | rfl) ?_
  intro p e s m below s₁ hs0 X0
  rcases U with ⟨b, E_1, F_c, F_v, A_1, hl⟩ | ⟨b, E_1, F_c, F_v, A_1⟩
  · skip
    replace A_1 : Ary Z h0 b .byte 2 (fun i => .int ([c0, c1].getD i 0).toInt8.toInt32) := A_1
    replace hl : ∀ i, i < 2 → ¬ (255 : Int32) < [c0, c1].getD i 0 := hl
    refine w_aloadN X0 (pc' := 1) d13_0 rfl rfl rfl ?_
    refine w_virtualV X0 (pc' := 4) d13_1 (rm_isl0 hw (h0 := h0) (sd_size X0) a1 S_c hzc S_f hfm S_a S_h S_l F_c) (hw _ (List.mem_of_getElem? (i := 62) rfl)) (hw _ (List.mem_of_getElem? (i := 63) rfl)) (hw _ (List.mem_of_getElem? (i := 65) rfl)) (hw _ (List.mem_of_getElem? (i := 64) rfl)) (hw _ (List.mem_of_getElem? (i := 6) rfl)) (hw _ (List.mem_of_getElem? (i := 66) rfl)) E_1 (by decide) [] [] pd_14 rfl rfl rfl rfl 0 (Nat.le_refl _) (by decide) (by decide) (by decide) (by decide) rfl fun T1 h1 v1 X1 q1 => ?_
    obtain ⟨rfl, rfl⟩ := q1
    refine w_if_eq X1 16 7 d13_4 (by decide) rfl rfl (fun hc4 => by exfalso; revert hc4; decide) (fun hc4 => ?_)
    refine w_aloadN X1 (pc' := 8) d13_7 rfl rfl rfl ?_
    refine w_getfield X1 (pc' := 11) d13_8 (host := "") (Or.inl (hw _ (List.mem_of_getElem? (i := 24) rfl))) Via.refl F_v rfl fun T2 X2 => ?_
    refine w_iloadN X2 (pc' := 12) d13_11 rfl rfl ?_
    refine w_staticV X2 (pc' := 15) d13_12 (rm_lc2_0 hw (h0 := h0) (sd_size X2) b S_c hzc S_f hfm S_a S_h S_l R0 R1 A_1 hl) (hw _ (List.mem_of_getElem? (i := 67) rfl)) (hw _ (List.mem_of_getElem? (i := 68) rfl)) (hw _ (List.mem_of_getElem? (i := 69) rfl)) (hw _ (List.mem_of_getElem? (i := 70) rfl)) (by decide) [(.ref b), (.int (0 : Int32))] [] pd_15 rfl rfl rfl rfl 0 (Nat.le_refl _) (by decide) (by decide) (by decide) (by decide) rfl fun T3 h3 v3 X3 q3 => ?_
    obtain ⟨rfl, rfl⟩ := q3
    exact w_creturn X3 d13_15 ⟨congrArg Value.int (own_i2c R0), rfl⟩ (by decide) (by decide)
  · skip
    replace A_1 : Ary Z h0 b .byte 4 (own_u16 [c0, c1]) := A_1
    refine w_aloadN X0 (pc' := 1) d13_0 rfl rfl rfl ?_
    refine w_virtualV X0 (pc' := 4) d13_1 (rm_isl1 hw (h0 := h0) (sd_size X0) a1 S_c hzc S_f hfm S_a S_h S_l F_c) (hw _ (List.mem_of_getElem? (i := 62) rfl)) (hw _ (List.mem_of_getElem? (i := 63) rfl)) (hw _ (List.mem_of_getElem? (i := 65) rfl)) (hw _ (List.mem_of_getElem? (i := 64) rfl)) (hw _ (List.mem_of_getElem? (i := 6) rfl)) (hw _ (List.mem_of_getElem? (i := 66) rfl)) E_1 (by decide) [] [] pd_14 rfl rfl rfl rfl 0 (Nat.le_refl _) (by decide) (by decide) (by decide) (by decide) rfl fun T4 h4 v4 X4 q4 => ?_
    obtain ⟨rfl, rfl⟩ := q4
    refine w_if_eq X4 16 7 d13_4 (by decide) rfl rfl (fun hc4 => ?_) (fun hc4 => by exfalso; revert hc4; decide)
    refine w_aloadN X4 (pc' := 17) d13_16 rfl rfl rfl ?_
    refine w_getfield X4 (pc' := 20) d13_17 (host := "") (Or.inl (hw _ (List.mem_of_getElem? (i := 24) rfl))) Via.refl F_v rfl fun T5 X5 => ?_
    refine w_iloadN X5 (pc' := 21) d13_20 rfl rfl ?_
    refine w_staticV X5 (pc' := 24) d13_21 (rm_uc2_0 hw (h0 := h0) (sd_size X5) b S_c hzc S_f hfm S_a S_h S_l R0 R1 A_1) (hw _ (List.mem_of_getElem? (i := 98) rfl)) (hw _ (List.mem_of_getElem? (i := 99) rfl)) (hw _ (List.mem_of_getElem? (i := 49) rfl)) (hw _ (List.mem_of_getElem? (i := 100) rfl)) (by decide) [(.ref b), (.int (0 : Int32))] [] pd_23 rfl rfl rfl rfl 0 (Nat.le_refl _) (by decide) (by decide) (by decide) (by decide) rfl fun T6 h6 v6 X6 q6 => ?_
    obtain ⟨rfl, rfl⟩ := q6
    exact w_creturn X6 d13_24 ⟨congrArg Value.int (own_i2c R0), rfl⟩ (by decide) (by decide)
set_option maxRecDepth 65536 in
set_option maxHeartbeats 40000000 in
theorem rm_ch2_1 {l : Launch} {Z : State} {a0 : Array Value} (hw : ∀ d ∈ tables_1, d.before a0 Z = true) {n0 : Nat} {h0 : Heap} (Z0 : n0 ≤ h0.size) (a1 : Addr) {zc : Int32} (S_c : Sta Z h0 "java/lang/String" "COMPACT_STRINGS" "Z" (.int zc)) (hzc : ¬ zc = (0 : Int32)) {fm : Value} (S_f : Sta Z h0 "jdk/internal/util/Preconditions" "SIOOBE_FORMATTER" "Ljava/util/function/BiFunction;" fm) (hfm : fm.isRef = true) (S_a : Sta Z h0 "java/lang/StringUTF16" "$assertionsDisabled" "Z" (.int 1)) (S_h : Sta Z h0 "java/lang/StringUTF16" "HI_BYTE_SHIFT" "I" (.int 0)) (S_l : Sta Z h0 "java/lang/StringUTF16" "LO_BYTE_SHIFT" "I" (.int 8)) {c0 c1 : Int32} (R0 : own_R c0) (R1 : own_R c1) (U : StrU Z h0 a1 [c0, c1]) :
    Con l Z n0 (⟨"java/lang/String", "charAt", "(I)C"⟩ : MethodName) jdk_42_method_56_code 2 (some .char) ({ frames := 4, cells := 0, slots := 0, locals := 53 } : Room) #[(.ref a1), (.int (1 : Int32))] h0 (Val (fun v h => v = .int c1 ∧ h0 = h)) := by
  refine con_intro pn_13 Z0 (fr := fun m => mkF m 0 #[.val (.ref a1), .val (.int (1 : Int32))] []) (fun m => by first | (simp [entryFrame, mkF, argsToLocals, Value.category]; done) | rfl) ?_
  intro p e s m below s₁ hs0 X0
  rcases U with ⟨b, E_1, F_c, F_v, A_1, hl⟩ | ⟨b, E_1, F_c, F_v, A_1⟩
  · skip
    replace A_1 : Ary Z h0 b .byte 2 (fun i => .int ([c0, c1].getD i 0).toInt8.toInt32) := A_1
    replace hl : ∀ i, i < 2 → ¬ (255 : Int32) < [c0, c1].getD i 0 := hl
    refine w_aloadN X0 (pc' := 1) d13_0 rfl rfl rfl ?_
    refine w_virtualV X0 (pc' := 4) d13_1 (rm_isl0 hw (h0 := h0) (sd_size X0) a1 S_c hzc S_f hfm S_a S_h S_l F_c) (hw _ (List.mem_of_getElem? (i := 62) rfl)) (hw _ (List.mem_of_getElem? (i := 63) rfl)) (hw _ (List.mem_of_getElem? (i := 65) rfl)) (hw _ (List.mem_of_getElem? (i := 64) rfl)) (hw _ (List.mem_of_getElem? (i := 6) rfl)) (hw _ (List.mem_of_getElem? (i := 66) rfl)) E_1 (by decide) [] [] pd_14 rfl rfl rfl rfl 0 (Nat.le_refl _) (by decide) (by decide) (by decide) (by decide) rfl fun T1 h1 v1 X1 q1 => ?_
    obtain ⟨rfl, rfl⟩ := q1
    refine w_if_eq X1 16 7 d13_4 (by decide) rfl rfl (fun hc4 => by exfalso; revert hc4; decide) (fun hc4 => ?_)
    refine w_aloadN X1 (pc' := 8) d13_7 rfl rfl rfl ?_
    refine w_getfield X1 (pc' := 11) d13_8 (host := "") (Or.inl (hw _ (List.mem_of_getElem? (i := 24) rfl))) Via.refl F_v rfl fun T2 X2 => ?_
    refine w_iloadN X2 (pc' := 12) d13_11 rfl rfl ?_
    refine w_staticV X2 (pc' := 15) d13_12 (rm_lc2_1 hw (h0 := h0) (sd_size X2) b S_c hzc S_f hfm S_a S_h S_l R0 R1 A_1 hl) (hw _ (List.mem_of_getElem? (i := 67) rfl)) (hw _ (List.mem_of_getElem? (i := 68) rfl)) (hw _ (List.mem_of_getElem? (i := 69) rfl)) (hw _ (List.mem_of_getElem? (i := 70) rfl)) (by decide) [(.ref b), (.int (1 : Int32))] [] pd_15 rfl rfl rfl rfl 0 (Nat.le_refl _) (by decide) (by decide) (by decide) (by decide) rfl fun T3 h3 v3 X3 q3 => ?_
    obtain ⟨rfl, rfl⟩ := q3
    exact w_creturn X3 d13_15 ⟨congrArg Value.int (own_i2c R1), rfl⟩ (by decide) (by decide)
  · skip
    replace A_1 : Ary Z h0 b .byte 4 (own_u16 [c0, c1]) := A_1
    refine w_aloadN X0 (pc' := 1) d13_0 rfl rfl rfl ?_
    refine w_virtualV X0 (pc' := 4) d13_1 (rm_isl1 hw (h0 := h0) (sd_size X0) a1 S_c hzc S_f hfm S_a S_h S_l F_c) (hw _ (List.mem_of_getElem? (i := 62) rfl)) (hw _ (List.mem_of_getElem? (i := 63) rfl)) (hw _ (List.mem_of_getElem? (i := 65) rfl)) (hw _ (List.mem_of_getElem? (i := 64) rfl)) (hw _ (List.mem_of_getElem? (i := 6) rfl)) (hw _ (List.mem_of_getElem? (i := 66) rfl)) E_1 (by decide) [] [] pd_14 rfl rfl rfl rfl 0 (Nat.le_refl _) (by decide) (by decide) (by decide) (by decide) rfl fun T4 h4 v4 X4 q4 => ?_
    obtain ⟨rfl, rfl⟩ := q4
    refine w_if_eq X4 16 7 d13_4 (by decide) rfl rfl (fun hc4 => ?_) (fun hc4 => by exfalso; revert hc4; decide)
    refine w_aloadN X4 (pc' := 17) d13_16 rfl rfl rfl ?_
    refine w_getfield X4 (pc' := 20) d13_17 (host := "") (Or.inl (hw _ (List.mem_of_getElem? (i := 24) rfl))) Via.refl F_v rfl fun T5 X5 => ?_
    refine w_iloadN X5 (pc' := 21) d13_20 rfl rfl ?_
    refine w_staticV X5 (pc' := 24) d13_21 (rm_uc2_1 hw (h0 := h0) (sd_size X5) b S_c hzc S_f hfm S_a S_h S_l R0 R1 A_1) (hw _ (List.mem_of_getElem? (i := 98) rfl)) (hw _ (List.mem_of_getElem? (i := 99) rfl)) (hw _ (List.mem_of_getElem? (i := 49) rfl)) (hw _ (List.mem_of_getElem? (i := 100) rfl)) (by decide) [(.ref b), (.int (1 : Int32))] [] pd_23 rfl rfl rfl rfl 0 (Nat.le_refl _) (by decide) (by decide) (by decide) (by decide) rfl fun T6 h6 v6 X6 q6 => ?_
    obtain ⟨rfl, rfl⟩ := q6
    exact w_creturn X6 d13_24 ⟨congrArg Value.int (own_i2c R1), rfl⟩ (by decide) (by decide)
set_option maxRecDepth 65536 in
set_option maxHeartbeats 40000000 in
theorem rm_len3 {l : Launch} {Z : State} {a0 : Array Value} (hw : ∀ d ∈ tables_1, d.before a0 Z = true) {n0 : Nat} {h0 : Heap} (Z0 : n0 ≤ h0.size) (a1 : Addr) {zc : Int32} (S_c : Sta Z h0 "java/lang/String" "COMPACT_STRINGS" "Z" (.int zc)) (hzc : ¬ zc = (0 : Int32)) {fm : Value} (S_f : Sta Z h0 "jdk/internal/util/Preconditions" "SIOOBE_FORMATTER" "Ljava/util/function/BiFunction;" fm) (hfm : fm.isRef = true) (S_a : Sta Z h0 "java/lang/StringUTF16" "$assertionsDisabled" "Z" (.int 1)) (S_h : Sta Z h0 "java/lang/StringUTF16" "HI_BYTE_SHIFT" "I" (.int 0)) (S_l : Sta Z h0 "java/lang/StringUTF16" "LO_BYTE_SHIFT" "I" (.int 8)) {c0 c1 c2 : Int32} (R0 : own_R c0) (R1 : own_R c1) (R2 : own_R c2) (U : StrU Z h0 a1 [c0, c1, c2]) :
    Con l Z n0 (⟨"java/lang/String", "length", "()I"⟩ : MethodName) jdk_42_method_54_code 1 (some .int) ({ frames := 1, cells := 0, slots := 0, locals := 13 } : Room) #[(.ref a1)] h0 (Val (fun v h => v = .int 3 ∧ h0 = h)) := by
  refine con_intro pn_6 Z0 (fr := fun m => mkF m 0 #[.val (.ref a1)] []) (fun m => by first | (simp [entryFrame, mkF, argsToLocals, Value.category]; done) | rfl) ?_
  intro p e s m below s₁ hs0 X0
  rcases U with ⟨b, E_1, F_c, F_v, A_1, hl⟩ | ⟨b, E_1, F_c, F_v, A_1⟩
  · skip
    replace A_1 : Ary Z h0 b .byte 3 (fun i => .int ([c0, c1, c2].getD i 0).toInt8.toInt32) := A_1
    replace hl : ∀ i, i < 3 → ¬ (255 : Int32) < [c0, c1, c2].getD i 0 := hl
    refine w_aloadN X0 (pc' := 1) d6_0 rfl rfl rfl ?_
    refine w_getfield X0 (pc' := 4) d6_1 (host := "") (Or.inl (hw _ (List.mem_of_getElem? (i := 24) rfl))) Via.refl F_v rfl fun T1 X1 => ?_
    refine w_arraylength X1 (pc' := 5) (3 : Int32) d6_4 A_1 (by decide) rfl ?_
    refine w_aloadN X1 (pc' := 6) d6_5 rfl rfl rfl ?_
    refine w_virtualV X1 (pc' := 9) d6_6 (rm_cdr0 hw (h0 := h0) (sd_size X1) a1 S_c hzc S_f hfm S_a S_h S_l F_c) (hw _ (List.mem_of_getElem? (i := 35) rfl)) (hw _ (List.mem_of_getElem? (i := 36) rfl)) (hw _ (List.mem_of_getElem? (i := 38) rfl)) (hw _ (List.mem_of_getElem? (i := 37) rfl)) (hw _ (List.mem_of_getElem? (i := 6) rfl)) (hw _ (List.mem_of_getElem? (i := 39) rfl)) E_1 (by decide) [] [(.int (3 : Int32))] pd_7 rfl rfl rfl rfl 1 (Nat.le_refl _) (by decide) (by decide) (by decide) (by decide) rfl fun T2 h2 v2 X2 q2 => ?_
    obtain ⟨rfl, rfl⟩ := q2
    refine w_ishr X2 (pc' := 10) d6_9 rfl ?_
    exact w_ireturn X2 d6_10 ⟨by decide, rfl⟩ (by decide) (by decide)
  · skip
    replace A_1 : Ary Z h0 b .byte 6 (own_u16 [c0, c1, c2]) := A_1
    refine w_aloadN X0 (pc' := 1) d6_0 rfl rfl rfl ?_
    refine w_getfield X0 (pc' := 4) d6_1 (host := "") (Or.inl (hw _ (List.mem_of_getElem? (i := 24) rfl))) Via.refl F_v rfl fun T3 X3 => ?_
    refine w_arraylength X3 (pc' := 5) (6 : Int32) d6_4 A_1 (by decide) rfl ?_
    refine w_aloadN X3 (pc' := 6) d6_5 rfl rfl rfl ?_
    refine w_virtualV X3 (pc' := 9) d6_6 (rm_cdr1 hw (h0 := h0) (sd_size X3) a1 S_c hzc S_f hfm S_a S_h S_l F_c) (hw _ (List.mem_of_getElem? (i := 35) rfl)) (hw _ (List.mem_of_getElem? (i := 36) rfl)) (hw _ (List.mem_of_getElem? (i := 38) rfl)) (hw _ (List.mem_of_getElem? (i := 37) rfl)) (hw _ (List.mem_of_getElem? (i := 6) rfl)) (hw _ (List.mem_of_getElem? (i := 39) rfl)) E_1 (by decide) [] [(.int (6 : Int32))] pd_7 rfl rfl rfl rfl 1 (Nat.le_refl _) (by decide) (by decide) (by decide) (by decide) rfl fun T4 h4 v4 X4 q4 => ?_
    obtain ⟨rfl, rfl⟩ := q4
    refine w_ishr X4 (pc' := 10) d6_9 rfl ?_
    exact w_ireturn X4 d6_10 ⟨by decide, rfl⟩ (by decide) (by decide)
set_option maxRecDepth 65536 in
set_option maxHeartbeats 40000000 in
theorem rm_ch3_0 {l : Launch} {Z : State} {a0 : Array Value} (hw : ∀ d ∈ tables_1, d.before a0 Z = true) {n0 : Nat} {h0 : Heap} (Z0 : n0 ≤ h0.size) (a1 : Addr) {zc : Int32} (S_c : Sta Z h0 "java/lang/String" "COMPACT_STRINGS" "Z" (.int zc)) (hzc : ¬ zc = (0 : Int32)) {fm : Value} (S_f : Sta Z h0 "jdk/internal/util/Preconditions" "SIOOBE_FORMATTER" "Ljava/util/function/BiFunction;" fm) (hfm : fm.isRef = true) (S_a : Sta Z h0 "java/lang/StringUTF16" "$assertionsDisabled" "Z" (.int 1)) (S_h : Sta Z h0 "java/lang/StringUTF16" "HI_BYTE_SHIFT" "I" (.int 0)) (S_l : Sta Z h0 "java/lang/StringUTF16" "LO_BYTE_SHIFT" "I" (.int 8)) {c0 c1 c2 : Int32} (R0 : own_R c0) (R1 : own_R c1) (R2 : own_R c2) (U : StrU Z h0 a1 [c0, c1, c2]) :
    Con l Z n0 (⟨"java/lang/String", "charAt", "(I)C"⟩ : MethodName) jdk_42_method_56_code 2 (some .char) ({ frames := 4, cells := 0, slots := 0, locals := 53 } : Room) #[(.ref a1), (.int (0 : Int32))] h0 (Val (fun v h => v = .int c0 ∧ h0 = h)) := by
  refine con_intro pn_13 Z0 (fr := fun m => mkF m 0 #[.val (.ref a1), .val (.int (0 : Int32))] []) (fun m => by first | (simp [entryFrame, mkF, argsToLocals, Value.category]; done) | rfl) ?_
  intro p e s m below s₁ hs0 X0
  rcases U with ⟨b, E_1, F_c, F_v, A_1, hl⟩ | ⟨b, E_1, F_c, F_v, A_1⟩
  · skip
    replace A_1 : Ary Z h0 b .byte 3 (fun i => .int ([c0, c1, c2].getD i 0).toInt8.toInt32) := A_1
    replace hl : ∀ i, i < 3 → ¬ (255 : Int32) < [c0, c1, c2].getD i 0 := hl
    refine w_aloadN X0 (pc' := 1) d13_0 rfl rfl rfl ?_
    refine w_virtualV X0 (pc' := 4) d13_1 (rm_isl0 hw (h0 := h0) (sd_size X0) a1 S_c hzc S_f hfm S_a S_h S_l F_c) (hw _ (List.mem_of_getElem? (i := 62) rfl)) (hw _ (List.mem_of_getElem? (i := 63) rfl)) (hw _ (List.mem_of_getElem? (i := 65) rfl)) (hw _ (List.mem_of_getElem? (i := 64) rfl)) (hw _ (List.mem_of_getElem? (i := 6) rfl)) (hw _ (List.mem_of_getElem? (i := 66) rfl)) E_1 (by decide) [] [] pd_14 rfl rfl rfl rfl 0 (Nat.le_refl _) (by decide) (by decide) (by decide) (by decide) rfl fun T1 h1 v1 X1 q1 => ?_
    obtain ⟨rfl, rfl⟩ := q1
    refine w_if_eq X1 16 7 d13_4 (by decide) rfl rfl (fun hc4 => by exfalso; revert hc4; decide) (fun hc4 => ?_)
    refine w_aloadN X1 (pc' := 8) d13_7 rfl rfl rfl ?_
    refine w_getfield X1 (pc' := 11) d13_8 (host := "") (Or.inl (hw _ (List.mem_of_getElem? (i := 24) rfl))) Via.refl F_v rfl fun T2 X2 => ?_
    refine w_iloadN X2 (pc' := 12) d13_11 rfl rfl ?_
    refine w_staticV X2 (pc' := 15) d13_12 (rm_lc3_0 hw (h0 := h0) (sd_size X2) b S_c hzc S_f hfm S_a S_h S_l R0 R1 R2 A_1 hl) (hw _ (List.mem_of_getElem? (i := 67) rfl)) (hw _ (List.mem_of_getElem? (i := 68) rfl)) (hw _ (List.mem_of_getElem? (i := 69) rfl)) (hw _ (List.mem_of_getElem? (i := 70) rfl)) (by decide) [(.ref b), (.int (0 : Int32))] [] pd_15 rfl rfl rfl rfl 0 (Nat.le_refl _) (by decide) (by decide) (by decide) (by decide) rfl fun T3 h3 v3 X3 q3 => ?_
    obtain ⟨rfl, rfl⟩ := q3
    exact w_creturn X3 d13_15 ⟨congrArg Value.int (own_i2c R0), rfl⟩ (by decide) (by decide)
  · skip
    replace A_1 : Ary Z h0 b .byte 6 (own_u16 [c0, c1, c2]) := A_1
    refine w_aloadN X0 (pc' := 1) d13_0 rfl rfl rfl ?_
    refine w_virtualV X0 (pc' := 4) d13_1 (rm_isl1 hw (h0 := h0) (sd_size X0) a1 S_c hzc S_f hfm S_a S_h S_l F_c) (hw _ (List.mem_of_getElem? (i := 62) rfl)) (hw _ (List.mem_of_getElem? (i := 63) rfl)) (hw _ (List.mem_of_getElem? (i := 65) rfl)) (hw _ (List.mem_of_getElem? (i := 64) rfl)) (hw _ (List.mem_of_getElem? (i := 6) rfl)) (hw _ (List.mem_of_getElem? (i := 66) rfl)) E_1 (by decide) [] [] pd_14 rfl rfl rfl rfl 0 (Nat.le_refl _) (by decide) (by decide) (by decide) (by decide) rfl fun T4 h4 v4 X4 q4 => ?_
    obtain ⟨rfl, rfl⟩ := q4
    refine w_if_eq X4 16 7 d13_4 (by decide) rfl rfl (fun hc4 => ?_) (fun hc4 => by exfalso; revert hc4; decide)
    refine w_aloadN X4 (pc' := 17) d13_16 rfl rfl rfl ?_
    refine w_getfield X4 (pc' := 20) d13_17 (host := "") (Or.inl (hw _ (List.mem_of_getElem? (i := 24) rfl))) Via.refl F_v rfl fun T5 X5 => ?_
    refine w_iloadN X5 (pc' := 21) d13_20 rfl rfl ?_
    refine w_staticV X5 (pc' := 24) d13_21 (rm_uc3_0 hw (h0 := h0) (sd_size X5) b S_c hzc S_f hfm S_a S_h S_l R0 R1 R2 A_1) (hw _ (List.mem_of_getElem? (i := 98) rfl)) (hw _ (List.mem_of_getElem? (i := 99) rfl)) (hw _ (List.mem_of_getElem? (i := 49) rfl)) (hw _ (List.mem_of_getElem? (i := 100) rfl)) (by decide) [(.ref b), (.int (0 : Int32))] [] pd_23 rfl rfl rfl rfl 0 (Nat.le_refl _) (by decide) (by decide) (by decide) (by decide) rfl fun T6 h6 v6 X6 q6 => ?_
    obtain ⟨rfl, rfl⟩ := q6
    exact w_creturn X6 d13_24 ⟨congrArg Value.int (own_i2c R0), rfl⟩ (by decide) (by decide)
set_option maxRecDepth 65536 in
set_option maxHeartbeats 40000000 in
theorem rm_ch3_1 {l : Launch} {Z : State} {a0 : Array Value} (hw : ∀ d ∈ tables_1, d.before a0 Z = true) {n0 : Nat} {h0 : Heap} (Z0 : n0 ≤ h0.size) (a1 : Addr) {zc : Int32} (S_c : Sta Z h0 "java/lang/String" "COMPACT_STRINGS" "Z" (.int zc)) (hzc : ¬ zc = (0 : Int32)) {fm : Value} (S_f : Sta Z h0 "jdk/internal/util/Preconditions" "SIOOBE_FORMATTER" "Ljava/util/function/BiFunction;" fm) (hfm : fm.isRef = true) (S_a : Sta Z h0 "java/lang/StringUTF16" "$assertionsDisabled" "Z" (.int 1)) (S_h : Sta Z h0 "java/lang/StringUTF16" "HI_BYTE_SHIFT" "I" (.int 0)) (S_l : Sta Z h0 "java/lang/StringUTF16" "LO_BYTE_SHIFT" "I" (.int 8)) {c0 c1 c2 : Int32} (R0 : own_R c0) (R1 : own_R c1) (R2 : own_R c2) (U : StrU Z h0 a1 [c0, c1, c2]) :
    Con l Z n0 (⟨"java/lang/String", "charAt", "(I)C"⟩ : MethodName) jdk_42_method_56_code 2 (some .char) ({ frames := 4, cells := 0, slots := 0, locals := 53 } : Room) #[(.ref a1), (.int (1 : Int32))] h0 (Val (fun v h => v = .int c1 ∧ h0 = h)) := by
  refine con_intro pn_13 Z0 (fr := fun m => mkF m 0 #[.val (.ref a1), .val (.int (1 : Int32))] []) (fun m => by first | (simp [entryFrame, mkF, argsToLocals, Value.category]; done) | rfl) ?_
  intro p e s m below s₁ hs0 X0
  rcases U with ⟨b, E_1, F_c, F_v, A_1, hl⟩ | ⟨b, E_1, F_c, F_v, A_1⟩
  · skip
    replace A_1 : Ary Z h0 b .byte 3 (fun i => .int ([c0, c1, c2].getD i 0).toInt8.toInt32) := A_1
    replace hl : ∀ i, i < 3 → ¬ (255 : Int32) < [c0, c1, c2].getD i 0 := hl
    refine w_aloadN X0 (pc' := 1) d13_0 rfl rfl rfl ?_
    refine w_virtualV X0 (pc' := 4) d13_1 (rm_isl0 hw (h0 := h0) (sd_size X0) a1 S_c hzc S_f hfm S_a S_h S_l F_c) (hw _ (List.mem_of_getElem? (i := 62) rfl)) (hw _ (List.mem_of_getElem? (i := 63) rfl)) (hw _ (List.mem_of_getElem? (i := 65) rfl)) (hw _ (List.mem_of_getElem? (i := 64) rfl)) (hw _ (List.mem_of_getElem? (i := 6) rfl)) (hw _ (List.mem_of_getElem? (i := 66) rfl)) E_1 (by decide) [] [] pd_14 rfl rfl rfl rfl 0 (Nat.le_refl _) (by decide) (by decide) (by decide) (by decide) rfl fun T1 h1 v1 X1 q1 => ?_
    obtain ⟨rfl, rfl⟩ := q1
    refine w_if_eq X1 16 7 d13_4 (by decide) rfl rfl (fun hc4 => by exfalso; revert hc4; decide) (fun hc4 => ?_)
    refine w_aloadN X1 (pc' := 8) d13_7 rfl rfl rfl ?_
    refine w_getfield X1 (pc' := 11) d13_8 (host := "") (Or.inl (hw _ (List.mem_of_getElem? (i := 24) rfl))) Via.refl F_v rfl fun T2 X2 => ?_
    refine w_iloadN X2 (pc' := 12) d13_11 rfl rfl ?_
    refine w_staticV X2 (pc' := 15) d13_12 (rm_lc3_1 hw (h0 := h0) (sd_size X2) b S_c hzc S_f hfm S_a S_h S_l R0 R1 R2 A_1 hl) (hw _ (List.mem_of_getElem? (i := 67) rfl)) (hw _ (List.mem_of_getElem? (i := 68) rfl)) (hw _ (List.mem_of_getElem? (i := 69) rfl)) (hw _ (List.mem_of_getElem? (i := 70) rfl)) (by decide) [(.ref b), (.int (1 : Int32))] [] pd_15 rfl rfl rfl rfl 0 (Nat.le_refl _) (by decide) (by decide) (by decide) (by decide) rfl fun T3 h3 v3 X3 q3 => ?_
    obtain ⟨rfl, rfl⟩ := q3
    exact w_creturn X3 d13_15 ⟨congrArg Value.int (own_i2c R1), rfl⟩ (by decide) (by decide)
  · skip
    replace A_1 : Ary Z h0 b .byte 6 (own_u16 [c0, c1, c2]) := A_1
    refine w_aloadN X0 (pc' := 1) d13_0 rfl rfl rfl ?_
    refine w_virtualV X0 (pc' := 4) d13_1 (rm_isl1 hw (h0 := h0) (sd_size X0) a1 S_c hzc S_f hfm S_a S_h S_l F_c) (hw _ (List.mem_of_getElem? (i := 62) rfl)) (hw _ (List.mem_of_getElem? (i := 63) rfl)) (hw _ (List.mem_of_getElem? (i := 65) rfl)) (hw _ (List.mem_of_getElem? (i := 64) rfl)) (hw _ (List.mem_of_getElem? (i := 6) rfl)) (hw _ (List.mem_of_getElem? (i := 66) rfl)) E_1 (by decide) [] [] pd_14 rfl rfl rfl rfl 0 (Nat.le_refl _) (by decide) (by decide) (by decide) (by decide) rfl fun T4 h4 v4 X4 q4 => ?_
    obtain ⟨rfl, rfl⟩ := q4
    refine w_if_eq X4 16 7 d13_4 (by decide) rfl rfl (fun hc4 => ?_) (fun hc4 => by exfalso; revert hc4; decide)
    refine w_aloadN X4 (pc' := 17) d13_16 rfl rfl rfl ?_
    refine w_getfield X4 (pc' := 20) d13_17 (host := "") (Or.inl (hw _ (List.mem_of_getElem? (i := 24) rfl))) Via.refl F_v rfl fun T5 X5 => ?_
    refine w_iloadN X5 (pc' := 21) d13_20 rfl rfl ?_
    refine w_staticV X5 (pc' := 24) d13_21 (rm_uc3_1 hw (h0 := h0) (sd_size X5) b S_c hzc S_f hfm S_a S_h S_l R0 R1 R2 A_1) (hw _ (List.mem_of_getElem? (i := 98) rfl)) (hw _ (List.mem_of_getElem? (i := 99) rfl)) (hw _ (List.mem_of_getElem? (i := 49) rfl)) (hw _ (List.mem_of_getElem? (i := 100) rfl)) (by decide) [(.ref b), (.int (1 : Int32))] [] pd_23 rfl rfl rfl rfl 0 (Nat.le_refl _) (by decide) (by decide) (by decide) (by decide) rfl fun T6 h6 v6 X6 q6 => ?_
    obtain ⟨rfl, rfl⟩ := q6
    exact w_creturn X6 d13_24 ⟨congrArg Value.int (own_i2c R1), rfl⟩ (by decide) (by decide)
set_option maxRecDepth 65536 in
set_option maxHeartbeats 40000000 in
theorem rm_ch3_2 {l : Launch} {Z : State} {a0 : Array Value} (hw : ∀ d ∈ tables_1, d.before a0 Z = true) {n0 : Nat} {h0 : Heap} (Z0 : n0 ≤ h0.size) (a1 : Addr) {zc : Int32} (S_c : Sta Z h0 "java/lang/String" "COMPACT_STRINGS" "Z" (.int zc)) (hzc : ¬ zc = (0 : Int32)) {fm : Value} (S_f : Sta Z h0 "jdk/internal/util/Preconditions" "SIOOBE_FORMATTER" "Ljava/util/function/BiFunction;" fm) (hfm : fm.isRef = true) (S_a : Sta Z h0 "java/lang/StringUTF16" "$assertionsDisabled" "Z" (.int 1)) (S_h : Sta Z h0 "java/lang/StringUTF16" "HI_BYTE_SHIFT" "I" (.int 0)) (S_l : Sta Z h0 "java/lang/StringUTF16" "LO_BYTE_SHIFT" "I" (.int 8)) {c0 c1 c2 : Int32} (R0 : own_R c0) (R1 : own_R c1) (R2 : own_R c2) (U : StrU Z h0 a1 [c0, c1, c2]) :
    Con l Z n0 (⟨"java/lang/String", "charAt", "(I)C"⟩ : MethodName) jdk_42_method_56_code 2 (some .char) ({ frames := 4, cells := 0, slots := 0, locals := 53 } : Room) #[(.ref a1), (.int (2 : Int32))] h0 (Val (fun v h => v = .int c2 ∧ h0 = h)) := by
  refine con_intro pn_13 Z0 (fr := fun m => mkF m 0 #[.val (.ref a1), .val (.int (2 : Int32))] []) (fun m => by first | (simp [entryFrame, mkF, argsToLocals, Value.category]; done) | rfl) ?_
  intro p e s m below s₁ hs0 X0
  rcases U with ⟨b, E_1, F_c, F_v, A_1, hl⟩ | ⟨b, E_1, F_c, F_v, A_1⟩
  · skip
    replace A_1 : Ary Z h0 b .byte 3 (fun i => .int ([c0, c1, c2].getD i 0).toInt8.toInt32) := A_1
    replace hl : ∀ i, i < 3 → ¬ (255 : Int32) < [c0, c1, c2].getD i 0 := hl
    refine w_aloadN X0 (pc' := 1) d13_0 rfl rfl rfl ?_
    refine w_virtualV X0 (pc' := 4) d13_1 (rm_isl0 hw (h0 := h0) (sd_size X0) a1 S_c hzc S_f hfm S_a S_h S_l F_c) (hw _ (List.mem_of_getElem? (i := 62) rfl)) (hw _ (List.mem_of_getElem? (i := 63) rfl)) (hw _ (List.mem_of_getElem? (i := 65) rfl)) (hw _ (List.mem_of_getElem? (i := 64) rfl)) (hw _ (List.mem_of_getElem? (i := 6) rfl)) (hw _ (List.mem_of_getElem? (i := 66) rfl)) E_1 (by decide) [] [] pd_14 rfl rfl rfl rfl 0 (Nat.le_refl _) (by decide) (by decide) (by decide) (by decide) rfl fun T1 h1 v1 X1 q1 => ?_
    obtain ⟨rfl, rfl⟩ := q1
    refine w_if_eq X1 16 7 d13_4 (by decide) rfl rfl (fun hc4 => by exfalso; revert hc4; decide) (fun hc4 => ?_)
    refine w_aloadN X1 (pc' := 8) d13_7 rfl rfl rfl ?_
    refine w_getfield X1 (pc' := 11) d13_8 (host := "") (Or.inl (hw _ (List.mem_of_getElem? (i := 24) rfl))) Via.refl F_v rfl fun T2 X2 => ?_
    refine w_iloadN X2 (pc' := 12) d13_11 rfl rfl ?_
    refine w_staticV X2 (pc' := 15) d13_12 (rm_lc3_2 hw (h0 := h0) (sd_size X2) b S_c hzc S_f hfm S_a S_h S_l R0 R1 R2 A_1 hl) (hw _ (List.mem_of_getElem? (i := 67) rfl)) (hw _ (List.mem_of_getElem? (i := 68) rfl)) (hw _ (List.mem_of_getElem? (i := 69) rfl)) (hw _ (List.mem_of_getElem? (i := 70) rfl)) (by decide) [(.ref b), (.int (2 : Int32))] [] pd_15 rfl rfl rfl rfl 0 (Nat.le_refl _) (by decide) (by decide) (by decide) (by decide) rfl fun T3 h3 v3 X3 q3 => ?_
    obtain ⟨rfl, rfl⟩ := q3
    exact w_creturn X3 d13_15 ⟨congrArg Value.int (own_i2c R2), rfl⟩ (by decide) (by decide)
  · skip
    replace A_1 : Ary Z h0 b .byte 6 (own_u16 [c0, c1, c2]) := A_1
    refine w_aloadN X0 (pc' := 1) d13_0 rfl rfl rfl ?_
    refine w_virtualV X0 (pc' := 4) d13_1 (rm_isl1 hw (h0 := h0) (sd_size X0) a1 S_c hzc S_f hfm S_a S_h S_l F_c) (hw _ (List.mem_of_getElem? (i := 62) rfl)) (hw _ (List.mem_of_getElem? (i := 63) rfl)) (hw _ (List.mem_of_getElem? (i := 65) rfl)) (hw _ (List.mem_of_getElem? (i := 64) rfl)) (hw _ (List.mem_of_getElem? (i := 6) rfl)) (hw _ (List.mem_of_getElem? (i := 66) rfl)) E_1 (by decide) [] [] pd_14 rfl rfl rfl rfl 0 (Nat.le_refl _) (by decide) (by decide) (by decide) (by decide) rfl fun T4 h4 v4 X4 q4 => ?_
    obtain ⟨rfl, rfl⟩ := q4
    refine w_if_eq X4 16 7 d13_4 (by decide) rfl rfl (fun hc4 => ?_) (fun hc4 => by exfalso; revert hc4; decide)
    refine w_aloadN X4 (pc' := 17) d13_16 rfl rfl rfl ?_
    refine w_getfield X4 (pc' := 20) d13_17 (host := "") (Or.inl (hw _ (List.mem_of_getElem? (i := 24) rfl))) Via.refl F_v rfl fun T5 X5 => ?_
    refine w_iloadN X5 (pc' := 21) d13_20 rfl rfl ?_
    refine w_staticV X5 (pc' := 24) d13_21 (rm_uc3_2 hw (h0 := h0) (sd_size X5) b S_c hzc S_f hfm S_a S_h S_l R0 R1 R2 A_1) (hw _ (List.mem_of_getElem? (i := 98) rfl)) (hw _ (List.mem_of_getElem? (i := 99) rfl)) (hw _ (List.mem_of_getElem? (i := 49) rfl)) (hw _ (List.mem_of_getElem? (i := 100) rfl)) (by decide) [(.ref b), (.int (2 : Int32))] [] pd_23 rfl rfl rfl rfl 0 (Nat.le_refl _) (by decide) (by decide) (by decide) (by decide) rfl fun T6 h6 v6 X6 q6 => ?_
    obtain ⟨rfl, rfl⟩ := q6
    exact w_creturn X6 d13_24 ⟨congrArg Value.int (own_i2c R2), rfl⟩ (by decide) (by decide)
set_option maxRecDepth 65536 in
set_option maxHeartbeats 40000000 in
theorem rm_len4 {l : Launch} {Z : State} {a0 : Array Value} (hw : ∀ d ∈ tables_1, d.before a0 Z = true) {n0 : Nat} {h0 : Heap} (Z0 : n0 ≤ h0.size) (a1 : Addr) {zc : Int32} (S_c : Sta Z h0 "java/lang/String" "COMPACT_STRINGS" "Z" (.int zc)) (hzc : ¬ zc = (0 : Int32)) {fm : Value} (S_f : Sta Z h0 "jdk/internal/util/Preconditions" "SIOOBE_FORMATTER" "Ljava/util/function/BiFunction;" fm) (hfm : fm.isRef = true) (S_a : Sta Z h0 "java/lang/StringUTF16" "$assertionsDisabled" "Z" (.int 1)) (S_h : Sta Z h0 "java/lang/StringUTF16" "HI_BYTE_SHIFT" "I" (.int 0)) (S_l : Sta Z h0 "java/lang/StringUTF16" "LO_BYTE_SHIFT" "I" (.int 8)) {c0 c1 c2 c3 : Int32} (R0 : own_R c0) (R1 : own_R c1) (R2 : own_R c2) (R3 : own_R c3) (U : StrU Z h0 a1 [c0, c1, c2, c3]) :
    Con l Z n0 (⟨"java/lang/String", "length", "()I"⟩ : MethodName) jdk_42_method_54_code 1 (some .int) ({ frames := 1, cells := 0, slots := 0, locals := 13 } : Room) #[(.ref a1)] h0 (Val (fun v h => v = .int 4 ∧ h0 = h)) := by
  refine con_intro pn_6 Z0 (fr := fun m => mkF m 0 #[.val (.ref a1)] []) (fun m => by first | (simp [entryFrame, mkF, argsToLocals, Value.category]; done) | rfl) ?_
  intro p e s m below s₁ hs0 X0
  rcases U with ⟨b, E_1, F_c, F_v, A_1, hl⟩ | ⟨b, E_1, F_c, F_v, A_1⟩
  · skip
    replace A_1 : Ary Z h0 b .byte 4 (fun i => .int ([c0, c1, c2, c3].getD i 0).toInt8.toInt32) := A_1
    replace hl : ∀ i, i < 4 → ¬ (255 : Int32) < [c0, c1, c2, c3].getD i 0 := hl
    refine w_aloadN X0 (pc' := 1) d6_0 rfl rfl rfl ?_
    refine w_getfield X0 (pc' := 4) d6_1 (host := "") (Or.inl (hw _ (List.mem_of_getElem? (i := 24) rfl))) Via.refl F_v rfl fun T1 X1 => ?_
    refine w_arraylength X1 (pc' := 5) (4 : Int32) d6_4 A_1 (by decide) rfl ?_
    refine w_aloadN X1 (pc' := 6) d6_5 rfl rfl rfl ?_
    refine w_virtualV X1 (pc' := 9) d6_6 (rm_cdr0 hw (h0 := h0) (sd_size X1) a1 S_c hzc S_f hfm S_a S_h S_l F_c) (hw _ (List.mem_of_getElem? (i := 35) rfl)) (hw _ (List.mem_of_getElem? (i := 36) rfl)) (hw _ (List.mem_of_getElem? (i := 38) rfl)) (hw _ (List.mem_of_getElem? (i := 37) rfl)) (hw _ (List.mem_of_getElem? (i := 6) rfl)) (hw _ (List.mem_of_getElem? (i := 39) rfl)) E_1 (by decide) [] [(.int (4 : Int32))] pd_7 rfl rfl rfl rfl 1 (Nat.le_refl _) (by decide) (by decide) (by decide) (by decide) rfl fun T2 h2 v2 X2 q2 => ?_
    obtain ⟨rfl, rfl⟩ := q2
    refine w_ishr X2 (pc' := 10) d6_9 rfl ?_
    exact w_ireturn X2 d6_10 ⟨by decide, rfl⟩ (by decide) (by decide)
  · skip
    replace A_1 : Ary Z h0 b .byte 8 (own_u16 [c0, c1, c2, c3]) := A_1
    refine w_aloadN X0 (pc' := 1) d6_0 rfl rfl rfl ?_
    refine w_getfield X0 (pc' := 4) d6_1 (host := "") (Or.inl (hw _ (List.mem_of_getElem? (i := 24) rfl))) Via.refl F_v rfl fun T3 X3 => ?_
    refine w_arraylength X3 (pc' := 5) (8 : Int32) d6_4 A_1 (by decide) rfl ?_
    refine w_aloadN X3 (pc' := 6) d6_5 rfl rfl rfl ?_
    refine w_virtualV X3 (pc' := 9) d6_6 (rm_cdr1 hw (h0 := h0) (sd_size X3) a1 S_c hzc S_f hfm S_a S_h S_l F_c) (hw _ (List.mem_of_getElem? (i := 35) rfl)) (hw _ (List.mem_of_getElem? (i := 36) rfl)) (hw _ (List.mem_of_getElem? (i := 38) rfl)) (hw _ (List.mem_of_getElem? (i := 37) rfl)) (hw _ (List.mem_of_getElem? (i := 6) rfl)) (hw _ (List.mem_of_getElem? (i := 39) rfl)) E_1 (by decide) [] [(.int (8 : Int32))] pd_7 rfl rfl rfl rfl 1 (Nat.le_refl _) (by decide) (by decide) (by decide) (by decide) rfl fun T4 h4 v4 X4 q4 => ?_
    obtain ⟨rfl, rfl⟩ := q4
    refine w_ishr X4 (pc' := 10) d6_9 rfl ?_
    exact w_ireturn X4 d6_10 ⟨by decide, rfl⟩ (by decide) (by decide)
set_option maxRecDepth 65536 in
set_option maxHeartbeats 40000000 in
theorem rm_ch4_0 {l : Launch} {Z : State} {a0 : Array Value} (hw : ∀ d ∈ tables_1, d.before a0 Z = true) {n0 : Nat} {h0 : Heap} (Z0 : n0 ≤ h0.size) (a1 : Addr) {zc : Int32} (S_c : Sta Z h0 "java/lang/String" "COMPACT_STRINGS" "Z" (.int zc)) (hzc : ¬ zc = (0 : Int32)) {fm : Value} (S_f : Sta Z h0 "jdk/internal/util/Preconditions" "SIOOBE_FORMATTER" "Ljava/util/function/BiFunction;" fm) (hfm : fm.isRef = true) (S_a : Sta Z h0 "java/lang/StringUTF16" "$assertionsDisabled" "Z" (.int 1)) (S_h : Sta Z h0 "java/lang/StringUTF16" "HI_BYTE_SHIFT" "I" (.int 0)) (S_l : Sta Z h0 "java/lang/StringUTF16" "LO_BYTE_SHIFT" "I" (.int 8)) {c0 c1 c2 c3 : Int32} (R0 : own_R c0) (R1 : own_R c1) (R2 : own_R c2) (R3 : own_R c3) (U : StrU Z h0 a1 [c0, c1, c2, c3]) :
    Con l Z n0 (⟨"java/lang/String", "charAt", "(I)C"⟩ : MethodName) jdk_42_method_56_code 2 (some .char) ({ frames := 4, cells := 0, slots := 0, locals := 53 } : Room) #[(.ref a1), (.int (0 : Int32))] h0 (Val (fun v h => v = .int c0 ∧ h0 = h)) := by
  refine con_intro pn_13 Z0 (fr := fun m => mkF m 0 #[.val (.ref a1), .val (.int (0 : Int32))] []) (fun m => by first | (simp [entryFrame, mkF, argsToLocals, Value.category]; done) | rfl) ?_
  intro p e s m below s₁ hs0 X0
  rcases U with ⟨b, E_1, F_c, F_v, A_1, hl⟩ | ⟨b, E_1, F_c, F_v, A_1⟩
  · skip
    replace A_1 : Ary Z h0 b .byte 4 (fun i => .int ([c0, c1, c2, c3].getD i 0).toInt8.toInt32) := A_1
    replace hl : ∀ i, i < 4 → ¬ (255 : Int32) < [c0, c1, c2, c3].getD i 0 := hl
    refine w_aloadN X0 (pc' := 1) d13_0 rfl rfl rfl ?_
    refine w_virtualV X0 (pc' := 4) d13_1 (rm_isl0 hw (h0 := h0) (sd_size X0) a1 S_c hzc S_f hfm S_a S_h S_l F_c) (hw _ (List.mem_of_getElem? (i := 62) rfl)) (hw _ (List.mem_of_getElem? (i := 63) rfl)) (hw _ (List.mem_of_getElem? (i := 65) rfl)) (hw _ (List.mem_of_getElem? (i := 64) rfl)) (hw _ (List.mem_of_getElem? (i := 6) rfl)) (hw _ (List.mem_of_getElem? (i := 66) rfl)) E_1 (by decide) [] [] pd_14 rfl rfl rfl rfl 0 (Nat.le_refl _) (by decide) (by decide) (by decide) (by decide) rfl fun T1 h1 v1 X1 q1 => ?_
    obtain ⟨rfl, rfl⟩ := q1
    refine w_if_eq X1 16 7 d13_4 (by decide) rfl rfl (fun hc4 => by exfalso; revert hc4; decide) (fun hc4 => ?_)
    refine w_aloadN X1 (pc' := 8) d13_7 rfl rfl rfl ?_
    refine w_getfield X1 (pc' := 11) d13_8 (host := "") (Or.inl (hw _ (List.mem_of_getElem? (i := 24) rfl))) Via.refl F_v rfl fun T2 X2 => ?_
    refine w_iloadN X2 (pc' := 12) d13_11 rfl rfl ?_
    refine w_staticV X2 (pc' := 15) d13_12 (rm_lc4_0 hw (h0 := h0) (sd_size X2) b S_c hzc S_f hfm S_a S_h S_l R0 R1 R2 R3 A_1 hl) (hw _ (List.mem_of_getElem? (i := 67) rfl)) (hw _ (List.mem_of_getElem? (i := 68) rfl)) (hw _ (List.mem_of_getElem? (i := 69) rfl)) (hw _ (List.mem_of_getElem? (i := 70) rfl)) (by decide) [(.ref b), (.int (0 : Int32))] [] pd_15 rfl rfl rfl rfl 0 (Nat.le_refl _) (by decide) (by decide) (by decide) (by decide) rfl fun T3 h3 v3 X3 q3 => ?_
    obtain ⟨rfl, rfl⟩ := q3
    exact w_creturn X3 d13_15 ⟨congrArg Value.int (own_i2c R0), rfl⟩ (by decide) (by decide)
  · skip
    replace A_1 : Ary Z h0 b .byte 8 (own_u16 [c0, c1, c2, c3]) := A_1
    refine w_aloadN X0 (pc' := 1) d13_0 rfl rfl rfl ?_
    refine w_virtualV X0 (pc' := 4) d13_1 (rm_isl1 hw (h0 := h0) (sd_size X0) a1 S_c hzc S_f hfm S_a S_h S_l F_c) (hw _ (List.mem_of_getElem? (i := 62) rfl)) (hw _ (List.mem_of_getElem? (i := 63) rfl)) (hw _ (List.mem_of_getElem? (i := 65) rfl)) (hw _ (List.mem_of_getElem? (i := 64) rfl)) (hw _ (List.mem_of_getElem? (i := 6) rfl)) (hw _ (List.mem_of_getElem? (i := 66) rfl)) E_1 (by decide) [] [] pd_14 rfl rfl rfl rfl 0 (Nat.le_refl _) (by decide) (by decide) (by decide) (by decide) rfl fun T4 h4 v4 X4 q4 => ?_
    obtain ⟨rfl, rfl⟩ := q4
    refine w_if_eq X4 16 7 d13_4 (by decide) rfl rfl (fun hc4 => ?_) (fun hc4 => by exfalso; revert hc4; decide)
    refine w_aloadN X4 (pc' := 17) d13_16 rfl rfl rfl ?_
    refine w_getfield X4 (pc' := 20) d13_17 (host := "") (Or.inl (hw _ (List.mem_of_getElem? (i := 24) rfl))) Via.refl F_v rfl fun T5 X5 => ?_
    refine w_iloadN X5 (pc' := 21) d13_20 rfl rfl ?_
    refine w_staticV X5 (pc' := 24) d13_21 (rm_uc4_0 hw (h0 := h0) (sd_size X5) b S_c hzc S_f hfm S_a S_h S_l R0 R1 R2 R3 A_1) (hw _ (List.mem_of_getElem? (i := 98) rfl)) (hw _ (List.mem_of_getElem? (i := 99) rfl)) (hw _ (List.mem_of_getElem? (i := 49) rfl)) (hw _ (List.mem_of_getElem? (i := 100) rfl)) (by decide) [(.ref b), (.int (0 : Int32))] [] pd_23 rfl rfl rfl rfl 0 (Nat.le_refl _) (by decide) (by decide) (by decide) (by decide) rfl fun T6 h6 v6 X6 q6 => ?_
    obtain ⟨rfl, rfl⟩ := q6
    exact w_creturn X6 d13_24 ⟨congrArg Value.int (own_i2c R0), rfl⟩ (by decide) (by decide)
set_option maxRecDepth 65536 in
set_option maxHeartbeats 40000000 in
theorem rm_ch4_1 {l : Launch} {Z : State} {a0 : Array Value} (hw : ∀ d ∈ tables_1, d.before a0 Z = true) {n0 : Nat} {h0 : Heap} (Z0 : n0 ≤ h0.size) (a1 : Addr) {zc : Int32} (S_c : Sta Z h0 "java/lang/String" "COMPACT_STRINGS" "Z" (.int zc)) (hzc : ¬ zc = (0 : Int32)) {fm : Value} (S_f : Sta Z h0 "jdk/internal/util/Preconditions" "SIOOBE_FORMATTER" "Ljava/util/function/BiFunction;" fm) (hfm : fm.isRef = true) (S_a : Sta Z h0 "java/lang/StringUTF16" "$assertionsDisabled" "Z" (.int 1)) (S_h : Sta Z h0 "java/lang/StringUTF16" "HI_BYTE_SHIFT" "I" (.int 0)) (S_l : Sta Z h0 "java/lang/StringUTF16" "LO_BYTE_SHIFT" "I" (.int 8)) {c0 c1 c2 c3 : Int32} (R0 : own_R c0) (R1 : own_R c1) (R2 : own_R c2) (R3 : own_R c3) (U : StrU Z h0 a1 [c0, c1, c2, c3]) :
    Con l Z n0 (⟨"java/lang/String", "charAt", "(I)C"⟩ : MethodName) jdk_42_method_56_code 2 (some .char) ({ frames := 4, cells := 0, slots := 0, locals := 53 } : Room) #[(.ref a1), (.int (1 : Int32))] h0 (Val (fun v h => v = .int c1 ∧ h0 = h)) := by
  refine con_intro pn_13 Z0 (fr := fun m => mkF m 0 #[.val (.ref a1), .val (.int (1 : Int32))] []) (fun m => by first | (simp [entryFrame, mkF, argsToLocals, Value.category]; done) | rfl) ?_
  intro p e s m below s₁ hs0 X0
  rcases U with ⟨b, E_1, F_c, F_v, A_1, hl⟩ | ⟨b, E_1, F_c, F_v, A_1⟩
  · skip
    replace A_1 : Ary Z h0 b .byte 4 (fun i => .int ([c0, c1, c2, c3].getD i 0).toInt8.toInt32) := A_1
    replace hl : ∀ i, i < 4 → ¬ (255 : Int32) < [c0, c1, c2, c3].getD i 0 := hl
    refine w_aloadN X0 (pc' := 1) d13_0 rfl rfl rfl ?_
    refine w_virtualV X0 (pc' := 4) d13_1 (rm_isl0 hw (h0 := h0) (sd_size X0) a1 S_c hzc S_f hfm S_a S_h S_l F_c) (hw _ (List.mem_of_getElem? (i := 62) rfl)) (hw _ (List.mem_of_getElem? (i := 63) rfl)) (hw _ (List.mem_of_getElem? (i := 65) rfl)) (hw _ (List.mem_of_getElem? (i := 64) rfl)) (hw _ (List.mem_of_getElem? (i := 6) rfl)) (hw _ (List.mem_of_getElem? (i := 66) rfl)) E_1 (by decide) [] [] pd_14 rfl rfl rfl rfl 0 (Nat.le_refl _) (by decide) (by decide) (by decide) (by decide) rfl fun T1 h1 v1 X1 q1 => ?_
    obtain ⟨rfl, rfl⟩ := q1
    refine w_if_eq X1 16 7 d13_4 (by decide) rfl rfl (fun hc4 => by exfalso; revert hc4; decide) (fun hc4 => ?_)
    refine w_aloadN X1 (pc' := 8) d13_7 rfl rfl rfl ?_
    refine w_getfield X1 (pc' := 11) d13_8 (host := "") (Or.inl (hw _ (List.mem_of_getElem? (i := 24) rfl))) Via.refl F_v rfl fun T2 X2 => ?_
    refine w_iloadN X2 (pc' := 12) d13_11 rfl rfl ?_
    refine w_staticV X2 (pc' := 15) d13_12 (rm_lc4_1 hw (h0 := h0) (sd_size X2) b S_c hzc S_f hfm S_a S_h S_l R0 R1 R2 R3 A_1 hl) (hw _ (List.mem_of_getElem? (i := 67) rfl)) (hw _ (List.mem_of_getElem? (i := 68) rfl)) (hw _ (List.mem_of_getElem? (i := 69) rfl)) (hw _ (List.mem_of_getElem? (i := 70) rfl)) (by decide) [(.ref b), (.int (1 : Int32))] [] pd_15 rfl rfl rfl rfl 0 (Nat.le_refl _) (by decide) (by decide) (by decide) (by decide) rfl fun T3 h3 v3 X3 q3 => ?_
    obtain ⟨rfl, rfl⟩ := q3
    exact w_creturn X3 d13_15 ⟨congrArg Value.int (own_i2c R1), rfl⟩ (by decide) (by decide)
  · skip
    replace A_1 : Ary Z h0 b .byte 8 (own_u16 [c0, c1, c2, c3]) := A_1
    refine w_aloadN X0 (pc' := 1) d13_0 rfl rfl rfl ?_
    refine w_virtualV X0 (pc' := 4) d13_1 (rm_isl1 hw (h0 := h0) (sd_size X0) a1 S_c hzc S_f hfm S_a S_h S_l F_c) (hw _ (List.mem_of_getElem? (i := 62) rfl)) (hw _ (List.mem_of_getElem? (i := 63) rfl)) (hw _ (List.mem_of_getElem? (i := 65) rfl)) (hw _ (List.mem_of_getElem? (i := 64) rfl)) (hw _ (List.mem_of_getElem? (i := 6) rfl)) (hw _ (List.mem_of_getElem? (i := 66) rfl)) E_1 (by decide) [] [] pd_14 rfl rfl rfl rfl 0 (Nat.le_refl _) (by decide) (by decide) (by decide) (by decide) rfl fun T4 h4 v4 X4 q4 => ?_
    obtain ⟨rfl, rfl⟩ := q4
    refine w_if_eq X4 16 7 d13_4 (by decide) rfl rfl (fun hc4 => ?_) (fun hc4 => by exfalso; revert hc4; decide)
    refine w_aloadN X4 (pc' := 17) d13_16 rfl rfl rfl ?_
    refine w_getfield X4 (pc' := 20) d13_17 (host := "") (Or.inl (hw _ (List.mem_of_getElem? (i := 24) rfl))) Via.refl F_v rfl fun T5 X5 => ?_
    refine w_iloadN X5 (pc' := 21) d13_20 rfl rfl ?_
    refine w_staticV X5 (pc' := 24) d13_21 (rm_uc4_1 hw (h0 := h0) (sd_size X5) b S_c hzc S_f hfm S_a S_h S_l R0 R1 R2 R3 A_1) (hw _ (List.mem_of_getElem? (i := 98) rfl)) (hw _ (List.mem_of_getElem? (i := 99) rfl)) (hw _ (List.mem_of_getElem? (i := 49) rfl)) (hw _ (List.mem_of_getElem? (i := 100) rfl)) (by decide) [(.ref b), (.int (1 : Int32))] [] pd_23 rfl rfl rfl rfl 0 (Nat.le_refl _) (by decide) (by decide) (by decide) (by decide) rfl fun T6 h6 v6 X6 q6 => ?_
    obtain ⟨rfl, rfl⟩ := q6
    exact w_creturn X6 d13_24 ⟨congrArg Value.int (own_i2c R1), rfl⟩ (by decide) (by decide)
set_option maxRecDepth 65536 in
set_option maxHeartbeats 40000000 in
theorem rm_ch4_2 {l : Launch} {Z : State} {a0 : Array Value} (hw : ∀ d ∈ tables_1, d.before a0 Z = true) {n0 : Nat} {h0 : Heap} (Z0 : n0 ≤ h0.size) (a1 : Addr) {zc : Int32} (S_c : Sta Z h0 "java/lang/String" "COMPACT_STRINGS" "Z" (.int zc)) (hzc : ¬ zc = (0 : Int32)) {fm : Value} (S_f : Sta Z h0 "jdk/internal/util/Preconditions" "SIOOBE_FORMATTER" "Ljava/util/function/BiFunction;" fm) (hfm : fm.isRef = true) (S_a : Sta Z h0 "java/lang/StringUTF16" "$assertionsDisabled" "Z" (.int 1)) (S_h : Sta Z h0 "java/lang/StringUTF16" "HI_BYTE_SHIFT" "I" (.int 0)) (S_l : Sta Z h0 "java/lang/StringUTF16" "LO_BYTE_SHIFT" "I" (.int 8)) {c0 c1 c2 c3 : Int32} (R0 : own_R c0) (R1 : own_R c1) (R2 : own_R c2) (R3 : own_R c3) (U : StrU Z h0 a1 [c0, c1, c2, c3]) :
    Con l Z n0 (⟨"java/lang/String", "charAt", "(I)C"⟩ : MethodName) jdk_42_method_56_code 2 (some .char) ({ frames := 4, cells := 0, slots := 0, locals := 53 } : Room) #[(.ref a1), (.int (2 : Int32))] h0 (Val (fun v h => v = .int c2 ∧ h0 = h)) := by
  refine con_intro pn_13 Z0 (fr := fun m => mkF m 0 #[.val (.ref a1), .val (.int (2 : Int32))] []) (fun m => by first | (simp [entryFrame, mkF, argsToLocals, Value.category]; done) | rfl) ?_
  intro p e s m below s₁ hs0 X0
  rcases U with ⟨b, E_1, F_c, F_v, A_1, hl⟩ | ⟨b, E_1, F_c, F_v, A_1⟩
  · skip
    replace A_1 : Ary Z h0 b .byte 4 (fun i => .int ([c0, c1, c2, c3].getD i 0).toInt8.toInt32) := A_1
    replace hl : ∀ i, i < 4 → ¬ (255 : Int32) < [c0, c1, c2, c3].getD i 0 := hl
    refine w_aloadN X0 (pc' := 1) d13_0 rfl rfl rfl ?_
    refine w_virtualV X0 (pc' := 4) d13_1 (rm_isl0 hw (h0 := h0) (sd_size X0) a1 S_c hzc S_f hfm S_a S_h S_l F_c) (hw _ (List.mem_of_getElem? (i := 62) rfl)) (hw _ (List.mem_of_getElem? (i := 63) rfl)) (hw _ (List.mem_of_getElem? (i := 65) rfl)) (hw _ (List.mem_of_getElem? (i := 64) rfl)) (hw _ (List.mem_of_getElem? (i := 6) rfl)) (hw _ (List.mem_of_getElem? (i := 66) rfl)) E_1 (by decide) [] [] pd_14 rfl rfl rfl rfl 0 (Nat.le_refl _) (by decide) (by decide) (by decide) (by decide) rfl fun T1 h1 v1 X1 q1 => ?_
    obtain ⟨rfl, rfl⟩ := q1
    refine w_if_eq X1 16 7 d13_4 (by decide) rfl rfl (fun hc4 => by exfalso; revert hc4; decide) (fun hc4 => ?_)
    refine w_aloadN X1 (pc' := 8) d13_7 rfl rfl rfl ?_
    refine w_getfield X1 (pc' := 11) d13_8 (host := "") (Or.inl (hw _ (List.mem_of_getElem? (i := 24) rfl))) Via.refl F_v rfl fun T2 X2 => ?_
    refine w_iloadN X2 (pc' := 12) d13_11 rfl rfl ?_
    refine w_staticV X2 (pc' := 15) d13_12 (rm_lc4_2 hw (h0 := h0) (sd_size X2) b S_c hzc S_f hfm S_a S_h S_l R0 R1 R2 R3 A_1 hl) (hw _ (List.mem_of_getElem? (i := 67) rfl)) (hw _ (List.mem_of_getElem? (i := 68) rfl)) (hw _ (List.mem_of_getElem? (i := 69) rfl)) (hw _ (List.mem_of_getElem? (i := 70) rfl)) (by decide) [(.ref b), (.int (2 : Int32))] [] pd_15 rfl rfl rfl rfl 0 (Nat.le_refl _) (by decide) (by decide) (by decide) (by decide) rfl fun T3 h3 v3 X3 q3 => ?_
    obtain ⟨rfl, rfl⟩ := q3
    exact w_creturn X3 d13_15 ⟨congrArg Value.int (own_i2c R2), rfl⟩ (by decide) (by decide)
  · skip
    replace A_1 : Ary Z h0 b .byte 8 (own_u16 [c0, c1, c2, c3]) := A_1
    refine w_aloadN X0 (pc' := 1) d13_0 rfl rfl rfl ?_
    refine w_virtualV X0 (pc' := 4) d13_1 (rm_isl1 hw (h0 := h0) (sd_size X0) a1 S_c hzc S_f hfm S_a S_h S_l F_c) (hw _ (List.mem_of_getElem? (i := 62) rfl)) (hw _ (List.mem_of_getElem? (i := 63) rfl)) (hw _ (List.mem_of_getElem? (i := 65) rfl)) (hw _ (List.mem_of_getElem? (i := 64) rfl)) (hw _ (List.mem_of_getElem? (i := 6) rfl)) (hw _ (List.mem_of_getElem? (i := 66) rfl)) E_1 (by decide) [] [] pd_14 rfl rfl rfl rfl 0 (Nat.le_refl _) (by decide) (by decide) (by decide) (by decide) rfl fun T4 h4 v4 X4 q4 => ?_
    obtain ⟨rfl, rfl⟩ := q4
    refine w_if_eq X4 16 7 d13_4 (by decide) rfl rfl (fun hc4 => ?_) (fun hc4 => by exfalso; revert hc4; decide)
    refine w_aloadN X4 (pc' := 17) d13_16 rfl rfl rfl ?_
    refine w_getfield X4 (pc' := 20) d13_17 (host := "") (Or.inl (hw _ (List.mem_of_getElem? (i := 24) rfl))) Via.refl F_v rfl fun T5 X5 => ?_
    refine w_iloadN X5 (pc' := 21) d13_20 rfl rfl ?_
    refine w_staticV X5 (pc' := 24) d13_21 (rm_uc4_2 hw (h0 := h0) (sd_size X5) b S_c hzc S_f hfm S_a S_h S_l R0 R1 R2 R3 A_1) (hw _ (List.mem_of_getElem? (i := 98) rfl)) (hw _ (List.mem_of_getElem? (i := 99) rfl)) (hw _ (List.mem_of_getElem? (i := 49) rfl)) (hw _ (List.mem_of_getElem? (i := 100) rfl)) (by decide) [(.ref b), (.int (2 : Int32))] [] pd_23 rfl rfl rfl rfl 0 (Nat.le_refl _) (by decide) (by decide) (by decide) (by decide) rfl fun T6 h6 v6 X6 q6 => ?_
    obtain ⟨rfl, rfl⟩ := q6
    exact w_creturn X6 d13_24 ⟨congrArg Value.int (own_i2c R2), rfl⟩ (by decide) (by decide)
set_option maxRecDepth 65536 in
set_option maxHeartbeats 40000000 in
theorem rm_ch4_3 {l : Launch} {Z : State} {a0 : Array Value} (hw : ∀ d ∈ tables_1, d.before a0 Z = true) {n0 : Nat} {h0 : Heap} (Z0 : n0 ≤ h0.size) (a1 : Addr) {zc : Int32} (S_c : Sta Z h0 "java/lang/String" "COMPACT_STRINGS" "Z" (.int zc)) (hzc : ¬ zc = (0 : Int32)) {fm : Value} (S_f : Sta Z h0 "jdk/internal/util/Preconditions" "SIOOBE_FORMATTER" "Ljava/util/function/BiFunction;" fm) (hfm : fm.isRef = true) (S_a : Sta Z h0 "java/lang/StringUTF16" "$assertionsDisabled" "Z" (.int 1)) (S_h : Sta Z h0 "java/lang/StringUTF16" "HI_BYTE_SHIFT" "I" (.int 0)) (S_l : Sta Z h0 "java/lang/StringUTF16" "LO_BYTE_SHIFT" "I" (.int 8)) {c0 c1 c2 c3 : Int32} (R0 : own_R c0) (R1 : own_R c1) (R2 : own_R c2) (R3 : own_R c3) (U : StrU Z h0 a1 [c0, c1, c2, c3]) :
    Con l Z n0 (⟨"java/lang/String", "charAt", "(I)C"⟩ : MethodName) jdk_42_method_56_code 2 (some .char) ({ frames := 4, cells := 0, slots := 0, locals := 53 } : Room) #[(.ref a1), (.int (3 : Int32))] h0 (Val (fun v h => v = .int c3 ∧ h0 = h)) := by
  refine con_intro pn_13 Z0 (fr := fun m => mkF m 0 #[.val (.ref a1), .val (.int (3 : Int32))] []) (fun m => by first | (simp [entryFrame, mkF, argsToLocals, Value.category]; done) | rfl) ?_
  intro p e s m below s₁ hs0 X0
  rcases U with ⟨b, E_1, F_c, F_v, A_1, hl⟩ | ⟨b, E_1, F_c, F_v, A_1⟩
  · skip
    replace A_1 : Ary Z h0 b .byte 4 (fun i => .int ([c0, c1, c2, c3].getD i 0).toInt8.toInt32) := A_1
    replace hl : ∀ i, i < 4 → ¬ (255 : Int32) < [c0, c1, c2, c3].getD i 0 := hl
    refine w_aloadN X0 (pc' := 1) d13_0 rfl rfl rfl ?_
    refine w_virtualV X0 (pc' := 4) d13_1 (rm_isl0 hw (h0 := h0) (sd_size X0) a1 S_c hzc S_f hfm S_a S_h S_l F_c) (hw _ (List.mem_of_getElem? (i := 62) rfl)) (hw _ (List.mem_of_getElem? (i := 63) rfl)) (hw _ (List.mem_of_getElem? (i := 65) rfl)) (hw _ (List.mem_of_getElem? (i := 64) rfl)) (hw _ (List.mem_of_getElem? (i := 6) rfl)) (hw _ (List.mem_of_getElem? (i := 66) rfl)) E_1 (by decide) [] [] pd_14 rfl rfl rfl rfl 0 (Nat.le_refl _) (by decide) (by decide) (by decide) (by decide) rfl fun T1 h1 v1 X1 q1 => ?_
    obtain ⟨rfl, rfl⟩ := q1
    refine w_if_eq X1 16 7 d13_4 (by decide) rfl rfl (fun hc4 => by exfalso; revert hc4; decide) (fun hc4 => ?_)
    refine w_aloadN X1 (pc' := 8) d13_7 rfl rfl rfl ?_
    refine w_getfield X1 (pc' := 11) d13_8 (host := "") (Or.inl (hw _ (List.mem_of_getElem? (i := 24) rfl))) Via.refl F_v rfl fun T2 X2 => ?_
    refine w_iloadN X2 (pc' := 12) d13_11 rfl rfl ?_
    refine w_staticV X2 (pc' := 15) d13_12 (rm_lc4_3 hw (h0 := h0) (sd_size X2) b S_c hzc S_f hfm S_a S_h S_l R0 R1 R2 R3 A_1 hl) (hw _ (List.mem_of_getElem? (i := 67) rfl)) (hw _ (List.mem_of_getElem? (i := 68) rfl)) (hw _ (List.mem_of_getElem? (i := 69) rfl)) (hw _ (List.mem_of_getElem? (i := 70) rfl)) (by decide) [(.ref b), (.int (3 : Int32))] [] pd_15 rfl rfl rfl rfl 0 (Nat.le_refl _) (by decide) (by decide) (by decide) (by decide) rfl fun T3 h3 v3 X3 q3 => ?_
    obtain ⟨rfl, rfl⟩ := q3
    exact w_creturn X3 d13_15 ⟨congrArg Value.int (own_i2c R3), rfl⟩ (by decide) (by decide)
  · skip
    replace A_1 : Ary Z h0 b .byte 8 (own_u16 [c0, c1, c2, c3]) := A_1
    refine w_aloadN X0 (pc' := 1) d13_0 rfl rfl rfl ?_
    refine w_virtualV X0 (pc' := 4) d13_1 (rm_isl1 hw (h0 := h0) (sd_size X0) a1 S_c hzc S_f hfm S_a S_h S_l F_c) (hw _ (List.mem_of_getElem? (i := 62) rfl)) (hw _ (List.mem_of_getElem? (i := 63) rfl)) (hw _ (List.mem_of_getElem? (i := 65) rfl)) (hw _ (List.mem_of_getElem? (i := 64) rfl)) (hw _ (List.mem_of_getElem? (i := 6) rfl)) (hw _ (List.mem_of_getElem? (i := 66) rfl)) E_1 (by decide) [] [] pd_14 rfl rfl rfl rfl 0 (Nat.le_refl _) (by decide) (by decide) (by decide) (by decide) rfl fun T4 h4 v4 X4 q4 => ?_
    obtain ⟨rfl, rfl⟩ := q4
    refine w_if_eq X4 16 7 d13_4 (by decide) rfl rfl (fun hc4 => ?_) (fun hc4 => by exfalso; revert hc4; decide)
    refine w_aloadN X4 (pc' := 17) d13_16 rfl rfl rfl ?_
    refine w_getfield X4 (pc' := 20) d13_17 (host := "") (Or.inl (hw _ (List.mem_of_getElem? (i := 24) rfl))) Via.refl F_v rfl fun T5 X5 => ?_
    refine w_iloadN X5 (pc' := 21) d13_20 rfl rfl ?_
    refine w_staticV X5 (pc' := 24) d13_21 (rm_uc4_3 hw (h0 := h0) (sd_size X5) b S_c hzc S_f hfm S_a S_h S_l R0 R1 R2 R3 A_1) (hw _ (List.mem_of_getElem? (i := 98) rfl)) (hw _ (List.mem_of_getElem? (i := 99) rfl)) (hw _ (List.mem_of_getElem? (i := 49) rfl)) (hw _ (List.mem_of_getElem? (i := 100) rfl)) (by decide) [(.ref b), (.int (3 : Int32))] [] pd_23 rfl rfl rfl rfl 0 (Nat.le_refl _) (by decide) (by decide) (by decide) (by decide) rfl fun T6 h6 v6 X6 q6 => ?_
    obtain ⟨rfl, rfl⟩ := q6
    exact w_creturn X6 d13_24 ⟨congrArg Value.int (own_i2c R3), rfl⟩ (by decide) (by decide)
theorem d5_0 : decode prog_53_method_11_code 0 = .ok (.iload_n 1, 1) := by decide +kernel
theorem d5_1 : decode prog_53_method_11_code 1 = .ok (.istore_n 2, 1) := by decide +kernel
theorem d5_2 : decode prog_53_method_11_code 2 = .ok (.iload_n 2, 1) := by decide +kernel
theorem d5_3 : decode prog_53_method_11_code 3 = .ok (.aload_n 0, 1) := by decide +kernel
theorem d5_4 : decode prog_53_method_11_code 4 = .ok (.invokevirtual 37, 3) := by decide +kernel
theorem d5_7 : decode prog_53_method_11_code 7 = .ok (.if_icmp .ge 29, 3) := by decide +kernel
theorem d5_10 : decode prog_53_method_11_code 10 = .ok (.aload_n 0, 1) := by decide +kernel
theorem d5_11 : decode prog_53_method_11_code 11 = .ok (.iload_n 2, 1) := by decide +kernel
theorem d5_12 : decode prog_53_method_11_code 12 = .ok (.invokevirtual 55, 3) := by decide +kernel
theorem d5_15 : decode prog_53_method_11_code 15 = .ok (.bipush 48, 2) := by decide +kernel
theorem d5_17 : decode prog_53_method_11_code 17 = .ok (.if_icmp .lt 19, 3) := by decide +kernel
theorem d5_20 : decode prog_53_method_11_code 20 = .ok (.aload_n 0, 1) := by decide +kernel
theorem d5_21 : decode prog_53_method_11_code 21 = .ok (.iload_n 2, 1) := by decide +kernel
theorem d5_22 : decode prog_53_method_11_code 22 = .ok (.invokevirtual 55, 3) := by decide +kernel
theorem d5_25 : decode prog_53_method_11_code 25 = .ok (.bipush 57, 2) := by decide +kernel
theorem d5_27 : decode prog_53_method_11_code 27 = .ok (.if_icmp .gt 9, 3) := by decide +kernel
theorem d5_30 : decode prog_53_method_11_code 30 = .ok (.iinc 2 1, 3) := by decide +kernel
theorem d5_33 : decode prog_53_method_11_code 33 = .ok (.goto (-31), 3) := by decide +kernel
theorem d5_36 : decode prog_53_method_11_code 36 = .ok (.iload_n 2, 1) := by decide +kernel
theorem d5_37 : decode prog_53_method_11_code 37 = .ok (.iload_n 1, 1) := by decide +kernel
theorem d5_38 : decode prog_53_method_11_code 38 = .ok (.isub, 1) := by decide +kernel
theorem d5_39 : decode prog_53_method_11_code 39 = .ok (.ireturn, 1) := by decide +kernel
theorem pn_5 : plainFor (⟨"com/example/admitwire/admitwire/core/Timestamp", "digits", "(Ljava/lang/String;I)I"⟩ : MethodName) = true := plainFor_of_name (by first | (simp [plainName, overriddenIn]; done) | decide +kernel)
theorem pd_5 : parseMethodDescriptor "(Ljava/lang/String;I)I" = some ⟨[(.object "java/lang/String"), .int], some .int⟩ := by decide +kernel
set_option maxRecDepth 65536 in
set_option maxHeartbeats 40000000 in
theorem rm_dg4_0 {l : Launch} {Z : State} {a0 : Array Value} (hw : ∀ d ∈ tables_1, d.before a0 Z = true) {n0 : Nat} {h0 : Heap} (Z0 : n0 ≤ h0.size) (a1 : Addr) {zc : Int32} (S_c : Sta Z h0 "java/lang/String" "COMPACT_STRINGS" "Z" (.int zc)) (hzc : ¬ zc = (0 : Int32)) {fm : Value} (S_f : Sta Z h0 "jdk/internal/util/Preconditions" "SIOOBE_FORMATTER" "Ljava/util/function/BiFunction;" fm) (hfm : fm.isRef = true) (S_a : Sta Z h0 "java/lang/StringUTF16" "$assertionsDisabled" "Z" (.int 1)) (S_h : Sta Z h0 "java/lang/StringUTF16" "HI_BYTE_SHIFT" "I" (.int 0)) (S_l : Sta Z h0 "java/lang/StringUTF16" "LO_BYTE_SHIFT" "I" (.int 8)) {c0 c1 c2 c3 : Int32} (R0 : own_R c0) (R1 : own_R c1) (R2 : own_R c2) (R3 : own_R c3) (U : StrU Z h0 a1 [c0, c1, c2, c3]) :
    Con l Z n0 (⟨"com/example/admitwire/admitwire/core/Timestamp", "digits", "(Ljava/lang/String;I)I"⟩ : MethodName) prog_53_method_11_code 3 (some .int) ({ frames := 5, cells := 0, slots := 0, locals := 66 } : Room) #[(.ref a1), (.int (0 : Int32))] h0 (Val (fun v h => v = .int (own_run [c0, c1, c2, c3]) ∧ h0 = h)) := by
  refine con_intro pn_5 Z0 (fr := fun m => mkF m 0 #[.val (.ref a1), .val (.int (0 : Int32)), .unset] []) (fun m => by first | (simp [entryFrame, mkF, argsToLocals, Value.category]; done) | rfl) ?_
  intro p e s m below s₁ hs0 X0
  have EU := U.exa
  refine w_iloadN X0 (pc' := 1) d5_0 rfl rfl ?_
  refine w_istoreN X0 (pc' := 2) (l' := #[.val (.ref a1), .val (.int (0 : Int32)), .val (.int (0 : Int32))]) d5_1 rfl rfl ?_
  refine w_iloadN X0 (pc' := 3) d5_2 rfl rfl ?_
  refine w_aloadN X0 (pc' := 4) d5_3 rfl rfl rfl ?_
  refine w_virtualV X0 (pc' := 7) d5_4 (rm_len4 hw (h0 := h0) (sd_size X0) a1 S_c hzc S_f hfm S_a S_h S_l R0 R1 R2 R3 U) (hw _ (List.mem_of_getElem? (i := 30) rfl)) (hw _ (List.mem_of_getElem? (i := 31) rfl)) (hw _ (List.mem_of_getElem? (i := 33) rfl)) (hw _ (List.mem_of_getElem? (i := 32) rfl)) (hw _ (List.mem_of_getElem? (i := 6) rfl)) (hw _ (List.mem_of_getElem? (i := 34) rfl)) EU (by decide) [] [(.int (0 : Int32))] pd_6 rfl rfl rfl rfl 1 (Nat.le_refl _) (by decide) (by decide) (by decide) (by decide) rfl fun T1 h1 v1 X1 q1 => ?_
  obtain ⟨rfl, rfl⟩ := q1
  refine w_icmp_ge X1 36 10 d5_7 (by decide) rfl rfl (fun hc7 => by exfalso; revert hc7; decide) (fun hc7 => ?_)
  refine w_aloadN X1 (pc' := 11) d5_10 rfl rfl rfl ?_
  refine w_iloadN X1 (pc' := 12) d5_11 rfl rfl ?_
  refine w_virtualV X1 (pc' := 15) d5_12 (rm_ch4_0 hw (h0 := h0) (sd_size X1) a1 S_c hzc S_f hfm S_a S_h S_l R0 R1 R2 R3 U) (hw _ (List.mem_of_getElem? (i := 57) rfl)) (hw _ (List.mem_of_getElem? (i := 58) rfl)) (hw _ (List.mem_of_getElem? (i := 60) rfl)) (hw _ (List.mem_of_getElem? (i := 59) rfl)) (hw _ (List.mem_of_getElem? (i := 6) rfl)) (hw _ (List.mem_of_getElem? (i := 61) rfl)) EU (by decide) [(.int (0 : Int32))] [] pd_13 rfl rfl rfl rfl 0 (Nat.le_refl _) (by decide) (by decide) (by decide) (by decide) rfl fun T2 h2 v2 X2 q2 => ?_
  obtain ⟨rfl, rfl⟩ := q2
  refine w_bipush X2 (pc' := 17) (48 : Int32) d5_15 rfl rfl ?_
  refine w_icmp_lt X2 36 20 d5_17 (by decide) rfl rfl (fun hc17 => ?_) (fun hc17 => ?_)
  · skip
    refine w_iloadN X2 (pc' := 37) d5_36 rfl rfl ?_
    refine w_iloadN X2 (pc' := 38) d5_37 rfl rfl ?_
    refine w_isub X2 (pc' := 39) d5_38 rfl ?_
    exact w_ireturn X2 d5_39 ⟨by rw [own_rn1 hc17] <;> decide, rfl⟩ (by decide) (by decide)
  · skip
    have ha0 := hc17
    refine w_aloadN X2 (pc' := 21) d5_20 rfl rfl rfl ?_
    refine w_iloadN X2 (pc' := 22) d5_21 rfl rfl ?_
    refine w_virtualV X2 (pc' := 25) d5_22 (rm_ch4_0 hw (h0 := h0) (sd_size X2) a1 S_c hzc S_f hfm S_a S_h S_l R0 R1 R2 R3 U) (hw _ (List.mem_of_getElem? (i := 57) rfl)) (hw _ (List.mem_of_getElem? (i := 58) rfl)) (hw _ (List.mem_of_getElem? (i := 60) rfl)) (hw _ (List.mem_of_getElem? (i := 59) rfl)) (hw _ (List.mem_of_getElem? (i := 6) rfl)) (hw _ (List.mem_of_getElem? (i := 61) rfl)) EU (by decide) [(.int (0 : Int32))] [] pd_13 rfl rfl rfl rfl 0 (Nat.le_refl _) (by decide) (by decide) (by decide) (by decide) rfl fun T3 h3 v3 X3 q3 => ?_
    obtain ⟨rfl, rfl⟩ := q3
    refine w_bipush X3 (pc' := 27) (57 : Int32) d5_25 rfl rfl ?_
    refine w_icmp_gt X3 36 30 d5_27 (by decide) rfl rfl (fun hc27 => ?_) (fun hc27 => ?_)
    · skip
      refine w_iloadN X3 (pc' := 37) d5_36 rfl rfl ?_
      refine w_iloadN X3 (pc' := 38) d5_37 rfl rfl ?_
      refine w_isub X3 (pc' := 39) d5_38 rfl ?_
      exact w_ireturn X3 d5_39 ⟨by rw [own_rn2 hc27] <;> decide, rfl⟩ (by decide) (by decide)
    · skip
      have hb0 := hc27
      refine w_iinc X3 (pc' := 33) ((0 : Int32) + (1 : Int32)) (l' := #[.val (.ref a1), .val (.int (0 : Int32)), .val (.int ((0 : Int32) + (1 : Int32)))]) d5_30 rfl rfl rfl rfl ?_
      refine w_goto X3 (pc' := 2) d5_33 (by decide) rfl ?_
      rw [show ((0 : Int32) + (1 : Int32)) = (1 : Int32) from by decide]
      show Go p e below _ (T3.setTop (mkF m 2 #[.val (.ref a1), .val (.int (0 : Int32)), .val (.int (1 : Int32))] []))
      refine w_iloadN X3 (pc' := 3) d5_2 rfl rfl ?_
      refine w_aloadN X3 (pc' := 4) d5_3 rfl rfl rfl ?_
      refine w_virtualV X3 (pc' := 7) d5_4 (rm_len4 hw (h0 := h0) (sd_size X3) a1 S_c hzc S_f hfm S_a S_h S_l R0 R1 R2 R3 U) (hw _ (List.mem_of_getElem? (i := 30) rfl)) (hw _ (List.mem_of_getElem? (i := 31) rfl)) (hw _ (List.mem_of_getElem? (i := 33) rfl)) (hw _ (List.mem_of_getElem? (i := 32) rfl)) (hw _ (List.mem_of_getElem? (i := 6) rfl)) (hw _ (List.mem_of_getElem? (i := 34) rfl)) EU (by decide) [] [(.int (1 : Int32))] pd_6 rfl rfl rfl rfl 1 (Nat.le_refl _) (by decide) (by decide) (by decide) (by decide) rfl fun T4 h4 v4 X4 q4 => ?_
      obtain ⟨rfl, rfl⟩ := q4
      refine w_icmp_ge X4 36 10 d5_7 (by decide) rfl rfl (fun hc7 => by exfalso; revert hc7; decide) (fun hc7 => ?_)
      refine w_aloadN X4 (pc' := 11) d5_10 rfl rfl rfl ?_
      refine w_iloadN X4 (pc' := 12) d5_11 rfl rfl ?_
      refine w_virtualV X4 (pc' := 15) d5_12 (rm_ch4_1 hw (h0 := h0) (sd_size X4) a1 S_c hzc S_f hfm S_a S_h S_l R0 R1 R2 R3 U) (hw _ (List.mem_of_getElem? (i := 57) rfl)) (hw _ (List.mem_of_getElem? (i := 58) rfl)) (hw _ (List.mem_of_getElem? (i := 60) rfl)) (hw _ (List.mem_of_getElem? (i := 59) rfl)) (hw _ (List.mem_of_getElem? (i := 6) rfl)) (hw _ (List.mem_of_getElem? (i := 61) rfl)) EU (by decide) [(.int (1 : Int32))] [] pd_13 rfl rfl rfl rfl 0 (Nat.le_refl _) (by decide) (by decide) (by decide) (by decide) rfl fun T5 h5 v5 X5 q5 => ?_
      obtain ⟨rfl, rfl⟩ := q5
      refine w_bipush X5 (pc' := 17) (48 : Int32) d5_15 rfl rfl ?_
      refine w_icmp_lt X5 36 20 d5_17 (by decide) rfl rfl (fun hc17 => ?_) (fun hc17 => ?_)
      · skip
        refine w_iloadN X5 (pc' := 37) d5_36 rfl rfl ?_
        refine w_iloadN X5 (pc' := 38) d5_37 rfl rfl ?_
        refine w_isub X5 (pc' := 39) d5_38 rfl ?_
        exact w_ireturn X5 d5_39 ⟨by rw [own_rp ha0 hb0, own_rn1 hc17] <;> decide, rfl⟩ (by decide) (by decide)
      · skip
        have ha1 := hc17
        refine w_aloadN X5 (pc' := 21) d5_20 rfl rfl rfl ?_
        refine w_iloadN X5 (pc' := 22) d5_21 rfl rfl ?_
        refine w_virtualV X5 (pc' := 25) d5_22 (rm_ch4_1 hw (h0 := h0) (sd_size X5) a1 S_c hzc S_f hfm S_a S_h S_l R0 R1 R2 R3 U) (hw _ (List.mem_of_getElem? (i := 57) rfl)) (hw _ (List.mem_of_getElem? (i := 58) rfl)) (hw _ (List.mem_of_getElem? (i := 60) rfl)) (hw _ (List.mem_of_getElem? (i := 59) rfl)) (hw _ (List.mem_of_getElem? (i := 6) rfl)) (hw _ (List.mem_of_getElem? (i := 61) rfl)) EU (by decide) [(.int (1 : Int32))] [] pd_13 rfl rfl rfl rfl 0 (Nat.le_refl _) (by decide) (by decide) (by decide) (by decide) rfl fun T6 h6 v6 X6 q6 => ?_
        obtain ⟨rfl, rfl⟩ := q6
        refine w_bipush X6 (pc' := 27) (57 : Int32) d5_25 rfl rfl ?_
        refine w_icmp_gt X6 36 30 d5_27 (by decide) rfl rfl (fun hc27 => ?_) (fun hc27 => ?_)
        · skip
          refine w_iloadN X6 (pc' := 37) d5_36 rfl rfl ?_
          refine w_iloadN X6 (pc' := 38) d5_37 rfl rfl ?_
          refine w_isub X6 (pc' := 39) d5_38 rfl ?_
          exact w_ireturn X6 d5_39 ⟨by rw [own_rp ha0 hb0, own_rn2 hc27] <;> decide, rfl⟩ (by decide) (by decide)
        · skip
          have hb1 := hc27
          refine w_iinc X6 (pc' := 33) ((1 : Int32) + (1 : Int32)) (l' := #[.val (.ref a1), .val (.int (0 : Int32)), .val (.int ((1 : Int32) + (1 : Int32)))]) d5_30 rfl rfl rfl rfl ?_
          refine w_goto X6 (pc' := 2) d5_33 (by decide) rfl ?_
          rw [show ((1 : Int32) + (1 : Int32)) = (2 : Int32) from by decide]
          show Go p e below _ (T6.setTop (mkF m 2 #[.val (.ref a1), .val (.int (0 : Int32)), .val (.int (2 : Int32))] []))
          refine w_iloadN X6 (pc' := 3) d5_2 rfl rfl ?_
          refine w_aloadN X6 (pc' := 4) d5_3 rfl rfl rfl ?_
          refine w_virtualV X6 (pc' := 7) d5_4 (rm_len4 hw (h0 := h0) (sd_size X6) a1 S_c hzc S_f hfm S_a S_h S_l R0 R1 R2 R3 U) (hw _ (List.mem_of_getElem? (i := 30) rfl)) (hw _ (List.mem_of_getElem? (i := 31) rfl)) (hw _ (List.mem_of_getElem? (i := 33) rfl)) (hw _ (List.mem_of_getElem? (i := 32) rfl)) (hw _ (List.mem_of_getElem? (i := 6) rfl)) (hw _ (List.mem_of_getElem? (i := 34) rfl)) EU (by decide) [] [(.int (2 : Int32))] pd_6 rfl rfl rfl rfl 1 (Nat.le_refl _) (by decide) (by decide) (by decide) (by decide) rfl fun T7 h7 v7 X7 q7 => ?_
          obtain ⟨rfl, rfl⟩ := q7
          refine w_icmp_ge X7 36 10 d5_7 (by decide) rfl rfl (fun hc7 => by exfalso; revert hc7; decide) (fun hc7 => ?_)
          refine w_aloadN X7 (pc' := 11) d5_10 rfl rfl rfl ?_
          refine w_iloadN X7 (pc' := 12) d5_11 rfl rfl ?_
          refine w_virtualV X7 (pc' := 15) d5_12 (rm_ch4_2 hw (h0 := h0) (sd_size X7) a1 S_c hzc S_f hfm S_a S_h S_l R0 R1 R2 R3 U) (hw _ (List.mem_of_getElem? (i := 57) rfl)) (hw _ (List.mem_of_getElem? (i := 58) rfl)) (hw _ (List.mem_of_getElem? (i := 60) rfl)) (hw _ (List.mem_of_getElem? (i := 59) rfl)) (hw _ (List.mem_of_getElem? (i := 6) rfl)) (hw _ (List.mem_of_getElem? (i := 61) rfl)) EU (by decide) [(.int (2 : Int32))] [] pd_13 rfl rfl rfl rfl 0 (Nat.le_refl _) (by decide) (by decide) (by decide) (by decide) rfl fun T8 h8 v8 X8 q8 => ?_
          obtain ⟨rfl, rfl⟩ := q8
          refine w_bipush X8 (pc' := 17) (48 : Int32) d5_15 rfl rfl ?_
          refine w_icmp_lt X8 36 20 d5_17 (by decide) rfl rfl (fun hc17 => ?_) (fun hc17 => ?_)
          · skip
            refine w_iloadN X8 (pc' := 37) d5_36 rfl rfl ?_
            refine w_iloadN X8 (pc' := 38) d5_37 rfl rfl ?_
            refine w_isub X8 (pc' := 39) d5_38 rfl ?_
            exact w_ireturn X8 d5_39 ⟨by rw [own_rp ha0 hb0, own_rp ha1 hb1, own_rn1 hc17] <;> decide, rfl⟩ (by decide) (by decide)
          · skip
            have ha2 := hc17
            refine w_aloadN X8 (pc' := 21) d5_20 rfl rfl rfl ?_
            refine w_iloadN X8 (pc' := 22) d5_21 rfl rfl ?_
            refine w_virtualV X8 (pc' := 25) d5_22 (rm_ch4_2 hw (h0 := h0) (sd_size X8) a1 S_c hzc S_f hfm S_a S_h S_l R0 R1 R2 R3 U) (hw _ (List.mem_of_getElem? (i := 57) rfl)) (hw _ (List.mem_of_getElem? (i := 58) rfl)) (hw _ (List.mem_of_getElem? (i := 60) rfl)) (hw _ (List.mem_of_getElem? (i := 59) rfl)) (hw _ (List.mem_of_getElem? (i := 6) rfl)) (hw _ (List.mem_of_getElem? (i := 61) rfl)) EU (by decide) [(.int (2 : Int32))] [] pd_13 rfl rfl rfl rfl 0 (Nat.le_refl _) (by decide) (by decide) (by decide) (by decide) rfl fun T9 h9 v9 X9 q9 => ?_
            obtain ⟨rfl, rfl⟩ := q9
            refine w_bipush X9 (pc' := 27) (57 : Int32) d5_25 rfl rfl ?_
            refine w_icmp_gt X9 36 30 d5_27 (by decide) rfl rfl (fun hc27 => ?_) (fun hc27 => ?_)
            · skip
              refine w_iloadN X9 (pc' := 37) d5_36 rfl rfl ?_
              refine w_iloadN X9 (pc' := 38) d5_37 rfl rfl ?_
              refine w_isub X9 (pc' := 39) d5_38 rfl ?_
              exact w_ireturn X9 d5_39 ⟨by rw [own_rp ha0 hb0, own_rp ha1 hb1, own_rn2 hc27] <;> decide, rfl⟩ (by decide) (by decide)
            · skip
              have hb2 := hc27
              refine w_iinc X9 (pc' := 33) ((2 : Int32) + (1 : Int32)) (l' := #[.val (.ref a1), .val (.int (0 : Int32)), .val (.int ((2 : Int32) + (1 : Int32)))]) d5_30 rfl rfl rfl rfl ?_
              refine w_goto X9 (pc' := 2) d5_33 (by decide) rfl ?_
              rw [show ((2 : Int32) + (1 : Int32)) = (3 : Int32) from by decide]
              show Go p e below _ (T9.setTop (mkF m 2 #[.val (.ref a1), .val (.int (0 : Int32)), .val (.int (3 : Int32))] []))
              refine w_iloadN X9 (pc' := 3) d5_2 rfl rfl ?_
              refine w_aloadN X9 (pc' := 4) d5_3 rfl rfl rfl ?_
              refine w_virtualV X9 (pc' := 7) d5_4 (rm_len4 hw (h0 := h0) (sd_size X9) a1 S_c hzc S_f hfm S_a S_h S_l R0 R1 R2 R3 U) (hw _ (List.mem_of_getElem? (i := 30) rfl)) (hw _ (List.mem_of_getElem? (i := 31) rfl)) (hw _ (List.mem_of_getElem? (i := 33) rfl)) (hw _ (List.mem_of_getElem? (i := 32) rfl)) (hw _ (List.mem_of_getElem? (i := 6) rfl)) (hw _ (List.mem_of_getElem? (i := 34) rfl)) EU (by decide) [] [(.int (3 : Int32))] pd_6 rfl rfl rfl rfl 1 (Nat.le_refl _) (by decide) (by decide) (by decide) (by decide) rfl fun T10 h10 v10 X10 q10 => ?_
              obtain ⟨rfl, rfl⟩ := q10
              refine w_icmp_ge X10 36 10 d5_7 (by decide) rfl rfl (fun hc7 => by exfalso; revert hc7; decide) (fun hc7 => ?_)
              refine w_aloadN X10 (pc' := 11) d5_10 rfl rfl rfl ?_
              refine w_iloadN X10 (pc' := 12) d5_11 rfl rfl ?_
              refine w_virtualV X10 (pc' := 15) d5_12 (rm_ch4_3 hw (h0 := h0) (sd_size X10) a1 S_c hzc S_f hfm S_a S_h S_l R0 R1 R2 R3 U) (hw _ (List.mem_of_getElem? (i := 57) rfl)) (hw _ (List.mem_of_getElem? (i := 58) rfl)) (hw _ (List.mem_of_getElem? (i := 60) rfl)) (hw _ (List.mem_of_getElem? (i := 59) rfl)) (hw _ (List.mem_of_getElem? (i := 6) rfl)) (hw _ (List.mem_of_getElem? (i := 61) rfl)) EU (by decide) [(.int (3 : Int32))] [] pd_13 rfl rfl rfl rfl 0 (Nat.le_refl _) (by decide) (by decide) (by decide) (by decide) rfl fun T11 h11 v11 X11 q11 => ?_
              obtain ⟨rfl, rfl⟩ := q11
              refine w_bipush X11 (pc' := 17) (48 : Int32) d5_15 rfl rfl ?_
              refine w_icmp_lt X11 36 20 d5_17 (by decide) rfl rfl (fun hc17 => ?_) (fun hc17 => ?_)
              · skip
                refine w_iloadN X11 (pc' := 37) d5_36 rfl rfl ?_
                refine w_iloadN X11 (pc' := 38) d5_37 rfl rfl ?_
                refine w_isub X11 (pc' := 39) d5_38 rfl ?_
                exact w_ireturn X11 d5_39 ⟨by rw [own_rp ha0 hb0, own_rp ha1 hb1, own_rp ha2 hb2, own_rn1 hc17] <;> decide, rfl⟩ (by decide) (by decide)
              · skip
                have ha3 := hc17
                refine w_aloadN X11 (pc' := 21) d5_20 rfl rfl rfl ?_
                refine w_iloadN X11 (pc' := 22) d5_21 rfl rfl ?_
                refine w_virtualV X11 (pc' := 25) d5_22 (rm_ch4_3 hw (h0 := h0) (sd_size X11) a1 S_c hzc S_f hfm S_a S_h S_l R0 R1 R2 R3 U) (hw _ (List.mem_of_getElem? (i := 57) rfl)) (hw _ (List.mem_of_getElem? (i := 58) rfl)) (hw _ (List.mem_of_getElem? (i := 60) rfl)) (hw _ (List.mem_of_getElem? (i := 59) rfl)) (hw _ (List.mem_of_getElem? (i := 6) rfl)) (hw _ (List.mem_of_getElem? (i := 61) rfl)) EU (by decide) [(.int (3 : Int32))] [] pd_13 rfl rfl rfl rfl 0 (Nat.le_refl _) (by decide) (by decide) (by decide) (by decide) rfl fun T12 h12 v12 X12 q12 => ?_
                obtain ⟨rfl, rfl⟩ := q12
                refine w_bipush X12 (pc' := 27) (57 : Int32) d5_25 rfl rfl ?_
                refine w_icmp_gt X12 36 30 d5_27 (by decide) rfl rfl (fun hc27 => ?_) (fun hc27 => ?_)
                · skip
                  refine w_iloadN X12 (pc' := 37) d5_36 rfl rfl ?_
                  refine w_iloadN X12 (pc' := 38) d5_37 rfl rfl ?_
                  refine w_isub X12 (pc' := 39) d5_38 rfl ?_
                  exact w_ireturn X12 d5_39 ⟨by rw [own_rp ha0 hb0, own_rp ha1 hb1, own_rp ha2 hb2, own_rn2 hc27] <;> decide, rfl⟩ (by decide) (by decide)
                · skip
                  have hb3 := hc27
                  refine w_iinc X12 (pc' := 33) ((3 : Int32) + (1 : Int32)) (l' := #[.val (.ref a1), .val (.int (0 : Int32)), .val (.int ((3 : Int32) + (1 : Int32)))]) d5_30 rfl rfl rfl rfl ?_
                  refine w_goto X12 (pc' := 2) d5_33 (by decide) rfl ?_
                  rw [show ((3 : Int32) + (1 : Int32)) = (4 : Int32) from by decide]
                  show Go p e below _ (T12.setTop (mkF m 2 #[.val (.ref a1), .val (.int (0 : Int32)), .val (.int (4 : Int32))] []))
                  refine w_iloadN X12 (pc' := 3) d5_2 rfl rfl ?_
                  refine w_aloadN X12 (pc' := 4) d5_3 rfl rfl rfl ?_
                  refine w_virtualV X12 (pc' := 7) d5_4 (rm_len4 hw (h0 := h0) (sd_size X12) a1 S_c hzc S_f hfm S_a S_h S_l R0 R1 R2 R3 U) (hw _ (List.mem_of_getElem? (i := 30) rfl)) (hw _ (List.mem_of_getElem? (i := 31) rfl)) (hw _ (List.mem_of_getElem? (i := 33) rfl)) (hw _ (List.mem_of_getElem? (i := 32) rfl)) (hw _ (List.mem_of_getElem? (i := 6) rfl)) (hw _ (List.mem_of_getElem? (i := 34) rfl)) EU (by decide) [] [(.int (4 : Int32))] pd_6 rfl rfl rfl rfl 1 (Nat.le_refl _) (by decide) (by decide) (by decide) (by decide) rfl fun T13 h13 v13 X13 q13 => ?_
                  obtain ⟨rfl, rfl⟩ := q13
                  refine w_icmp_ge X13 36 10 d5_7 (by decide) rfl rfl (fun hc7 => ?_) (fun hc7 => by exfalso; revert hc7; decide)
                  refine w_iloadN X13 (pc' := 37) d5_36 rfl rfl ?_
                  refine w_iloadN X13 (pc' := 38) d5_37 rfl rfl ?_
                  refine w_isub X13 (pc' := 39) d5_38 rfl ?_
                  exact w_ireturn X13 d5_39 ⟨by rw [own_rp ha0 hb0, own_rp ha1 hb1, own_rp ha2 hb2, own_rp ha3 hb3, show own_run [] = 0 from rfl] <;> decide, rfl⟩ (by decide) (by decide)
set_option maxRecDepth 65536 in
set_option maxHeartbeats 40000000 in
theorem rm_dg4_1 {l : Launch} {Z : State} {a0 : Array Value} (hw : ∀ d ∈ tables_1, d.before a0 Z = true) {n0 : Nat} {h0 : Heap} (Z0 : n0 ≤ h0.size) (a1 : Addr) {zc : Int32} (S_c : Sta Z h0 "java/lang/String" "COMPACT_STRINGS" "Z" (.int zc)) (hzc : ¬ zc = (0 : Int32)) {fm : Value} (S_f : Sta Z h0 "jdk/internal/util/Preconditions" "SIOOBE_FORMATTER" "Ljava/util/function/BiFunction;" fm) (hfm : fm.isRef = true) (S_a : Sta Z h0 "java/lang/StringUTF16" "$assertionsDisabled" "Z" (.int 1)) (S_h : Sta Z h0 "java/lang/StringUTF16" "HI_BYTE_SHIFT" "I" (.int 0)) (S_l : Sta Z h0 "java/lang/StringUTF16" "LO_BYTE_SHIFT" "I" (.int 8)) {c0 c1 c2 c3 : Int32} (R0 : own_R c0) (R1 : own_R c1) (R2 : own_R c2) (R3 : own_R c3) (U : StrU Z h0 a1 [c0, c1, c2, c3]) :
    Con l Z n0 (⟨"com/example/admitwire/admitwire/core/Timestamp", "digits", "(Ljava/lang/String;I)I"⟩ : MethodName) prog_53_method_11_code 3 (some .int) ({ frames := 5, cells := 0, slots := 0, locals := 66 } : Room) #[(.ref a1), (.int (1 : Int32))] h0 (Val (fun v h => v = .int (own_run [c1, c2, c3]) ∧ h0 = h)) := by
  refine con_intro pn_5 Z0 (fr := fun m => mkF m 0 #[.val (.ref a1), .val (.int (1 : Int32)), .unset] []) (fun m => by first | (simp [entryFrame, mkF, argsToLocals, Value.category]; done) | rfl) ?_
  intro p e s m below s₁ hs0 X0
  have EU := U.exa
  refine w_iloadN X0 (pc' := 1) d5_0 rfl rfl ?_
  refine w_istoreN X0 (pc' := 2) (l' := #[.val (.ref a1), .val (.int (1 : Int32)), .val (.int (1 : Int32))]) d5_1 rfl rfl ?_
  refine w_iloadN X0 (pc' := 3) d5_2 rfl rfl ?_
  refine w_aloadN X0 (pc' := 4) d5_3 rfl rfl rfl ?_
  refine w_virtualV X0 (pc' := 7) d5_4 (rm_len4 hw (h0 := h0) (sd_size X0) a1 S_c hzc S_f hfm S_a S_h S_l R0 R1 R2 R3 U) (hw _ (List.mem_of_getElem? (i := 30) rfl)) (hw _ (List.mem_of_getElem? (i := 31) rfl)) (hw _ (List.mem_of_getElem? (i := 33) rfl)) (hw _ (List.mem_of_getElem? (i := 32) rfl)) (hw _ (List.mem_of_getElem? (i := 6) rfl)) (hw _ (List.mem_of_getElem? (i := 34) rfl)) EU (by decide) [] [(.int (1 : Int32))] pd_6 rfl rfl rfl rfl 1 (Nat.le_refl _) (by decide) (by decide) (by decide) (by decide) rfl fun T1 h1 v1 X1 q1 => ?_
  obtain ⟨rfl, rfl⟩ := q1
  refine w_icmp_ge X1 36 10 d5_7 (by decide) rfl rfl (fun hc7 => by exfalso; revert hc7; decide) (fun hc7 => ?_)
  refine w_aloadN X1 (pc' := 11) d5_10 rfl rfl rfl ?_
  refine w_iloadN X1 (pc' := 12) d5_11 rfl rfl ?_
  refine w_virtualV X1 (pc' := 15) d5_12 (rm_ch4_1 hw (h0 := h0) (sd_size X1) a1 S_c hzc S_f hfm S_a S_h S_l R0 R1 R2 R3 U) (hw _ (List.mem_of_getElem? (i := 57) rfl)) (hw _ (List.mem_of_getElem? (i := 58) rfl)) (hw _ (List.mem_of_getElem? (i := 60) rfl)) (hw _ (List.mem_of_getElem? (i := 59) rfl)) (hw _ (List.mem_of_getElem? (i := 6) rfl)) (hw _ (List.mem_of_getElem? (i := 61) rfl)) EU (by decide) [(.int (1 : Int32))] [] pd_13 rfl rfl rfl rfl 0 (Nat.le_refl _) (by decide) (by decide) (by decide) (by decide) rfl fun T2 h2 v2 X2 q2 => ?_
  obtain ⟨rfl, rfl⟩ := q2
  refine w_bipush X2 (pc' := 17) (48 : Int32) d5_15 rfl rfl ?_
  refine w_icmp_lt X2 36 20 d5_17 (by decide) rfl rfl (fun hc17 => ?_) (fun hc17 => ?_)
  · skip
    refine w_iloadN X2 (pc' := 37) d5_36 rfl rfl ?_
    refine w_iloadN X2 (pc' := 38) d5_37 rfl rfl ?_
    refine w_isub X2 (pc' := 39) d5_38 rfl ?_
    exact w_ireturn X2 d5_39 ⟨by rw [own_rn1 hc17] <;> decide, rfl⟩ (by decide) (by decide)
  · skip
    have ha1 := hc17
    refine w_aloadN X2 (pc' := 21) d5_20 rfl rfl rfl ?_
    refine w_iloadN X2 (pc' := 22) d5_21 rfl rfl ?_
    refine w_virtualV X2 (pc' := 25) d5_22 (rm_ch4_1 hw (h0 := h0) (sd_size X2) a1 S_c hzc S_f hfm S_a S_h S_l R0 R1 R2 R3 U) (hw _ (List.mem_of_getElem? (i := 57) rfl)) (hw _ (List.mem_of_getElem? (i := 58) rfl)) (hw _ (List.mem_of_getElem? (i := 60) rfl)) (hw _ (List.mem_of_getElem? (i := 59) rfl)) (hw _ (List.mem_of_getElem? (i := 6) rfl)) (hw _ (List.mem_of_getElem? (i := 61) rfl)) EU (by decide) [(.int (1 : Int32))] [] pd_13 rfl rfl rfl rfl 0 (Nat.le_refl _) (by decide) (by decide) (by decide) (by decide) rfl fun T3 h3 v3 X3 q3 => ?_
    obtain ⟨rfl, rfl⟩ := q3
    refine w_bipush X3 (pc' := 27) (57 : Int32) d5_25 rfl rfl ?_
    refine w_icmp_gt X3 36 30 d5_27 (by decide) rfl rfl (fun hc27 => ?_) (fun hc27 => ?_)
    · skip
      refine w_iloadN X3 (pc' := 37) d5_36 rfl rfl ?_
      refine w_iloadN X3 (pc' := 38) d5_37 rfl rfl ?_
      refine w_isub X3 (pc' := 39) d5_38 rfl ?_
      exact w_ireturn X3 d5_39 ⟨by rw [own_rn2 hc27] <;> decide, rfl⟩ (by decide) (by decide)
    · skip
      have hb1 := hc27
      refine w_iinc X3 (pc' := 33) ((1 : Int32) + (1 : Int32)) (l' := #[.val (.ref a1), .val (.int (1 : Int32)), .val (.int ((1 : Int32) + (1 : Int32)))]) d5_30 rfl rfl rfl rfl ?_
      refine w_goto X3 (pc' := 2) d5_33 (by decide) rfl ?_
      rw [show ((1 : Int32) + (1 : Int32)) = (2 : Int32) from by decide]
      show Go p e below _ (T3.setTop (mkF m 2 #[.val (.ref a1), .val (.int (1 : Int32)), .val (.int (2 : Int32))] []))
      refine w_iloadN X3 (pc' := 3) d5_2 rfl rfl ?_
      refine w_aloadN X3 (pc' := 4) d5_3 rfl rfl rfl ?_
      refine w_virtualV X3 (pc' := 7) d5_4 (rm_len4 hw (h0 := h0) (sd_size X3) a1 S_c hzc S_f hfm S_a S_h S_l R0 R1 R2 R3 U) (hw _ (List.mem_of_getElem? (i := 30) rfl)) (hw _ (List.mem_of_getElem? (i := 31) rfl)) (hw _ (List.mem_of_getElem? (i := 33) rfl)) (hw _ (List.mem_of_getElem? (i := 32) rfl)) (hw _ (List.mem_of_getElem? (i := 6) rfl)) (hw _ (List.mem_of_getElem? (i := 34) rfl)) EU (by decide) [] [(.int (2 : Int32))] pd_6 rfl rfl rfl rfl 1 (Nat.le_refl _) (by decide) (by decide) (by decide) (by decide) rfl fun T4 h4 v4 X4 q4 => ?_
      obtain ⟨rfl, rfl⟩ := q4
      refine w_icmp_ge X4 36 10 d5_7 (by decide) rfl rfl (fun hc7 => by exfalso; revert hc7; decide) (fun hc7 => ?_)
      refine w_aloadN X4 (pc' := 11) d5_10 rfl rfl rfl ?_
      refine w_iloadN X4 (pc' := 12) d5_11 rfl rfl ?_
      refine w_virtualV X4 (pc' := 15) d5_12 (rm_ch4_2 hw (h0 := h0) (sd_size X4) a1 S_c hzc S_f hfm S_a S_h S_l R0 R1 R2 R3 U) (hw _ (List.mem_of_getElem? (i := 57) rfl)) (hw _ (List.mem_of_getElem? (i := 58) rfl)) (hw _ (List.mem_of_getElem? (i := 60) rfl)) (hw _ (List.mem_of_getElem? (i := 59) rfl)) (hw _ (List.mem_of_getElem? (i := 6) rfl)) (hw _ (List.mem_of_getElem? (i := 61) rfl)) EU (by decide) [(.int (2 : Int32))] [] pd_13 rfl rfl rfl rfl 0 (Nat.le_refl _) (by decide) (by decide) (by decide) (by decide) rfl fun T5 h5 v5 X5 q5 => ?_
      obtain ⟨rfl, rfl⟩ := q5
      refine w_bipush X5 (pc' := 17) (48 : Int32) d5_15 rfl rfl ?_
      refine w_icmp_lt X5 36 20 d5_17 (by decide) rfl rfl (fun hc17 => ?_) (fun hc17 => ?_)
      · skip
        refine w_iloadN X5 (pc' := 37) d5_36 rfl rfl ?_
        refine w_iloadN X5 (pc' := 38) d5_37 rfl rfl ?_
        refine w_isub X5 (pc' := 39) d5_38 rfl ?_
        exact w_ireturn X5 d5_39 ⟨by rw [own_rp ha1 hb1, own_rn1 hc17] <;> decide, rfl⟩ (by decide) (by decide)
      · skip
        have ha2 := hc17
        refine w_aloadN X5 (pc' := 21) d5_20 rfl rfl rfl ?_
        refine w_iloadN X5 (pc' := 22) d5_21 rfl rfl ?_
        refine w_virtualV X5 (pc' := 25) d5_22 (rm_ch4_2 hw (h0 := h0) (sd_size X5) a1 S_c hzc S_f hfm S_a S_h S_l R0 R1 R2 R3 U) (hw _ (List.mem_of_getElem? (i := 57) rfl)) (hw _ (List.mem_of_getElem? (i := 58) rfl)) (hw _ (List.mem_of_getElem? (i := 60) rfl)) (hw _ (List.mem_of_getElem? (i := 59) rfl)) (hw _ (List.mem_of_getElem? (i := 6) rfl)) (hw _ (List.mem_of_getElem? (i := 61) rfl)) EU (by decide) [(.int (2 : Int32))] [] pd_13 rfl rfl rfl rfl 0 (Nat.le_refl _) (by decide) (by decide) (by decide) (by decide) rfl fun T6 h6 v6 X6 q6 => ?_
        obtain ⟨rfl, rfl⟩ := q6
        refine w_bipush X6 (pc' := 27) (57 : Int32) d5_25 rfl rfl ?_
        refine w_icmp_gt X6 36 30 d5_27 (by decide) rfl rfl (fun hc27 => ?_) (fun hc27 => ?_)
        · skip
          refine w_iloadN X6 (pc' := 37) d5_36 rfl rfl ?_
          refine w_iloadN X6 (pc' := 38) d5_37 rfl rfl ?_
          refine w_isub X6 (pc' := 39) d5_38 rfl ?_
          exact w_ireturn X6 d5_39 ⟨by rw [own_rp ha1 hb1, own_rn2 hc27] <;> decide, rfl⟩ (by decide) (by decide)
        · skip
          have hb2 := hc27
          refine w_iinc X6 (pc' := 33) ((2 : Int32) + (1 : Int32)) (l' := #[.val (.ref a1), .val (.int (1 : Int32)), .val (.int ((2 : Int32) + (1 : Int32)))]) d5_30 rfl rfl rfl rfl ?_
          refine w_goto X6 (pc' := 2) d5_33 (by decide) rfl ?_
          rw [show ((2 : Int32) + (1 : Int32)) = (3 : Int32) from by decide]
          show Go p e below _ (T6.setTop (mkF m 2 #[.val (.ref a1), .val (.int (1 : Int32)), .val (.int (3 : Int32))] []))
          refine w_iloadN X6 (pc' := 3) d5_2 rfl rfl ?_
          refine w_aloadN X6 (pc' := 4) d5_3 rfl rfl rfl ?_
          refine w_virtualV X6 (pc' := 7) d5_4 (rm_len4 hw (h0 := h0) (sd_size X6) a1 S_c hzc S_f hfm S_a S_h S_l R0 R1 R2 R3 U) (hw _ (List.mem_of_getElem? (i := 30) rfl)) (hw _ (List.mem_of_getElem? (i := 31) rfl)) (hw _ (List.mem_of_getElem? (i := 33) rfl)) (hw _ (List.mem_of_getElem? (i := 32) rfl)) (hw _ (List.mem_of_getElem? (i := 6) rfl)) (hw _ (List.mem_of_getElem? (i := 34) rfl)) EU (by decide) [] [(.int (3 : Int32))] pd_6 rfl rfl rfl rfl 1 (Nat.le_refl _) (by decide) (by decide) (by decide) (by decide) rfl fun T7 h7 v7 X7 q7 => ?_
          obtain ⟨rfl, rfl⟩ := q7
          refine w_icmp_ge X7 36 10 d5_7 (by decide) rfl rfl (fun hc7 => by exfalso; revert hc7; decide) (fun hc7 => ?_)
          refine w_aloadN X7 (pc' := 11) d5_10 rfl rfl rfl ?_
          refine w_iloadN X7 (pc' := 12) d5_11 rfl rfl ?_
          refine w_virtualV X7 (pc' := 15) d5_12 (rm_ch4_3 hw (h0 := h0) (sd_size X7) a1 S_c hzc S_f hfm S_a S_h S_l R0 R1 R2 R3 U) (hw _ (List.mem_of_getElem? (i := 57) rfl)) (hw _ (List.mem_of_getElem? (i := 58) rfl)) (hw _ (List.mem_of_getElem? (i := 60) rfl)) (hw _ (List.mem_of_getElem? (i := 59) rfl)) (hw _ (List.mem_of_getElem? (i := 6) rfl)) (hw _ (List.mem_of_getElem? (i := 61) rfl)) EU (by decide) [(.int (3 : Int32))] [] pd_13 rfl rfl rfl rfl 0 (Nat.le_refl _) (by decide) (by decide) (by decide) (by decide) rfl fun T8 h8 v8 X8 q8 => ?_
          obtain ⟨rfl, rfl⟩ := q8
          refine w_bipush X8 (pc' := 17) (48 : Int32) d5_15 rfl rfl ?_
          refine w_icmp_lt X8 36 20 d5_17 (by decide) rfl rfl (fun hc17 => ?_) (fun hc17 => ?_)
          · skip
            refine w_iloadN X8 (pc' := 37) d5_36 rfl rfl ?_
            refine w_iloadN X8 (pc' := 38) d5_37 rfl rfl ?_
            refine w_isub X8 (pc' := 39) d5_38 rfl ?_
            exact w_ireturn X8 d5_39 ⟨by rw [own_rp ha1 hb1, own_rp ha2 hb2, own_rn1 hc17] <;> decide, rfl⟩ (by decide) (by decide)
          · skip
            have ha3 := hc17
            refine w_aloadN X8 (pc' := 21) d5_20 rfl rfl rfl ?_
            refine w_iloadN X8 (pc' := 22) d5_21 rfl rfl ?_
            refine w_virtualV X8 (pc' := 25) d5_22 (rm_ch4_3 hw (h0 := h0) (sd_size X8) a1 S_c hzc S_f hfm S_a S_h S_l R0 R1 R2 R3 U) (hw _ (List.mem_of_getElem? (i := 57) rfl)) (hw _ (List.mem_of_getElem? (i := 58) rfl)) (hw _ (List.mem_of_getElem? (i := 60) rfl)) (hw _ (List.mem_of_getElem? (i := 59) rfl)) (hw _ (List.mem_of_getElem? (i := 6) rfl)) (hw _ (List.mem_of_getElem? (i := 61) rfl)) EU (by decide) [(.int (3 : Int32))] [] pd_13 rfl rfl rfl rfl 0 (Nat.le_refl _) (by decide) (by decide) (by decide) (by decide) rfl fun T9 h9 v9 X9 q9 => ?_
            obtain ⟨rfl, rfl⟩ := q9
            refine w_bipush X9 (pc' := 27) (57 : Int32) d5_25 rfl rfl ?_
            refine w_icmp_gt X9 36 30 d5_27 (by decide) rfl rfl (fun hc27 => ?_) (fun hc27 => ?_)
            · skip
              refine w_iloadN X9 (pc' := 37) d5_36 rfl rfl ?_
              refine w_iloadN X9 (pc' := 38) d5_37 rfl rfl ?_
              refine w_isub X9 (pc' := 39) d5_38 rfl ?_
              exact w_ireturn X9 d5_39 ⟨by rw [own_rp ha1 hb1, own_rp ha2 hb2, own_rn2 hc27] <;> decide, rfl⟩ (by decide) (by decide)
            · skip
              have hb3 := hc27
              refine w_iinc X9 (pc' := 33) ((3 : Int32) + (1 : Int32)) (l' := #[.val (.ref a1), .val (.int (1 : Int32)), .val (.int ((3 : Int32) + (1 : Int32)))]) d5_30 rfl rfl rfl rfl ?_
              refine w_goto X9 (pc' := 2) d5_33 (by decide) rfl ?_
              rw [show ((3 : Int32) + (1 : Int32)) = (4 : Int32) from by decide]
              show Go p e below _ (T9.setTop (mkF m 2 #[.val (.ref a1), .val (.int (1 : Int32)), .val (.int (4 : Int32))] []))
              refine w_iloadN X9 (pc' := 3) d5_2 rfl rfl ?_
              refine w_aloadN X9 (pc' := 4) d5_3 rfl rfl rfl ?_
              refine w_virtualV X9 (pc' := 7) d5_4 (rm_len4 hw (h0 := h0) (sd_size X9) a1 S_c hzc S_f hfm S_a S_h S_l R0 R1 R2 R3 U) (hw _ (List.mem_of_getElem? (i := 30) rfl)) (hw _ (List.mem_of_getElem? (i := 31) rfl)) (hw _ (List.mem_of_getElem? (i := 33) rfl)) (hw _ (List.mem_of_getElem? (i := 32) rfl)) (hw _ (List.mem_of_getElem? (i := 6) rfl)) (hw _ (List.mem_of_getElem? (i := 34) rfl)) EU (by decide) [] [(.int (4 : Int32))] pd_6 rfl rfl rfl rfl 1 (Nat.le_refl _) (by decide) (by decide) (by decide) (by decide) rfl fun T10 h10 v10 X10 q10 => ?_
              obtain ⟨rfl, rfl⟩ := q10
              refine w_icmp_ge X10 36 10 d5_7 (by decide) rfl rfl (fun hc7 => ?_) (fun hc7 => by exfalso; revert hc7; decide)
              refine w_iloadN X10 (pc' := 37) d5_36 rfl rfl ?_
              refine w_iloadN X10 (pc' := 38) d5_37 rfl rfl ?_
              refine w_isub X10 (pc' := 39) d5_38 rfl ?_
              exact w_ireturn X10 d5_39 ⟨by rw [own_rp ha1 hb1, own_rp ha2 hb2, own_rp ha3 hb3, show own_run [] = 0 from rfl] <;> decide, rfl⟩ (by decide) (by decide)
set_option maxRecDepth 65536 in
set_option maxHeartbeats 40000000 in
theorem rm_dg4_2 {l : Launch} {Z : State} {a0 : Array Value} (hw : ∀ d ∈ tables_1, d.before a0 Z = true) {n0 : Nat} {h0 : Heap} (Z0 : n0 ≤ h0.size) (a1 : Addr) {zc : Int32} (S_c : Sta Z h0 "java/lang/String" "COMPACT_STRINGS" "Z" (.int zc)) (hzc : ¬ zc = (0 : Int32)) {fm : Value} (S_f : Sta Z h0 "jdk/internal/util/Preconditions" "SIOOBE_FORMATTER" "Ljava/util/function/BiFunction;" fm) (hfm : fm.isRef = true) (S_a : Sta Z h0 "java/lang/StringUTF16" "$assertionsDisabled" "Z" (.int 1)) (S_h : Sta Z h0 "java/lang/StringUTF16" "HI_BYTE_SHIFT" "I" (.int 0)) (S_l : Sta Z h0 "java/lang/StringUTF16" "LO_BYTE_SHIFT" "I" (.int 8)) {c0 c1 c2 c3 : Int32} (R0 : own_R c0) (R1 : own_R c1) (R2 : own_R c2) (R3 : own_R c3) (U : StrU Z h0 a1 [c0, c1, c2, c3]) :
    Con l Z n0 (⟨"com/example/admitwire/admitwire/core/Timestamp", "digits", "(Ljava/lang/String;I)I"⟩ : MethodName) prog_53_method_11_code 3 (some .int) ({ frames := 5, cells := 0, slots := 0, locals := 66 } : Room) #[(.ref a1), (.int (2 : Int32))] h0 (Val (fun v h => v = .int (own_run [c2, c3]) ∧ h0 = h)) := by
  refine con_intro pn_5 Z0 (fr := fun m => mkF m 0 #[.val (.ref a1), .val (.int (2 : Int32)), .unset] []) (fun m => by first | (simp [entryFrame, mkF, argsToLocals, Value.category]; done) | rfl) ?_
  intro p e s m below s₁ hs0 X0
  have EU := U.exa
  refine w_iloadN X0 (pc' := 1) d5_0 rfl rfl ?_
  refine w_istoreN X0 (pc' := 2) (l' := #[.val (.ref a1), .val (.int (2 : Int32)), .val (.int (2 : Int32))]) d5_1 rfl rfl ?_
  refine w_iloadN X0 (pc' := 3) d5_2 rfl rfl ?_
  refine w_aloadN X0 (pc' := 4) d5_3 rfl rfl rfl ?_
  refine w_virtualV X0 (pc' := 7) d5_4 (rm_len4 hw (h0 := h0) (sd_size X0) a1 S_c hzc S_f hfm S_a S_h S_l R0 R1 R2 R3 U) (hw _ (List.mem_of_getElem? (i := 30) rfl)) (hw _ (List.mem_of_getElem? (i := 31) rfl)) (hw _ (List.mem_of_getElem? (i := 33) rfl)) (hw _ (List.mem_of_getElem? (i := 32) rfl)) (hw _ (List.mem_of_getElem? (i := 6) rfl)) (hw _ (List.mem_of_getElem? (i := 34) rfl)) EU (by decide) [] [(.int (2 : Int32))] pd_6 rfl rfl rfl rfl 1 (Nat.le_refl _) (by decide) (by decide) (by decide) (by decide) rfl fun T1 h1 v1 X1 q1 => ?_
  obtain ⟨rfl, rfl⟩ := q1
  refine w_icmp_ge X1 36 10 d5_7 (by decide) rfl rfl (fun hc7 => by exfalso; revert hc7; decide) (fun hc7 => ?_)
  refine w_aloadN X1 (pc' := 11) d5_10 rfl rfl rfl ?_
  refine w_iloadN X1 (pc' := 12) d5_11 rfl rfl ?_
  refine w_virtualV X1 (pc' := 15) d5_12 (rm_ch4_2 hw (h0 := h0) (sd_size X1) a1 S_c hzc S_f hfm S_a S_h S_l R0 R1 R2 R3 U) (hw _ (List.mem_of_getElem? (i := 57) rfl)) (hw _ (List.mem_of_getElem? (i := 58) rfl)) (hw _ (List.mem_of_getElem? (i := 60) rfl)) (hw _ (List.mem_of_getElem? (i := 59) rfl)) (hw _ (List.mem_of_getElem? (i := 6) rfl)) (hw _ (List.mem_of_getElem? (i := 61) rfl)) EU (by decide) [(.int (2 : Int32))] [] pd_13 rfl rfl rfl rfl 0 (Nat.le_refl _) (by decide) (by decide) (by decide) (by decide) rfl fun T2 h2 v2 X2 q2 => ?_
  obtain ⟨rfl, rfl⟩ := q2
  refine w_bipush X2 (pc' := 17) (48 : Int32) d5_15 rfl rfl ?_
  refine w_icmp_lt X2 36 20 d5_17 (by decide) rfl rfl (fun hc17 => ?_) (fun hc17 => ?_)
  · skip
    refine w_iloadN X2 (pc' := 37) d5_36 rfl rfl ?_
    refine w_iloadN X2 (pc' := 38) d5_37 rfl rfl ?_
    refine w_isub X2 (pc' := 39) d5_38 rfl ?_
    exact w_ireturn X2 d5_39 ⟨by rw [own_rn1 hc17] <;> decide, rfl⟩ (by decide) (by decide)
  · skip
    have ha2 := hc17
    refine w_aloadN X2 (pc' := 21) d5_20 rfl rfl rfl ?_
    refine w_iloadN X2 (pc' := 22) d5_21 rfl rfl ?_
    refine w_virtualV X2 (pc' := 25) d5_22 (rm_ch4_2 hw (h0 := h0) (sd_size X2) a1 S_c hzc S_f hfm S_a S_h S_l R0 R1 R2 R3 U) (hw _ (List.mem_of_getElem? (i := 57) rfl)) (hw _ (List.mem_of_getElem? (i := 58) rfl)) (hw _ (List.mem_of_getElem? (i := 60) rfl)) (hw _ (List.mem_of_getElem? (i := 59) rfl)) (hw _ (List.mem_of_getElem? (i := 6) rfl)) (hw _ (List.mem_of_getElem? (i := 61) rfl)) EU (by decide) [(.int (2 : Int32))] [] pd_13 rfl rfl rfl rfl 0 (Nat.le_refl _) (by decide) (by decide) (by decide) (by decide) rfl fun T3 h3 v3 X3 q3 => ?_
    obtain ⟨rfl, rfl⟩ := q3
    refine w_bipush X3 (pc' := 27) (57 : Int32) d5_25 rfl rfl ?_
    refine w_icmp_gt X3 36 30 d5_27 (by decide) rfl rfl (fun hc27 => ?_) (fun hc27 => ?_)
    · skip
      refine w_iloadN X3 (pc' := 37) d5_36 rfl rfl ?_
      refine w_iloadN X3 (pc' := 38) d5_37 rfl rfl ?_
      refine w_isub X3 (pc' := 39) d5_38 rfl ?_
      exact w_ireturn X3 d5_39 ⟨by rw [own_rn2 hc27] <;> decide, rfl⟩ (by decide) (by decide)
    · skip
      have hb2 := hc27
      refine w_iinc X3 (pc' := 33) ((2 : Int32) + (1 : Int32)) (l' := #[.val (.ref a1), .val (.int (2 : Int32)), .val (.int ((2 : Int32) + (1 : Int32)))]) d5_30 rfl rfl rfl rfl ?_
      refine w_goto X3 (pc' := 2) d5_33 (by decide) rfl ?_
      rw [show ((2 : Int32) + (1 : Int32)) = (3 : Int32) from by decide]
      show Go p e below _ (T3.setTop (mkF m 2 #[.val (.ref a1), .val (.int (2 : Int32)), .val (.int (3 : Int32))] []))
      refine w_iloadN X3 (pc' := 3) d5_2 rfl rfl ?_
      refine w_aloadN X3 (pc' := 4) d5_3 rfl rfl rfl ?_
      refine w_virtualV X3 (pc' := 7) d5_4 (rm_len4 hw (h0 := h0) (sd_size X3) a1 S_c hzc S_f hfm S_a S_h S_l R0 R1 R2 R3 U) (hw _ (List.mem_of_getElem? (i := 30) rfl)) (hw _ (List.mem_of_getElem? (i := 31) rfl)) (hw _ (List.mem_of_getElem? (i := 33) rfl)) (hw _ (List.mem_of_getElem? (i := 32) rfl)) (hw _ (List.mem_of_getElem? (i := 6) rfl)) (hw _ (List.mem_of_getElem? (i := 34) rfl)) EU (by decide) [] [(.int (3 : Int32))] pd_6 rfl rfl rfl rfl 1 (Nat.le_refl _) (by decide) (by decide) (by decide) (by decide) rfl fun T4 h4 v4 X4 q4 => ?_
      obtain ⟨rfl, rfl⟩ := q4
      refine w_icmp_ge X4 36 10 d5_7 (by decide) rfl rfl (fun hc7 => by exfalso; revert hc7; decide) (fun hc7 => ?_)
      refine w_aloadN X4 (pc' := 11) d5_10 rfl rfl rfl ?_
      refine w_iloadN X4 (pc' := 12) d5_11 rfl rfl ?_
      refine w_virtualV X4 (pc' := 15) d5_12 (rm_ch4_3 hw (h0 := h0) (sd_size X4) a1 S_c hzc S_f hfm S_a S_h S_l R0 R1 R2 R3 U) (hw _ (List.mem_of_getElem? (i := 57) rfl)) (hw _ (List.mem_of_getElem? (i := 58) rfl)) (hw _ (List.mem_of_getElem? (i := 60) rfl)) (hw _ (List.mem_of_getElem? (i := 59) rfl)) (hw _ (List.mem_of_getElem? (i := 6) rfl)) (hw _ (List.mem_of_getElem? (i := 61) rfl)) EU (by decide) [(.int (3 : Int32))] [] pd_13 rfl rfl rfl rfl 0 (Nat.le_refl _) (by decide) (by decide) (by decide) (by decide) rfl fun T5 h5 v5 X5 q5 => ?_
      obtain ⟨rfl, rfl⟩ := q5
      refine w_bipush X5 (pc' := 17) (48 : Int32) d5_15 rfl rfl ?_
      refine w_icmp_lt X5 36 20 d5_17 (by decide) rfl rfl (fun hc17 => ?_) (fun hc17 => ?_)
      · skip
        refine w_iloadN X5 (pc' := 37) d5_36 rfl rfl ?_
        refine w_iloadN X5 (pc' := 38) d5_37 rfl rfl ?_
        refine w_isub X5 (pc' := 39) d5_38 rfl ?_
        exact w_ireturn X5 d5_39 ⟨by rw [own_rp ha2 hb2, own_rn1 hc17] <;> decide, rfl⟩ (by decide) (by decide)
      · skip
        have ha3 := hc17
        refine w_aloadN X5 (pc' := 21) d5_20 rfl rfl rfl ?_
        refine w_iloadN X5 (pc' := 22) d5_21 rfl rfl ?_
        refine w_virtualV X5 (pc' := 25) d5_22 (rm_ch4_3 hw (h0 := h0) (sd_size X5) a1 S_c hzc S_f hfm S_a S_h S_l R0 R1 R2 R3 U) (hw _ (List.mem_of_getElem? (i := 57) rfl)) (hw _ (List.mem_of_getElem? (i := 58) rfl)) (hw _ (List.mem_of_getElem? (i := 60) rfl)) (hw _ (List.mem_of_getElem? (i := 59) rfl)) (hw _ (List.mem_of_getElem? (i := 6) rfl)) (hw _ (List.mem_of_getElem? (i := 61) rfl)) EU (by decide) [(.int (3 : Int32))] [] pd_13 rfl rfl rfl rfl 0 (Nat.le_refl _) (by decide) (by decide) (by decide) (by decide) rfl fun T6 h6 v6 X6 q6 => ?_
        obtain ⟨rfl, rfl⟩ := q6
        refine w_bipush X6 (pc' := 27) (57 : Int32) d5_25 rfl rfl ?_
        refine w_icmp_gt X6 36 30 d5_27 (by decide) rfl rfl (fun hc27 => ?_) (fun hc27 => ?_)
        · skip
          refine w_iloadN X6 (pc' := 37) d5_36 rfl rfl ?_
          refine w_iloadN X6 (pc' := 38) d5_37 rfl rfl ?_
          refine w_isub X6 (pc' := 39) d5_38 rfl ?_
          exact w_ireturn X6 d5_39 ⟨by rw [own_rp ha2 hb2, own_rn2 hc27] <;> decide, rfl⟩ (by decide) (by decide)
        · skip
          have hb3 := hc27
          refine w_iinc X6 (pc' := 33) ((3 : Int32) + (1 : Int32)) (l' := #[.val (.ref a1), .val (.int (2 : Int32)), .val (.int ((3 : Int32) + (1 : Int32)))]) d5_30 rfl rfl rfl rfl ?_
          refine w_goto X6 (pc' := 2) d5_33 (by decide) rfl ?_
          rw [show ((3 : Int32) + (1 : Int32)) = (4 : Int32) from by decide]
          show Go p e below _ (T6.setTop (mkF m 2 #[.val (.ref a1), .val (.int (2 : Int32)), .val (.int (4 : Int32))] []))
          refine w_iloadN X6 (pc' := 3) d5_2 rfl rfl ?_
          refine w_aloadN X6 (pc' := 4) d5_3 rfl rfl rfl ?_
          refine w_virtualV X6 (pc' := 7) d5_4 (rm_len4 hw (h0 := h0) (sd_size X6) a1 S_c hzc S_f hfm S_a S_h S_l R0 R1 R2 R3 U) (hw _ (List.mem_of_getElem? (i := 30) rfl)) (hw _ (List.mem_of_getElem? (i := 31) rfl)) (hw _ (List.mem_of_getElem? (i := 33) rfl)) (hw _ (List.mem_of_getElem? (i := 32) rfl)) (hw _ (List.mem_of_getElem? (i := 6) rfl)) (hw _ (List.mem_of_getElem? (i := 34) rfl)) EU (by decide) [] [(.int (4 : Int32))] pd_6 rfl rfl rfl rfl 1 (Nat.le_refl _) (by decide) (by decide) (by decide) (by decide) rfl fun T7 h7 v7 X7 q7 => ?_
          obtain ⟨rfl, rfl⟩ := q7
          refine w_icmp_ge X7 36 10 d5_7 (by decide) rfl rfl (fun hc7 => ?_) (fun hc7 => by exfalso; revert hc7; decide)
          refine w_iloadN X7 (pc' := 37) d5_36 rfl rfl ?_
          refine w_iloadN X7 (pc' := 38) d5_37 rfl rfl ?_
          refine w_isub X7 (pc' := 39) d5_38 rfl ?_
          exact w_ireturn X7 d5_39 ⟨by rw [own_rp ha2 hb2, own_rp ha3 hb3, show own_run [] = 0 from rfl] <;> decide, rfl⟩ (by decide) (by decide)
set_option maxRecDepth 65536 in
set_option maxHeartbeats 40000000 in
theorem rm_dg4_3 {l : Launch} {Z : State} {a0 : Array Value} (hw : ∀ d ∈ tables_1, d.before a0 Z = true) {n0 : Nat} {h0 : Heap} (Z0 : n0 ≤ h0.size) (a1 : Addr) {zc : Int32} (S_c : Sta Z h0 "java/lang/String" "COMPACT_STRINGS" "Z" (.int zc)) (hzc : ¬ zc = (0 : Int32)) {fm : Value} (S_f : Sta Z h0 "jdk/internal/util/Preconditions" "SIOOBE_FORMATTER" "Ljava/util/function/BiFunction;" fm) (hfm : fm.isRef = true) (S_a : Sta Z h0 "java/lang/StringUTF16" "$assertionsDisabled" "Z" (.int 1)) (S_h : Sta Z h0 "java/lang/StringUTF16" "HI_BYTE_SHIFT" "I" (.int 0)) (S_l : Sta Z h0 "java/lang/StringUTF16" "LO_BYTE_SHIFT" "I" (.int 8)) {c0 c1 c2 c3 : Int32} (R0 : own_R c0) (R1 : own_R c1) (R2 : own_R c2) (R3 : own_R c3) (U : StrU Z h0 a1 [c0, c1, c2, c3]) :
    Con l Z n0 (⟨"com/example/admitwire/admitwire/core/Timestamp", "digits", "(Ljava/lang/String;I)I"⟩ : MethodName) prog_53_method_11_code 3 (some .int) ({ frames := 5, cells := 0, slots := 0, locals := 66 } : Room) #[(.ref a1), (.int (3 : Int32))] h0 (Val (fun v h => v = .int (own_run [c3]) ∧ h0 = h)) := by
  refine con_intro pn_5 Z0 (fr := fun m => mkF m 0 #[.val (.ref a1), .val (.int (3 : Int32)), .unset] []) (fun m => by first | (simp [entryFrame, mkF, argsToLocals, Value.category]; done) | rfl) ?_
  intro p e s m below s₁ hs0 X0
  have EU := U.exa
  refine w_iloadN X0 (pc' := 1) d5_0 rfl rfl ?_
  refine w_istoreN X0 (pc' := 2) (l' := #[.val (.ref a1), .val (.int (3 : Int32)), .val (.int (3 : Int32))]) d5_1 rfl rfl ?_
  refine w_iloadN X0 (pc' := 3) d5_2 rfl rfl ?_
  refine w_aloadN X0 (pc' := 4) d5_3 rfl rfl rfl ?_
  refine w_virtualV X0 (pc' := 7) d5_4 (rm_len4 hw (h0 := h0) (sd_size X0) a1 S_c hzc S_f hfm S_a S_h S_l R0 R1 R2 R3 U) (hw _ (List.mem_of_getElem? (i := 30) rfl)) (hw _ (List.mem_of_getElem? (i := 31) rfl)) (hw _ (List.mem_of_getElem? (i := 33) rfl)) (hw _ (List.mem_of_getElem? (i := 32) rfl)) (hw _ (List.mem_of_getElem? (i := 6) rfl)) (hw _ (List.mem_of_getElem? (i := 34) rfl)) EU (by decide) [] [(.int (3 : Int32))] pd_6 rfl rfl rfl rfl 1 (Nat.le_refl _) (by decide) (by decide) (by decide) (by decide) rfl fun T1 h1 v1 X1 q1 => ?_
  obtain ⟨rfl, rfl⟩ := q1
  refine w_icmp_ge X1 36 10 d5_7 (by decide) rfl rfl (fun hc7 => by exfalso; revert hc7; decide) (fun hc7 => ?_)
  refine w_aloadN X1 (pc' := 11) d5_10 rfl rfl rfl ?_
  refine w_iloadN X1 (pc' := 12) d5_11 rfl rfl ?_
  refine w_virtualV X1 (pc' := 15) d5_12 (rm_ch4_3 hw (h0 := h0) (sd_size X1) a1 S_c hzc S_f hfm S_a S_h S_l R0 R1 R2 R3 U) (hw _ (List.mem_of_getElem? (i := 57) rfl)) (hw _ (List.mem_of_getElem? (i := 58) rfl)) (hw _ (List.mem_of_getElem? (i := 60) rfl)) (hw _ (List.mem_of_getElem? (i := 59) rfl)) (hw _ (List.mem_of_getElem? (i := 6) rfl)) (hw _ (List.mem_of_getElem? (i := 61) rfl)) EU (by decide) [(.int (3 : Int32))] [] pd_13 rfl rfl rfl rfl 0 (Nat.le_refl _) (by decide) (by decide) (by decide) (by decide) rfl fun T2 h2 v2 X2 q2 => ?_
  obtain ⟨rfl, rfl⟩ := q2
  refine w_bipush X2 (pc' := 17) (48 : Int32) d5_15 rfl rfl ?_
  refine w_icmp_lt X2 36 20 d5_17 (by decide) rfl rfl (fun hc17 => ?_) (fun hc17 => ?_)
  · skip
    refine w_iloadN X2 (pc' := 37) d5_36 rfl rfl ?_
    refine w_iloadN X2 (pc' := 38) d5_37 rfl rfl ?_
    refine w_isub X2 (pc' := 39) d5_38 rfl ?_
    exact w_ireturn X2 d5_39 ⟨by rw [own_rn1 hc17] <;> decide, rfl⟩ (by decide) (by decide)
  · skip
    have ha3 := hc17
    refine w_aloadN X2 (pc' := 21) d5_20 rfl rfl rfl ?_
    refine w_iloadN X2 (pc' := 22) d5_21 rfl rfl ?_
    refine w_virtualV X2 (pc' := 25) d5_22 (rm_ch4_3 hw (h0 := h0) (sd_size X2) a1 S_c hzc S_f hfm S_a S_h S_l R0 R1 R2 R3 U) (hw _ (List.mem_of_getElem? (i := 57) rfl)) (hw _ (List.mem_of_getElem? (i := 58) rfl)) (hw _ (List.mem_of_getElem? (i := 60) rfl)) (hw _ (List.mem_of_getElem? (i := 59) rfl)) (hw _ (List.mem_of_getElem? (i := 6) rfl)) (hw _ (List.mem_of_getElem? (i := 61) rfl)) EU (by decide) [(.int (3 : Int32))] [] pd_13 rfl rfl rfl rfl 0 (Nat.le_refl _) (by decide) (by decide) (by decide) (by decide) rfl fun T3 h3 v3 X3 q3 => ?_
    obtain ⟨rfl, rfl⟩ := q3
    refine w_bipush X3 (pc' := 27) (57 : Int32) d5_25 rfl rfl ?_
    refine w_icmp_gt X3 36 30 d5_27 (by decide) rfl rfl (fun hc27 => ?_) (fun hc27 => ?_)
    · skip
      refine w_iloadN X3 (pc' := 37) d5_36 rfl rfl ?_
      refine w_iloadN X3 (pc' := 38) d5_37 rfl rfl ?_
      refine w_isub X3 (pc' := 39) d5_38 rfl ?_
      exact w_ireturn X3 d5_39 ⟨by rw [own_rn2 hc27] <;> decide, rfl⟩ (by decide) (by decide)
    · skip
      have hb3 := hc27
      refine w_iinc X3 (pc' := 33) ((3 : Int32) + (1 : Int32)) (l' := #[.val (.ref a1), .val (.int (3 : Int32)), .val (.int ((3 : Int32) + (1 : Int32)))]) d5_30 rfl rfl rfl rfl ?_
      refine w_goto X3 (pc' := 2) d5_33 (by decide) rfl ?_
      rw [show ((3 : Int32) + (1 : Int32)) = (4 : Int32) from by decide]
      show Go p e below _ (T3.setTop (mkF m 2 #[.val (.ref a1), .val (.int (3 : Int32)), .val (.int (4 : Int32))] []))
      refine w_iloadN X3 (pc' := 3) d5_2 rfl rfl ?_
      refine w_aloadN X3 (pc' := 4) d5_3 rfl rfl rfl ?_
      refine w_virtualV X3 (pc' := 7) d5_4 (rm_len4 hw (h0 := h0) (sd_size X3) a1 S_c hzc S_f hfm S_a S_h S_l R0 R1 R2 R3 U) (hw _ (List.mem_of_getElem? (i := 30) rfl)) (hw _ (List.mem_of_getElem? (i := 31) rfl)) (hw _ (List.mem_of_getElem? (i := 33) rfl)) (hw _ (List.mem_of_getElem? (i := 32) rfl)) (hw _ (List.mem_of_getElem? (i := 6) rfl)) (hw _ (List.mem_of_getElem? (i := 34) rfl)) EU (by decide) [] [(.int (4 : Int32))] pd_6 rfl rfl rfl rfl 1 (Nat.le_refl _) (by decide) (by decide) (by decide) (by decide) rfl fun T4 h4 v4 X4 q4 => ?_
      obtain ⟨rfl, rfl⟩ := q4
      refine w_icmp_ge X4 36 10 d5_7 (by decide) rfl rfl (fun hc7 => ?_) (fun hc7 => by exfalso; revert hc7; decide)
      refine w_iloadN X4 (pc' := 37) d5_36 rfl rfl ?_
      refine w_iloadN X4 (pc' := 38) d5_37 rfl rfl ?_
      refine w_isub X4 (pc' := 39) d5_38 rfl ?_
      exact w_ireturn X4 d5_39 ⟨by rw [own_rp ha3 hb3, show own_run [] = 0 from rfl] <;> decide, rfl⟩ (by decide) (by decide)
set_option maxRecDepth 65536 in
set_option maxHeartbeats 40000000 in
theorem rm_dg4_x {l : Launch} {Z : State} {a0 : Array Value} (hw : ∀ d ∈ tables_1, d.before a0 Z = true) {n0 : Nat} {h0 : Heap} (Z0 : n0 ≤ h0.size) (a1 : Addr) (p2 : Int32) {zc : Int32} (S_c : Sta Z h0 "java/lang/String" "COMPACT_STRINGS" "Z" (.int zc)) (hzc : ¬ zc = (0 : Int32)) {fm : Value} (S_f : Sta Z h0 "jdk/internal/util/Preconditions" "SIOOBE_FORMATTER" "Ljava/util/function/BiFunction;" fm) (hfm : fm.isRef = true) (S_a : Sta Z h0 "java/lang/StringUTF16" "$assertionsDisabled" "Z" (.int 1)) (S_h : Sta Z h0 "java/lang/StringUTF16" "HI_BYTE_SHIFT" "I" (.int 0)) (S_l : Sta Z h0 "java/lang/StringUTF16" "LO_BYTE_SHIFT" "I" (.int 8)) {c0 c1 c2 c3 : Int32} (R0 : own_R c0) (R1 : own_R c1) (R2 : own_R c2) (R3 : own_R c3) (U : StrU Z h0 a1 [c0, c1, c2, c3]) (hx : ¬ p2 < 4) :
    Con l Z n0 (⟨"com/example/admitwire/admitwire/core/Timestamp", "digits", "(Ljava/lang/String;I)I"⟩ : MethodName) prog_53_method_11_code 3 (some .int) ({ frames := 5, cells := 0, slots := 0, locals := 66 } : Room) #[(.ref a1), (.int p2)] h0 (Val (fun v h => v = .int 0 ∧ h0 = h)) := by
  refine con_intro pn_5 Z0 (fr := fun m => mkF m 0 #[.val (.ref a1), .val (.int p2), .unset] []) (fun m => by first | (simp [entryFrame, mkF, argsToLocals, Value.category]; done) | rfl) ?_
  intro p e s m below s₁ hs0 X0
  have EU := U.exa
  refine w_iloadN X0 (pc' := 1) d5_0 rfl rfl ?_
  refine w_istoreN X0 (pc' := 2) (l' := #[.val (.ref a1), .val (.int p2), .val (.int p2)]) d5_1 rfl rfl ?_
  refine w_iloadN X0 (pc' := 3) d5_2 rfl rfl ?_
  refine w_aloadN X0 (pc' := 4) d5_3 rfl rfl rfl ?_
  refine w_virtualV X0 (pc' := 7) d5_4 (rm_len4 hw (h0 := h0) (sd_size X0) a1 S_c hzc S_f hfm S_a S_h S_l R0 R1 R2 R3 U) (hw _ (List.mem_of_getElem? (i := 30) rfl)) (hw _ (List.mem_of_getElem? (i := 31) rfl)) (hw _ (List.mem_of_getElem? (i := 33) rfl)) (hw _ (List.mem_of_getElem? (i := 32) rfl)) (hw _ (List.mem_of_getElem? (i := 6) rfl)) (hw _ (List.mem_of_getElem? (i := 34) rfl)) EU (by decide) [] [(.int p2)] pd_6 rfl rfl rfl rfl 1 (Nat.le_refl _) (by decide) (by decide) (by decide) (by decide) rfl fun T1 h1 v1 X1 q1 => ?_
  obtain ⟨rfl, rfl⟩ := q1
  refine w_icmp_ge X1 36 10 d5_7 (by decide) rfl rfl (fun hc7 => ?_) (fun hc7 => by exfalso; exact hx hc7)
  refine w_iloadN X1 (pc' := 37) d5_36 rfl rfl ?_
  refine w_iloadN X1 (pc' := 38) d5_37 rfl rfl ?_
  refine w_isub X1 (pc' := 39) d5_38 rfl ?_
  exact w_ireturn X1 d5_39 ⟨congrArg Value.int (Int32.sub_self _), rfl⟩ (by decide) (by decide)
set_option maxRecDepth 65536 in
set_option maxHeartbeats 40000000 in
theorem rm_dg3_0 {l : Launch} {Z : State} {a0 : Array Value} (hw : ∀ d ∈ tables_1, d.before a0 Z = true) {n0 : Nat} {h0 : Heap} (Z0 : n0 ≤ h0.size) (a1 : Addr) {zc : Int32} (S_c : Sta Z h0 "java/lang/String" "COMPACT_STRINGS" "Z" (.int zc)) (hzc : ¬ zc = (0 : Int32)) {fm : Value} (S_f : Sta Z h0 "jdk/internal/util/Preconditions" "SIOOBE_FORMATTER" "Ljava/util/function/BiFunction;" fm) (hfm : fm.isRef = true) (S_a : Sta Z h0 "java/lang/StringUTF16" "$assertionsDisabled" "Z" (.int 1)) (S_h : Sta Z h0 "java/lang/StringUTF16" "HI_BYTE_SHIFT" "I" (.int 0)) (S_l : Sta Z h0 "java/lang/StringUTF16" "LO_BYTE_SHIFT" "I" (.int 8)) {c0 c1 c2 : Int32} (R0 : own_R c0) (R1 : own_R c1) (R2 : own_R c2) (U : StrU Z h0 a1 [c0, c1, c2]) :
    Con l Z n0 (⟨"com/example/admitwire/admitwire/core/Timestamp", "digits", "(Ljava/lang/String;I)I"⟩ : MethodName) prog_53_method_11_code 3 (some .int) ({ frames := 5, cells := 0, slots := 0, locals := 66 } : Room) #[(.ref a1), (.int (0 : Int32))] h0 (Val (fun v h => v = .int (own_run [c0, c1, c2]) ∧ h0 = h)) := by
  refine con_intro pn_5 Z0 (fr := fun m => mkF m 0 #[.val (.ref a1), .val (.int (0 : Int32)), .unset] []) (fun m => by first | (simp [entryFrame, mkF, argsToLocals, Value.category]; done) | rfl) ?_
  intro p e s m below s₁ hs0 X0
  have EU := U.exa
  refine w_iloadN X0 (pc' := 1) d5_0 rfl rfl ?_
  refine w_istoreN X0 (pc' := 2) (l' := #[.val (.ref a1), .val (.int (0 : Int32)), .val (.int (0 : Int32))]) d5_1 rfl rfl ?_
  refine w_iloadN X0 (pc' := 3) d5_2 rfl rfl ?_
  refine w_aloadN X0 (pc' := 4) d5_3 rfl rfl rfl ?_
  refine w_virtualV X0 (pc' := 7) d5_4 (rm_len3 hw (h0 := h0) (sd_size X0) a1 S_c hzc S_f hfm S_a S_h S_l R0 R1 R2 U) (hw _ (List.mem_of_getElem? (i := 30) rfl)) (hw _ (List.mem_of_getElem? (i := 31) rfl)) (hw _ (List.mem_of_getElem? (i := 33) rfl)) (hw _ (List.mem_of_getElem? (i := 32) rfl)) (hw _ (List.mem_of_getElem? (i := 6) rfl)) (hw _ (List.mem_of_getElem? (i := 34) rfl)) EU (by decide) [] [(.int (0 : Int32))] pd_6 rfl rfl rfl rfl 1 (Nat.le_refl _) (by decide) (by decide) (by decide) (by decide) rfl fun T1 h1 v1 X1 q1 => ?_
  obtain ⟨rfl, rfl⟩ := q1
  refine w_icmp_ge X1 36 10 d5_7 (by decide) rfl rfl (fun hc7 => by exfalso; revert hc7; decide) (fun hc7 => ?_)
  refine w_aloadN X1 (pc' := 11) d5_10 rfl rfl rfl ?_
  refine w_iloadN X1 (pc' := 12) d5_11 rfl rfl ?_
  refine w_virtualV X1 (pc' := 15) d5_12 (rm_ch3_0 hw (h0 := h0) (sd_size X1) a1 S_c hzc S_f hfm S_a S_h S_l R0 R1 R2 U) (hw _ (List.mem_of_getElem? (i := 57) rfl)) (hw _ (List.mem_of_getElem? (i := 58) rfl)) (hw _ (List.mem_of_getElem? (i := 60) rfl)) (hw _ (List.mem_of_getElem? (i := 59) rfl)) (hw _ (List.mem_of_getElem? (i := 6) rfl)) (hw _ (List.mem_of_getElem? (i := 61) rfl)) EU (by decide) [(.int (0 : Int32))] [] pd_13 rfl rfl rfl rfl 0 (Nat.le_refl _) (by decide) (by decide) (by decide) (by decide) rfl fun T2 h2 v2 X2 q2 => ?_
  obtain ⟨rfl, rfl⟩ := q2
  refine w_bipush X2 (pc' := 17) (48 : Int32) d5_15 rfl rfl ?_
  refine w_icmp_lt X2 36 20 d5_17 (by decide) rfl rfl (fun hc17 => ?_) (fun hc17 => ?_)
  · skip
    refine w_iloadN X2 (pc' := 37) d5_36 rfl rfl ?_
    refine w_iloadN X2 (pc' := 38) d5_37 rfl rfl ?_
    refine w_isub X2 (pc' := 39) d5_38 rfl ?_
    exact w_ireturn X2 d5_39 ⟨by rw [own_rn1 hc17] <;> decide, rfl⟩ (by decide) (by decide)
  · skip
    have ha0 := hc17
    refine w_aloadN X2 (pc' := 21) d5_20 rfl rfl rfl ?_
    refine w_iloadN X2 (pc' := 22) d5_21 rfl rfl ?_
    refine w_virtualV X2 (pc' := 25) d5_22 (rm_ch3_0 hw (h0 := h0) (sd_size X2) a1 S_c hzc S_f hfm S_a S_h S_l R0 R1 R2 U) (hw _ (List.mem_of_getElem? (i := 57) rfl)) (hw _ (List.mem_of_getElem? (i := 58) rfl)) (hw _ (List.mem_of_getElem? (i := 60) rfl)) (hw _ (List.mem_of_getElem? (i := 59) rfl)) (hw _ (List.mem_of_getElem? (i := 6) rfl)) (hw _ (List.mem_of_getElem? (i := 61) rfl)) EU (by decide) [(.int (0 : Int32))] [] pd_13 rfl rfl rfl rfl 0 (Nat.le_refl _) (by decide) (by decide) (by decide) (by decide) rfl fun T3 h3 v3 X3 q3 => ?_
    obtain ⟨rfl, rfl⟩ := q3
    refine w_bipush X3 (pc' := 27) (57 : Int32) d5_25 rfl rfl ?_
    refine w_icmp_gt X3 36 30 d5_27 (by decide) rfl rfl (fun hc27 => ?_) (fun hc27 => ?_)
    · skip
      refine w_iloadN X3 (pc' := 37) d5_36 rfl rfl ?_
      refine w_iloadN X3 (pc' := 38) d5_37 rfl rfl ?_
      refine w_isub X3 (pc' := 39) d5_38 rfl ?_
      exact w_ireturn X3 d5_39 ⟨by rw [own_rn2 hc27] <;> decide, rfl⟩ (by decide) (by decide)
    · skip
      have hb0 := hc27
      refine w_iinc X3 (pc' := 33) ((0 : Int32) + (1 : Int32)) (l' := #[.val (.ref a1), .val (.int (0 : Int32)), .val (.int ((0 : Int32) + (1 : Int32)))]) d5_30 rfl rfl rfl rfl ?_
      refine w_goto X3 (pc' := 2) d5_33 (by decide) rfl ?_
      rw [show ((0 : Int32) + (1 : Int32)) = (1 : Int32) from by decide]
      show Go p e below _ (T3.setTop (mkF m 2 #[.val (.ref a1), .val (.int (0 : Int32)), .val (.int (1 : Int32))] []))
      refine w_iloadN X3 (pc' := 3) d5_2 rfl rfl ?_
      refine w_aloadN X3 (pc' := 4) d5_3 rfl rfl rfl ?_
      refine w_virtualV X3 (pc' := 7) d5_4 (rm_len3 hw (h0 := h0) (sd_size X3) a1 S_c hzc S_f hfm S_a S_h S_l R0 R1 R2 U) (hw _ (List.mem_of_getElem? (i := 30) rfl)) (hw _ (List.mem_of_getElem? (i := 31) rfl)) (hw _ (List.mem_of_getElem? (i := 33) rfl)) (hw _ (List.mem_of_getElem? (i := 32) rfl)) (hw _ (List.mem_of_getElem? (i := 6) rfl)) (hw _ (List.mem_of_getElem? (i := 34) rfl)) EU (by decide) [] [(.int (1 : Int32))] pd_6 rfl rfl rfl rfl 1 (Nat.le_refl _) (by decide) (by decide) (by decide) (by decide) rfl fun T4 h4 v4 X4 q4 => ?_
      obtain ⟨rfl, rfl⟩ := q4
      refine w_icmp_ge X4 36 10 d5_7 (by decide) rfl rfl (fun hc7 => by exfalso; revert hc7; decide) (fun hc7 => ?_)
      refine w_aloadN X4 (pc' := 11) d5_10 rfl rfl rfl ?_
      refine w_iloadN X4 (pc' := 12) d5_11 rfl rfl ?_
      refine w_virtualV X4 (pc' := 15) d5_12 (rm_ch3_1 hw (h0 := h0) (sd_size X4) a1 S_c hzc S_f hfm S_a S_h S_l R0 R1 R2 U) (hw _ (List.mem_of_getElem? (i := 57) rfl)) (hw _ (List.mem_of_getElem? (i := 58) rfl)) (hw _ (List.mem_of_getElem? (i := 60) rfl)) (hw _ (List.mem_of_getElem? (i := 59) rfl)) (hw _ (List.mem_of_getElem? (i := 6) rfl)) (hw _ (List.mem_of_getElem? (i := 61) rfl)) EU (by decide) [(.int (1 : Int32))] [] pd_13 rfl rfl rfl rfl 0 (Nat.le_refl _) (by decide) (by decide) (by decide) (by decide) rfl fun T5 h5 v5 X5 q5 => ?_
      obtain ⟨rfl, rfl⟩ := q5
      refine w_bipush X5 (pc' := 17) (48 : Int32) d5_15 rfl rfl ?_
      refine w_icmp_lt X5 36 20 d5_17 (by decide) rfl rfl (fun hc17 => ?_) (fun hc17 => ?_)
      · skip
        refine w_iloadN X5 (pc' := 37) d5_36 rfl rfl ?_
        refine w_iloadN X5 (pc' := 38) d5_37 rfl rfl ?_
        refine w_isub X5 (pc' := 39) d5_38 rfl ?_
        exact w_ireturn X5 d5_39 ⟨by rw [own_rp ha0 hb0, own_rn1 hc17] <;> decide, rfl⟩ (by decide) (by decide)
      · skip
        have ha1 := hc17
        refine w_aloadN X5 (pc' := 21) d5_20 rfl rfl rfl ?_
        refine w_iloadN X5 (pc' := 22) d5_21 rfl rfl ?_
        refine w_virtualV X5 (pc' := 25) d5_22 (rm_ch3_1 hw (h0 := h0) (sd_size X5) a1 S_c hzc S_f hfm S_a S_h S_l R0 R1 R2 U) (hw _ (List.mem_of_getElem? (i := 57) rfl)) (hw _ (List.mem_of_getElem? (i := 58) rfl)) (hw _ (List.mem_of_getElem? (i := 60) rfl)) (hw _ (List.mem_of_getElem? (i := 59) rfl)) (hw _ (List.mem_of_getElem? (i := 6) rfl)) (hw _ (List.mem_of_getElem? (i := 61) rfl)) EU (by decide) [(.int (1 : Int32))] [] pd_13 rfl rfl rfl rfl 0 (Nat.le_refl _) (by decide) (by decide) (by decide) (by decide) rfl fun T6 h6 v6 X6 q6 => ?_
        obtain ⟨rfl, rfl⟩ := q6
        refine w_bipush X6 (pc' := 27) (57 : Int32) d5_25 rfl rfl ?_
        refine w_icmp_gt X6 36 30 d5_27 (by decide) rfl rfl (fun hc27 => ?_) (fun hc27 => ?_)
        · skip
          refine w_iloadN X6 (pc' := 37) d5_36 rfl rfl ?_
          refine w_iloadN X6 (pc' := 38) d5_37 rfl rfl ?_
          refine w_isub X6 (pc' := 39) d5_38 rfl ?_
          exact w_ireturn X6 d5_39 ⟨by rw [own_rp ha0 hb0, own_rn2 hc27] <;> decide, rfl⟩ (by decide) (by decide)
        · skip
          have hb1 := hc27
          refine w_iinc X6 (pc' := 33) ((1 : Int32) + (1 : Int32)) (l' := #[.val (.ref a1), .val (.int (0 : Int32)), .val (.int ((1 : Int32) + (1 : Int32)))]) d5_30 rfl rfl rfl rfl ?_
          refine w_goto X6 (pc' := 2) d5_33 (by decide) rfl ?_
          rw [show ((1 : Int32) + (1 : Int32)) = (2 : Int32) from by decide]
          show Go p e below _ (T6.setTop (mkF m 2 #[.val (.ref a1), .val (.int (0 : Int32)), .val (.int (2 : Int32))] []))
          refine w_iloadN X6 (pc' := 3) d5_2 rfl rfl ?_
          refine w_aloadN X6 (pc' := 4) d5_3 rfl rfl rfl ?_
          refine w_virtualV X6 (pc' := 7) d5_4 (rm_len3 hw (h0 := h0) (sd_size X6) a1 S_c hzc S_f hfm S_a S_h S_l R0 R1 R2 U) (hw _ (List.mem_of_getElem? (i := 30) rfl)) (hw _ (List.mem_of_getElem? (i := 31) rfl)) (hw _ (List.mem_of_getElem? (i := 33) rfl)) (hw _ (List.mem_of_getElem? (i := 32) rfl)) (hw _ (List.mem_of_getElem? (i := 6) rfl)) (hw _ (List.mem_of_getElem? (i := 34) rfl)) EU (by decide) [] [(.int (2 : Int32))] pd_6 rfl rfl rfl rfl 1 (Nat.le_refl _) (by decide) (by decide) (by decide) (by decide) rfl fun T7 h7 v7 X7 q7 => ?_
          obtain ⟨rfl, rfl⟩ := q7
          refine w_icmp_ge X7 36 10 d5_7 (by decide) rfl rfl (fun hc7 => by exfalso; revert hc7; decide) (fun hc7 => ?_)
          refine w_aloadN X7 (pc' := 11) d5_10 rfl rfl rfl ?_
          refine w_iloadN X7 (pc' := 12) d5_11 rfl rfl ?_
          refine w_virtualV X7 (pc' := 15) d5_12 (rm_ch3_2 hw (h0 := h0) (sd_size X7) a1 S_c hzc S_f hfm S_a S_h S_l R0 R1 R2 U) (hw _ (List.mem_of_getElem? (i := 57) rfl)) (hw _ (List.mem_of_getElem? (i := 58) rfl)) (hw _ (List.mem_of_getElem? (i := 60) rfl)) (hw _ (List.mem_of_getElem? (i := 59) rfl)) (hw _ (List.mem_of_getElem? (i := 6) rfl)) (hw _ (List.mem_of_getElem? (i := 61) rfl)) EU (by decide) [(.int (2 : Int32))] [] pd_13 rfl rfl rfl rfl 0 (Nat.le_refl _) (by decide) (by decide) (by decide) (by decide) rfl fun T8 h8 v8 X8 q8 => ?_
          obtain ⟨rfl, rfl⟩ := q8
          refine w_bipush X8 (pc' := 17) (48 : Int32) d5_15 rfl rfl ?_
          refine w_icmp_lt X8 36 20 d5_17 (by decide) rfl rfl (fun hc17 => ?_) (fun hc17 => ?_)
          · skip
            refine w_iloadN X8 (pc' := 37) d5_36 rfl rfl ?_
            refine w_iloadN X8 (pc' := 38) d5_37 rfl rfl ?_
            refine w_isub X8 (pc' := 39) d5_38 rfl ?_
            exact w_ireturn X8 d5_39 ⟨by rw [own_rp ha0 hb0, own_rp ha1 hb1, own_rn1 hc17] <;> decide, rfl⟩ (by decide) (by decide)
          · skip
            have ha2 := hc17
            refine w_aloadN X8 (pc' := 21) d5_20 rfl rfl rfl ?_
            refine w_iloadN X8 (pc' := 22) d5_21 rfl rfl ?_
            refine w_virtualV X8 (pc' := 25) d5_22 (rm_ch3_2 hw (h0 := h0) (sd_size X8) a1 S_c hzc S_f hfm S_a S_h S_l R0 R1 R2 U) (hw _ (List.mem_of_getElem? (i := 57) rfl)) (hw _ (List.mem_of_getElem? (i := 58) rfl)) (hw _ (List.mem_of_getElem? (i := 60) rfl)) (hw _ (List.mem_of_getElem? (i := 59) rfl)) (hw _ (List.mem_of_getElem? (i := 6) rfl)) (hw _ (List.mem_of_getElem? (i := 61) rfl)) EU (by decide) [(.int (2 : Int32))] [] pd_13 rfl rfl rfl rfl 0 (Nat.le_refl _) (by decide) (by decide) (by decide) (by decide) rfl fun T9 h9 v9 X9 q9 => ?_
            obtain ⟨rfl, rfl⟩ := q9
            refine w_bipush X9 (pc' := 27) (57 : Int32) d5_25 rfl rfl ?_
            refine w_icmp_gt X9 36 30 d5_27 (by decide) rfl rfl (fun hc27 => ?_) (fun hc27 => ?_)
            · skip
              refine w_iloadN X9 (pc' := 37) d5_36 rfl rfl ?_
              refine w_iloadN X9 (pc' := 38) d5_37 rfl rfl ?_
              refine w_isub X9 (pc' := 39) d5_38 rfl ?_
              exact w_ireturn X9 d5_39 ⟨by rw [own_rp ha0 hb0, own_rp ha1 hb1, own_rn2 hc27] <;> decide, rfl⟩ (by decide) (by decide)
            · skip
              have hb2 := hc27
              refine w_iinc X9 (pc' := 33) ((2 : Int32) + (1 : Int32)) (l' := #[.val (.ref a1), .val (.int (0 : Int32)), .val (.int ((2 : Int32) + (1 : Int32)))]) d5_30 rfl rfl rfl rfl ?_
              refine w_goto X9 (pc' := 2) d5_33 (by decide) rfl ?_
              rw [show ((2 : Int32) + (1 : Int32)) = (3 : Int32) from by decide]
              show Go p e below _ (T9.setTop (mkF m 2 #[.val (.ref a1), .val (.int (0 : Int32)), .val (.int (3 : Int32))] []))
              refine w_iloadN X9 (pc' := 3) d5_2 rfl rfl ?_
              refine w_aloadN X9 (pc' := 4) d5_3 rfl rfl rfl ?_
              refine w_virtualV X9 (pc' := 7) d5_4 (rm_len3 hw (h0 := h0) (sd_size X9) a1 S_c hzc S_f hfm S_a S_h S_l R0 R1 R2 U) (hw _ (List.mem_of_getElem? (i := 30) rfl)) (hw _ (List.mem_of_getElem? (i := 31) rfl)) (hw _ (List.mem_of_getElem? (i := 33) rfl)) (hw _ (List.mem_of_getElem? (i := 32) rfl)) (hw _ (List.mem_of_getElem? (i := 6) rfl)) (hw _ (List.mem_of_getElem? (i := 34) rfl)) EU (by decide) [] [(.int (3 : Int32))] pd_6 rfl rfl rfl rfl 1 (Nat.le_refl _) (by decide) (by decide) (by decide) (by decide) rfl fun T10 h10 v10 X10 q10 => ?_
              obtain ⟨rfl, rfl⟩ := q10
              refine w_icmp_ge X10 36 10 d5_7 (by decide) rfl rfl (fun hc7 => ?_) (fun hc7 => by exfalso; revert hc7; decide)
              refine w_iloadN X10 (pc' := 37) d5_36 rfl rfl ?_
              refine w_iloadN X10 (pc' := 38) d5_37 rfl rfl ?_
              refine w_isub X10 (pc' := 39) d5_38 rfl ?_
              exact w_ireturn X10 d5_39 ⟨by rw [own_rp ha0 hb0, own_rp ha1 hb1, own_rp ha2 hb2, show own_run [] = 0 from rfl] <;> decide, rfl⟩ (by decide) (by decide)
set_option maxRecDepth 65536 in
set_option maxHeartbeats 40000000 in
theorem rm_dg3_1 {l : Launch} {Z : State} {a0 : Array Value} (hw : ∀ d ∈ tables_1, d.before a0 Z = true) {n0 : Nat} {h0 : Heap} (Z0 : n0 ≤ h0.size) (a1 : Addr) {zc : Int32} (S_c : Sta Z h0 "java/lang/String" "COMPACT_STRINGS" "Z" (.int zc)) (hzc : ¬ zc = (0 : Int32)) {fm : Value} (S_f : Sta Z h0 "jdk/internal/util/Preconditions" "SIOOBE_FORMATTER" "Ljava/util/function/BiFunction;" fm) (hfm : fm.isRef = true) (S_a : Sta Z h0 "java/lang/StringUTF16" "$assertionsDisabled" "Z" (.int 1)) (S_h : Sta Z h0 "java/lang/StringUTF16" "HI_BYTE_SHIFT" "I" (.int 0)) (S_l : Sta Z h0 "java/lang/StringUTF16" "LO_BYTE_SHIFT" "I" (.int 8)) {c0 c1 c2 : Int32} (R0 : own_R c0) (R1 : own_R c1) (R2 : own_R c2) (U : StrU Z h0 a1 [c0, c1, c2]) :
    Con l Z n0 (⟨"com/example/admitwire/admitwire/core/Timestamp", "digits", "(Ljava/lang/String;I)I"⟩ : MethodName) prog_53_method_11_code 3 (some .int) ({ frames := 5, cells := 0, slots := 0, locals := 66 } : Room) #[(.ref a1), (.int (1 : Int32))] h0 (Val (fun v h => v = .int (own_run [c1, c2]) ∧ h0 = h)) := by
  refine con_intro pn_5 Z0 (fr := fun m => mkF m 0 #[.val (.ref a1), .val (.int (1 : Int32)), .unset] []) (fun m => by first | (simp [entryFrame, mkF, argsToLocals, Value.category]; done) | rfl) ?_
  intro p e s m below s₁ hs0 X0
  have EU := U.exa
  refine w_iloadN X0 (pc' := 1) d5_0 rfl rfl ?_
  refine w_istoreN X0 (pc' := 2) (l' := #[.val (.ref a1), .val (.int (1 : Int32)), .val (.int (1 : Int32))]) d5_1 rfl rfl ?_
  refine w_iloadN X0 (pc' := 3) d5_2 rfl rfl ?_
  refine w_aloadN X0 (pc' := 4) d5_3 rfl rfl rfl ?_
  refine w_virtualV X0 (pc' := 7) d5_4 (rm_len3 hw (h0 := h0) (sd_size X0) a1 S_c hzc S_f hfm S_a S_h S_l R0 R1 R2 U) (hw _ (List.mem_of_getElem? (i := 30) rfl)) (hw _ (List.mem_of_getElem? (i := 31) rfl)) (hw _ (List.mem_of_getElem? (i := 33) rfl)) (hw _ (List.mem_of_getElem? (i := 32) rfl)) (hw _ (List.mem_of_getElem? (i := 6) rfl)) (hw _ (List.mem_of_getElem? (i := 34) rfl)) EU (by decide) [] [(.int (1 : Int32))] pd_6 rfl rfl rfl rfl 1 (Nat.le_refl _) (by decide) (by decide) (by decide) (by decide) rfl fun T1 h1 v1 X1 q1 => ?_
  obtain ⟨rfl, rfl⟩ := q1
  refine w_icmp_ge X1 36 10 d5_7 (by decide) rfl rfl (fun hc7 => by exfalso; revert hc7; decide) (fun hc7 => ?_)
  refine w_aloadN X1 (pc' := 11) d5_10 rfl rfl rfl ?_
  refine w_iloadN X1 (pc' := 12) d5_11 rfl rfl ?_
  refine w_virtualV X1 (pc' := 15) d5_12 (rm_ch3_1 hw (h0 := h0) (sd_size X1) a1 S_c hzc S_f hfm S_a S_h S_l R0 R1 R2 U) (hw _ (List.mem_of_getElem? (i := 57) rfl)) (hw _ (List.mem_of_getElem? (i := 58) rfl)) (hw _ (List.mem_of_getElem? (i := 60) rfl)) (hw _ (List.mem_of_getElem? (i := 59) rfl)) (hw _ (List.mem_of_getElem? (i := 6) rfl)) (hw _ (List.mem_of_getElem? (i := 61) rfl)) EU (by decide) [(.int (1 : Int32))] [] pd_13 rfl rfl rfl rfl 0 (Nat.le_refl _) (by decide) (by decide) (by decide) (by decide) rfl fun T2 h2 v2 X2 q2 => ?_
  obtain ⟨rfl, rfl⟩ := q2
  refine w_bipush X2 (pc' := 17) (48 : Int32) d5_15 rfl rfl ?_
  refine w_icmp_lt X2 36 20 d5_17 (by decide) rfl rfl (fun hc17 => ?_) (fun hc17 => ?_)
  · skip
    refine w_iloadN X2 (pc' := 37) d5_36 rfl rfl ?_
    refine w_iloadN X2 (pc' := 38) d5_37 rfl rfl ?_
    refine w_isub X2 (pc' := 39) d5_38 rfl ?_
    exact w_ireturn X2 d5_39 ⟨by rw [own_rn1 hc17] <;> decide, rfl⟩ (by decide) (by decide)
  · skip
    have ha1 := hc17
    refine w_aloadN X2 (pc' := 21) d5_20 rfl rfl rfl ?_
    refine w_iloadN X2 (pc' := 22) d5_21 rfl rfl ?_
    refine w_virtualV X2 (pc' := 25) d5_22 (rm_ch3_1 hw (h0 := h0) (sd_size X2) a1 S_c hzc S_f hfm S_a S_h S_l R0 R1 R2 U) (hw _ (List.mem_of_getElem? (i := 57) rfl)) (hw _ (List.mem_of_getElem? (i := 58) rfl)) (hw _ (List.mem_of_getElem? (i := 60) rfl)) (hw _ (List.mem_of_getElem? (i := 59) rfl)) (hw _ (List.mem_of_getElem? (i := 6) rfl)) (hw _ (List.mem_of_getElem? (i := 61) rfl)) EU (by decide) [(.int (1 : Int32))] [] pd_13 rfl rfl rfl rfl 0 (Nat.le_refl _) (by decide) (by decide) (by decide) (by decide) rfl fun T3 h3 v3 X3 q3 => ?_
    obtain ⟨rfl, rfl⟩ := q3
    refine w_bipush X3 (pc' := 27) (57 : Int32) d5_25 rfl rfl ?_
    refine w_icmp_gt X3 36 30 d5_27 (by decide) rfl rfl (fun hc27 => ?_) (fun hc27 => ?_)
    · skip
      refine w_iloadN X3 (pc' := 37) d5_36 rfl rfl ?_
      refine w_iloadN X3 (pc' := 38) d5_37 rfl rfl ?_
      refine w_isub X3 (pc' := 39) d5_38 rfl ?_
      exact w_ireturn X3 d5_39 ⟨by rw [own_rn2 hc27] <;> decide, rfl⟩ (by decide) (by decide)
    · skip
      have hb1 := hc27
      refine w_iinc X3 (pc' := 33) ((1 : Int32) + (1 : Int32)) (l' := #[.val (.ref a1), .val (.int (1 : Int32)), .val (.int ((1 : Int32) + (1 : Int32)))]) d5_30 rfl rfl rfl rfl ?_
      refine w_goto X3 (pc' := 2) d5_33 (by decide) rfl ?_
      rw [show ((1 : Int32) + (1 : Int32)) = (2 : Int32) from by decide]
      show Go p e below _ (T3.setTop (mkF m 2 #[.val (.ref a1), .val (.int (1 : Int32)), .val (.int (2 : Int32))] []))
      refine w_iloadN X3 (pc' := 3) d5_2 rfl rfl ?_
      refine w_aloadN X3 (pc' := 4) d5_3 rfl rfl rfl ?_
      refine w_virtualV X3 (pc' := 7) d5_4 (rm_len3 hw (h0 := h0) (sd_size X3) a1 S_c hzc S_f hfm S_a S_h S_l R0 R1 R2 U) (hw _ (List.mem_of_getElem? (i := 30) rfl)) (hw _ (List.mem_of_getElem? (i := 31) rfl)) (hw _ (List.mem_of_getElem? (i := 33) rfl)) (hw _ (List.mem_of_getElem? (i := 32) rfl)) (hw _ (List.mem_of_getElem? (i := 6) rfl)) (hw _ (List.mem_of_getElem? (i := 34) rfl)) EU (by decide) [] [(.int (2 : Int32))] pd_6 rfl rfl rfl rfl 1 (Nat.le_refl _) (by decide) (by decide) (by decide) (by decide) rfl fun T4 h4 v4 X4 q4 => ?_
      obtain ⟨rfl, rfl⟩ := q4
      refine w_icmp_ge X4 36 10 d5_7 (by decide) rfl rfl (fun hc7 => by exfalso; revert hc7; decide) (fun hc7 => ?_)
      refine w_aloadN X4 (pc' := 11) d5_10 rfl rfl rfl ?_
      refine w_iloadN X4 (pc' := 12) d5_11 rfl rfl ?_
      refine w_virtualV X4 (pc' := 15) d5_12 (rm_ch3_2 hw (h0 := h0) (sd_size X4) a1 S_c hzc S_f hfm S_a S_h S_l R0 R1 R2 U) (hw _ (List.mem_of_getElem? (i := 57) rfl)) (hw _ (List.mem_of_getElem? (i := 58) rfl)) (hw _ (List.mem_of_getElem? (i := 60) rfl)) (hw _ (List.mem_of_getElem? (i := 59) rfl)) (hw _ (List.mem_of_getElem? (i := 6) rfl)) (hw _ (List.mem_of_getElem? (i := 61) rfl)) EU (by decide) [(.int (2 : Int32))] [] pd_13 rfl rfl rfl rfl 0 (Nat.le_refl _) (by decide) (by decide) (by decide) (by decide) rfl fun T5 h5 v5 X5 q5 => ?_
      obtain ⟨rfl, rfl⟩ := q5
      refine w_bipush X5 (pc' := 17) (48 : Int32) d5_15 rfl rfl ?_
      refine w_icmp_lt X5 36 20 d5_17 (by decide) rfl rfl (fun hc17 => ?_) (fun hc17 => ?_)
      · skip
        refine w_iloadN X5 (pc' := 37) d5_36 rfl rfl ?_
        refine w_iloadN X5 (pc' := 38) d5_37 rfl rfl ?_
        refine w_isub X5 (pc' := 39) d5_38 rfl ?_
        exact w_ireturn X5 d5_39 ⟨by rw [own_rp ha1 hb1, own_rn1 hc17] <;> decide, rfl⟩ (by decide) (by decide)
      · skip
        have ha2 := hc17
        refine w_aloadN X5 (pc' := 21) d5_20 rfl rfl rfl ?_
        refine w_iloadN X5 (pc' := 22) d5_21 rfl rfl ?_
        refine w_virtualV X5 (pc' := 25) d5_22 (rm_ch3_2 hw (h0 := h0) (sd_size X5) a1 S_c hzc S_f hfm S_a S_h S_l R0 R1 R2 U) (hw _ (List.mem_of_getElem? (i := 57) rfl)) (hw _ (List.mem_of_getElem? (i := 58) rfl)) (hw _ (List.mem_of_getElem? (i := 60) rfl)) (hw _ (List.mem_of_getElem? (i := 59) rfl)) (hw _ (List.mem_of_getElem? (i := 6) rfl)) (hw _ (List.mem_of_getElem? (i := 61) rfl)) EU (by decide) [(.int (2 : Int32))] [] pd_13 rfl rfl rfl rfl 0 (Nat.le_refl _) (by decide) (by decide) (by decide) (by decide) rfl fun T6 h6 v6 X6 q6 => ?_
        obtain ⟨rfl, rfl⟩ := q6
        refine w_bipush X6 (pc' := 27) (57 : Int32) d5_25 rfl rfl ?_
        refine w_icmp_gt X6 36 30 d5_27 (by decide) rfl rfl (fun hc27 => ?_) (fun hc27 => ?_)
        · skip
          refine w_iloadN X6 (pc' := 37) d5_36 rfl rfl ?_
          refine w_iloadN X6 (pc' := 38) d5_37 rfl rfl ?_
          refine w_isub X6 (pc' := 39) d5_38 rfl ?_
          exact w_ireturn X6 d5_39 ⟨by rw [own_rp ha1 hb1, own_rn2 hc27] <;> decide, rfl⟩ (by decide) (by decide)
        · skip
          have hb2 := hc27
          refine w_iinc X6 (pc' := 33) ((2 : Int32) + (1 : Int32)) (l' := #[.val (.ref a1), .val (.int (1 : Int32)), .val (.int ((2 : Int32) + (1 : Int32)))]) d5_30 rfl rfl rfl rfl ?_
          refine w_goto X6 (pc' := 2) d5_33 (by decide) rfl ?_
          rw [show ((2 : Int32) + (1 : Int32)) = (3 : Int32) from by decide]
          show Go p e below _ (T6.setTop (mkF m 2 #[.val (.ref a1), .val (.int (1 : Int32)), .val (.int (3 : Int32))] []))
          refine w_iloadN X6 (pc' := 3) d5_2 rfl rfl ?_
          refine w_aloadN X6 (pc' := 4) d5_3 rfl rfl rfl ?_
          refine w_virtualV X6 (pc' := 7) d5_4 (rm_len3 hw (h0 := h0) (sd_size X6) a1 S_c hzc S_f hfm S_a S_h S_l R0 R1 R2 U) (hw _ (List.mem_of_getElem? (i := 30) rfl)) (hw _ (List.mem_of_getElem? (i := 31) rfl)) (hw _ (List.mem_of_getElem? (i := 33) rfl)) (hw _ (List.mem_of_getElem? (i := 32) rfl)) (hw _ (List.mem_of_getElem? (i := 6) rfl)) (hw _ (List.mem_of_getElem? (i := 34) rfl)) EU (by decide) [] [(.int (3 : Int32))] pd_6 rfl rfl rfl rfl 1 (Nat.le_refl _) (by decide) (by decide) (by decide) (by decide) rfl fun T7 h7 v7 X7 q7 => ?_
          obtain ⟨rfl, rfl⟩ := q7
          refine w_icmp_ge X7 36 10 d5_7 (by decide) rfl rfl (fun hc7 => ?_) (fun hc7 => by exfalso; revert hc7; decide)
          refine w_iloadN X7 (pc' := 37) d5_36 rfl rfl ?_
          refine w_iloadN X7 (pc' := 38) d5_37 rfl rfl ?_
          refine w_isub X7 (pc' := 39) d5_38 rfl ?_
          exact w_ireturn X7 d5_39 ⟨by rw [own_rp ha1 hb1, own_rp ha2 hb2, show own_run [] = 0 from rfl] <;> decide, rfl⟩ (by decide) (by decide)
set_option maxRecDepth 65536 in
set_option maxHeartbeats 40000000 in
theorem rm_dg3_2 {l : Launch} {Z : State} {a0 : Array Value} (hw : ∀ d ∈ tables_1, d.before a0 Z = true) {n0 : Nat} {h0 : Heap} (Z0 : n0 ≤ h0.size) (a1 : Addr) {zc : Int32} (S_c : Sta Z h0 "java/lang/String" "COMPACT_STRINGS" "Z" (.int zc)) (hzc : ¬ zc = (0 : Int32)) {fm : Value} (S_f : Sta Z h0 "jdk/internal/util/Preconditions" "SIOOBE_FORMATTER" "Ljava/util/function/BiFunction;" fm) (hfm : fm.isRef = true) (S_a : Sta Z h0 "java/lang/StringUTF16" "$assertionsDisabled" "Z" (.int 1)) (S_h : Sta Z h0 "java/lang/StringUTF16" "HI_BYTE_SHIFT" "I" (.int 0)) (S_l : Sta Z h0 "java/lang/StringUTF16" "LO_BYTE_SHIFT" "I" (.int 8)) {c0 c1 c2 : Int32} (R0 : own_R c0) (R1 : own_R c1) (R2 : own_R c2) (U : StrU Z h0 a1 [c0, c1, c2]) :
    Con l Z n0 (⟨"com/example/admitwire/admitwire/core/Timestamp", "digits", "(Ljava/lang/String;I)I"⟩ : MethodName) prog_53_method_11_code 3 (some .int) ({ frames := 5, cells := 0, slots := 0, locals := 66 } : Room) #[(.ref a1), (.int (2 : Int32))] h0 (Val (fun v h => v = .int (own_run [c2]) ∧ h0 = h)) := by
  refine con_intro pn_5 Z0 (fr := fun m => mkF m 0 #[.val (.ref a1), .val (.int (2 : Int32)), .unset] []) (fun m => by first | (simp [entryFrame, mkF, argsToLocals, Value.category]; done) | rfl) ?_
  intro p e s m below s₁ hs0 X0
  have EU := U.exa
  refine w_iloadN X0 (pc' := 1) d5_0 rfl rfl ?_
  refine w_istoreN X0 (pc' := 2) (l' := #[.val (.ref a1), .val (.int (2 : Int32)), .val (.int (2 : Int32))]) d5_1 rfl rfl ?_
  refine w_iloadN X0 (pc' := 3) d5_2 rfl rfl ?_
  refine w_aloadN X0 (pc' := 4) d5_3 rfl rfl rfl ?_
  refine w_virtualV X0 (pc' := 7) d5_4 (rm_len3 hw (h0 := h0) (sd_size X0) a1 S_c hzc S_f hfm S_a S_h S_l R0 R1 R2 U) (hw _ (List.mem_of_getElem? (i := 30) rfl)) (hw _ (List.mem_of_getElem? (i := 31) rfl)) (hw _ (List.mem_of_getElem? (i := 33) rfl)) (hw _ (List.mem_of_getElem? (i := 32) rfl)) (hw _ (List.mem_of_getElem? (i := 6) rfl)) (hw _ (List.mem_of_getElem? (i := 34) rfl)) EU (by decide) [] [(.int (2 : Int32))] pd_6 rfl rfl rfl rfl 1 (Nat.le_refl _) (by decide) (by decide) (by decide) (by decide) rfl fun T1 h1 v1 X1 q1 => ?_
  obtain ⟨rfl, rfl⟩ := q1
  refine w_icmp_ge X1 36 10 d5_7 (by decide) rfl rfl (fun hc7 => by exfalso; revert hc7; decide) (fun hc7 => ?_)
  refine w_aloadN X1 (pc' := 11) d5_10 rfl rfl rfl ?_
  refine w_iloadN X1 (pc' := 12) d5_11 rfl rfl ?_
  refine w_virtualV X1 (pc' := 15) d5_12 (rm_ch3_2 hw (h0 := h0) (sd_size X1) a1 S_c hzc S_f hfm S_a S_h S_l R0 R1 R2 U) (hw _ (List.mem_of_getElem? (i := 57) rfl)) (hw _ (List.mem_of_getElem? (i := 58) rfl)) (hw _ (List.mem_of_getElem? (i := 60) rfl)) (hw _ (List.mem_of_getElem? (i := 59) rfl)) (hw _ (List.mem_of_getElem? (i := 6) rfl)) (hw _ (List.mem_of_getElem? (i := 61) rfl)) EU (by decide) [(.int (2 : Int32))] [] pd_13 rfl rfl rfl rfl 0 (Nat.le_refl _) (by decide) (by decide) (by decide) (by decide) rfl fun T2 h2 v2 X2 q2 => ?_
  obtain ⟨rfl, rfl⟩ := q2
  refine w_bipush X2 (pc' := 17) (48 : Int32) d5_15 rfl rfl ?_
  refine w_icmp_lt X2 36 20 d5_17 (by decide) rfl rfl (fun hc17 => ?_) (fun hc17 => ?_)
  · skip
    refine w_iloadN X2 (pc' := 37) d5_36 rfl rfl ?_
    refine w_iloadN X2 (pc' := 38) d5_37 rfl rfl ?_
    refine w_isub X2 (pc' := 39) d5_38 rfl ?_
    exact w_ireturn X2 d5_39 ⟨by rw [own_rn1 hc17] <;> decide, rfl⟩ (by decide) (by decide)
  · skip
    have ha2 := hc17
    refine w_aloadN X2 (pc' := 21) d5_20 rfl rfl rfl ?_
    refine w_iloadN X2 (pc' := 22) d5_21 rfl rfl ?_
    refine w_virtualV X2 (pc' := 25) d5_22 (rm_ch3_2 hw (h0 := h0) (sd_size X2) a1 S_c hzc S_f hfm S_a S_h S_l R0 R1 R2 U) (hw _ (List.mem_of_getElem? (i := 57) rfl)) (hw _ (List.mem_of_getElem? (i := 58) rfl)) (hw _ (List.mem_of_getElem? (i := 60) rfl)) (hw _ (List.mem_of_getElem? (i := 59) rfl)) (hw _ (List.mem_of_getElem? (i := 6) rfl)) (hw _ (List.mem_of_getElem? (i := 61) rfl)) EU (by decide) [(.int (2 : Int32))] [] pd_13 rfl rfl rfl rfl 0 (Nat.le_refl _) (by decide) (by decide) (by decide) (by decide) rfl fun T3 h3 v3 X3 q3 => ?_
    obtain ⟨rfl, rfl⟩ := q3
    refine w_bipush X3 (pc' := 27) (57 : Int32) d5_25 rfl rfl ?_
    refine w_icmp_gt X3 36 30 d5_27 (by decide) rfl rfl (fun hc27 => ?_) (fun hc27 => ?_)
    · skip
      refine w_iloadN X3 (pc' := 37) d5_36 rfl rfl ?_
      refine w_iloadN X3 (pc' := 38) d5_37 rfl rfl ?_
      refine w_isub X3 (pc' := 39) d5_38 rfl ?_
      exact w_ireturn X3 d5_39 ⟨by rw [own_rn2 hc27] <;> decide, rfl⟩ (by decide) (by decide)
    · skip
      have hb2 := hc27
      refine w_iinc X3 (pc' := 33) ((2 : Int32) + (1 : Int32)) (l' := #[.val (.ref a1), .val (.int (2 : Int32)), .val (.int ((2 : Int32) + (1 : Int32)))]) d5_30 rfl rfl rfl rfl ?_
      refine w_goto X3 (pc' := 2) d5_33 (by decide) rfl ?_
      rw [show ((2 : Int32) + (1 : Int32)) = (3 : Int32) from by decide]
      show Go p e below _ (T3.setTop (mkF m 2 #[.val (.ref a1), .val (.int (2 : Int32)), .val (.int (3 : Int32))] []))
      refine w_iloadN X3 (pc' := 3) d5_2 rfl rfl ?_
      refine w_aloadN X3 (pc' := 4) d5_3 rfl rfl rfl ?_
      refine w_virtualV X3 (pc' := 7) d5_4 (rm_len3 hw (h0 := h0) (sd_size X3) a1 S_c hzc S_f hfm S_a S_h S_l R0 R1 R2 U) (hw _ (List.mem_of_getElem? (i := 30) rfl)) (hw _ (List.mem_of_getElem? (i := 31) rfl)) (hw _ (List.mem_of_getElem? (i := 33) rfl)) (hw _ (List.mem_of_getElem? (i := 32) rfl)) (hw _ (List.mem_of_getElem? (i := 6) rfl)) (hw _ (List.mem_of_getElem? (i := 34) rfl)) EU (by decide) [] [(.int (3 : Int32))] pd_6 rfl rfl rfl rfl 1 (Nat.le_refl _) (by decide) (by decide) (by decide) (by decide) rfl fun T4 h4 v4 X4 q4 => ?_
      obtain ⟨rfl, rfl⟩ := q4
      refine w_icmp_ge X4 36 10 d5_7 (by decide) rfl rfl (fun hc7 => ?_) (fun hc7 => by exfalso; revert hc7; decide)
      refine w_iloadN X4 (pc' := 37) d5_36 rfl rfl ?_
      refine w_iloadN X4 (pc' := 38) d5_37 rfl rfl ?_
      refine w_isub X4 (pc' := 39) d5_38 rfl ?_
      exact w_ireturn X4 d5_39 ⟨by rw [own_rp ha2 hb2, show own_run [] = 0 from rfl] <;> decide, rfl⟩ (by decide) (by decide)
set_option maxRecDepth 65536 in
set_option maxHeartbeats 40000000 in
theorem rm_dg3_x {l : Launch} {Z : State} {a0 : Array Value} (hw : ∀ d ∈ tables_1, d.before a0 Z = true) {n0 : Nat} {h0 : Heap} (Z0 : n0 ≤ h0.size) (a1 : Addr) (p2 : Int32) {zc : Int32} (S_c : Sta Z h0 "java/lang/String" "COMPACT_STRINGS" "Z" (.int zc)) (hzc : ¬ zc = (0 : Int32)) {fm : Value} (S_f : Sta Z h0 "jdk/internal/util/Preconditions" "SIOOBE_FORMATTER" "Ljava/util/function/BiFunction;" fm) (hfm : fm.isRef = true) (S_a : Sta Z h0 "java/lang/StringUTF16" "$assertionsDisabled" "Z" (.int 1)) (S_h : Sta Z h0 "java/lang/StringUTF16" "HI_BYTE_SHIFT" "I" (.int 0)) (S_l : Sta Z h0 "java/lang/StringUTF16" "LO_BYTE_SHIFT" "I" (.int 8)) {c0 c1 c2 : Int32} (R0 : own_R c0) (R1 : own_R c1) (R2 : own_R c2) (U : StrU Z h0 a1 [c0, c1, c2]) (hx : ¬ p2 < 3) :
    Con l Z n0 (⟨"com/example/admitwire/admitwire/core/Timestamp", "digits", "(Ljava/lang/String;I)I"⟩ : MethodName) prog_53_method_11_code 3 (some .int) ({ frames := 5, cells := 0, slots := 0, locals := 66 } : Room) #[(.ref a1), (.int p2)] h0 (Val (fun v h => v = .int 0 ∧ h0 = h)) := by
  refine con_intro pn_5 Z0 (fr := fun m => mkF m 0 #[.val (.ref a1), .val (.int p2), .unset] []) (fun m => by first | (simp [entryFrame, mkF, argsToLocals, Value.category]; done) | rfl) ?_
  intro p e s m below s₁ hs0 X0
  have EU := U.exa
  refine w_iloadN X0 (pc' := 1) d5_0 rfl rfl ?_
  refine w_istoreN X0 (pc' := 2) (l' := #[.val (.ref a1), .val (.int p2), .val (.int p2)]) d5_1 rfl rfl ?_
  refine w_iloadN X0 (pc' := 3) d5_2 rfl rfl ?_
  refine w_aloadN X0 (pc' := 4) d5_3 rfl rfl rfl ?_
  refine w_virtualV X0 (pc' := 7) d5_4 (rm_len3 hw (h0 := h0) (sd_size X0) a1 S_c hzc S_f hfm S_a S_h S_l R0 R1 R2 U) (hw _ (List.mem_of_getElem? (i := 30) rfl)) (hw _ (List.mem_of_getElem? (i := 31) rfl)) (hw _ (List.mem_of_getElem? (i := 33) rfl)) (hw _ (List.mem_of_getElem? (i := 32) rfl)) (hw _ (List.mem_of_getElem? (i := 6) rfl)) (hw _ (List.mem_of_getElem? (i := 34) rfl)) EU (by decide) [] [(.int p2)] pd_6 rfl rfl rfl rfl 1 (Nat.le_refl _) (by decide) (by decide) (by decide) (by decide) rfl fun T1 h1 v1 X1 q1 => ?_
  obtain ⟨rfl, rfl⟩ := q1
  refine w_icmp_ge X1 36 10 d5_7 (by decide) rfl rfl (fun hc7 => ?_) (fun hc7 => by exfalso; exact hx hc7)
  refine w_iloadN X1 (pc' := 37) d5_36 rfl rfl ?_
  refine w_iloadN X1 (pc' := 38) d5_37 rfl rfl ?_
  refine w_isub X1 (pc' := 39) d5_38 rfl ?_
  exact w_ireturn X1 d5_39 ⟨congrArg Value.int (Int32.sub_self _), rfl⟩ (by decide) (by decide)
set_option maxRecDepth 65536 in
set_option maxHeartbeats 40000000 in
theorem rm_dg2_0 {l : Launch} {Z : State} {a0 : Array Value} (hw : ∀ d ∈ tables_1, d.before a0 Z = true) {n0 : Nat} {h0 : Heap} (Z0 : n0 ≤ h0.size) (a1 : Addr) {zc : Int32} (S_c : Sta Z h0 "java/lang/String" "COMPACT_STRINGS" "Z" (.int zc)) (hzc : ¬ zc = (0 : Int32)) {fm : Value} (S_f : Sta Z h0 "jdk/internal/util/Preconditions" "SIOOBE_FORMATTER" "Ljava/util/function/BiFunction;" fm) (hfm : fm.isRef = true) (S_a : Sta Z h0 "java/lang/StringUTF16" "$assertionsDisabled" "Z" (.int 1)) (S_h : Sta Z h0 "java/lang/StringUTF16" "HI_BYTE_SHIFT" "I" (.int 0)) (S_l : Sta Z h0 "java/lang/StringUTF16" "LO_BYTE_SHIFT" "I" (.int 8)) {c0 c1 : Int32} (R0 : own_R c0) (R1 : own_R c1) (U : StrU Z h0 a1 [c0, c1]) :
    Con l Z n0 (⟨"com/example/admitwire/admitwire/core/Timestamp", "digits", "(Ljava/lang/String;I)I"⟩ : MethodName) prog_53_method_11_code 3 (some .int) ({ frames := 5, cells := 0, slots := 0, locals := 66 } : Room) #[(.ref a1), (.int (0 : Int32))] h0 (Val (fun v h => v = .int (own_run [c0, c1]) ∧ h0 = h)) := by
  refine con_intro pn_5 Z0 (fr := fun m => mkF m 0 #[.val (.ref a1), .val (.int (0 : Int32)), .unset] []) (fun m => by first | (simp [entryFrame, mkF, argsToLocals, Value.category]; done) | rfl) ?_
  intro p e s m below s₁ hs0 X0
  have EU := U.exa
  refine w_iloadN X0 (pc' := 1) d5_0 rfl rfl ?_
  refine w_istoreN X0 (pc' := 2) (l' := #[.val (.ref a1), .val (.int (0 : Int32)), .val (.int (0 : Int32))]) d5_1 rfl rfl ?_
  refine w_iloadN X0 (pc' := 3) d5_2 rfl rfl ?_
  refine w_aloadN X0 (pc' := 4) d5_3 rfl rfl rfl ?_
  refine w_virtualV X0 (pc' := 7) d5_4 (rm_len2 hw (h0 := h0) (sd_size X0) a1 S_c hzc S_f hfm S_a S_h S_l R0 R1 U) (hw _ (List.mem_of_getElem? (i := 30) rfl)) (hw _ (List.mem_of_getElem? (i := 31) rfl)) (hw _ (List.mem_of_getElem? (i := 33) rfl)) (hw _ (List.mem_of_getElem? (i := 32) rfl)) (hw _ (List.mem_of_getElem? (i := 6) rfl)) (hw _ (List.mem_of_getElem? (i := 34) rfl)) EU (by decide) [] [(.int (0 : Int32))] pd_6 rfl rfl rfl rfl 1 (Nat.le_refl _) (by decide) (by decide) (by decide) (by decide) rfl fun T1 h1 v1 X1 q1 => ?_
  obtain ⟨rfl, rfl⟩ := q1
  refine w_icmp_ge X1 36 10 d5_7 (by decide) rfl rfl (fun hc7 => by exfalso; revert hc7; decide) (fun hc7 => ?_)
  refine w_aloadN X1 (pc' := 11) d5_10 rfl rfl rfl ?_
  refine w_iloadN X1 (pc' := 12) d5_11 rfl rfl ?_
  refine w_virtualV X1 (pc' := 15) d5_12 (rm_ch2_0 hw (h0 := h0) (sd_size X1) a1 S_c hzc S_f hfm S_a S_h S_l R0 R1 U) (hw _ (List.mem_of_getElem? (i := 57) rfl)) (hw _ (List.mem_of_getElem? (i := 58) rfl)) (hw _ (List.mem_of_getElem? (i := 60) rfl)) (hw _ (List.mem_of_getElem? (i := 59) rfl)) (hw _ (List.mem_of_getElem? (i := 6) rfl)) (hw _ (List.mem_of_getElem? (i := 61) rfl)) EU (by decide) [(.int (0 : Int32))] [] pd_13 rfl rfl rfl rfl 0 (Nat.le_refl _) (by decide) (by decide) (by decide) (by decide) rfl fun T2 h2 v2 X2 q2 => ?_
  obtain ⟨rfl, rfl⟩ := q2
  refine w_bipush X2 (pc' := 17) (48 : Int32) d5_15 rfl rfl ?_
  refine w_icmp_lt X2 36 20 d5_17 (by decide) rfl rfl (fun hc17 => ?_) (fun hc17 => ?_)
  · skip
    refine w_iloadN X2 (pc' := 37) d5_36 rfl rfl ?_
    refine w_iloadN X2 (pc' := 38) d5_37 rfl rfl ?_
    refine w_isub X2 (pc' := 39) d5_38 rfl ?_
    exact w_ireturn X2 d5_39 ⟨by rw [own_rn1 hc17] <;> decide, rfl⟩ (by decide) (by decide)
  · skip
    have ha0 := hc17
    refine w_aloadN X2 (pc' := 21) d5_20 rfl rfl rfl ?_
    refine w_iloadN X2 (pc' := 22) d5_21 rfl rfl ?_
    refine w_virtualV X2 (pc' := 25) d5_22 (rm_ch2_0 hw (h0 := h0) (sd_size X2) a1 S_c hzc S_f hfm S_a S_h S_l R0 R1 U) (hw _ (List.mem_of_getElem? (i := 57) rfl)) (hw _ (List.mem_of_getElem? (i := 58) rfl)) (hw _ (List.mem_of_getElem? (i := 60) rfl)) (hw _ (List.mem_of_getElem? (i := 59) rfl)) (hw _ (List.mem_of_getElem? (i := 6) rfl)) (hw _ (List.mem_of_getElem? (i := 61) rfl)) EU (by decide) [(.int (0 : Int32))] [] pd_13 rfl rfl rfl rfl 0 (Nat.le_refl _) (by decide) (by decide) (by decide) (by decide) rfl fun T3 h3 v3 X3 q3 => ?_
    obtain ⟨rfl, rfl⟩ := q3
    refine w_bipush X3 (pc' := 27) (57 : Int32) d5_25 rfl rfl ?_
    refine w_icmp_gt X3 36 30 d5_27 (by decide) rfl rfl (fun hc27 => ?_) (fun hc27 => ?_)
    · skip
      refine w_iloadN X3 (pc' := 37) d5_36 rfl rfl ?_
      refine w_iloadN X3 (pc' := 38) d5_37 rfl rfl ?_
      refine w_isub X3 (pc' := 39) d5_38 rfl ?_
      exact w_ireturn X3 d5_39 ⟨by rw [own_rn2 hc27] <;> decide, rfl⟩ (by decide) (by decide)
    · skip
      have hb0 := hc27
      refine w_iinc X3 (pc' := 33) ((0 : Int32) + (1 : Int32)) (l' := #[.val (.ref a1), .val (.int (0 : Int32)), .val (.int ((0 : Int32) + (1 : Int32)))]) d5_30 rfl rfl rfl rfl ?_
      refine w_goto X3 (pc' := 2) d5_33 (by decide) rfl ?_
      rw [show ((0 : Int32) + (1 : Int32)) = (1 : Int32) from by decide]
      show Go p e below _ (T3.setTop (mkF m 2 #[.val (.ref a1), .val (.int (0 : Int32)), .val (.int (1 : Int32))] []))
      refine w_iloadN X3 (pc' := 3) d5_2 rfl rfl ?_
      refine w_aloadN X3 (pc' := 4) d5_3 rfl rfl rfl ?_
      refine w_virtualV X3 (pc' := 7) d5_4 (rm_len2 hw (h0 := h0) (sd_size X3) a1 S_c hzc S_f hfm S_a S_h S_l R0 R1 U) (hw _ (List.mem_of_getElem? (i := 30) rfl)) (hw _ (List.mem_of_getElem? (i := 31) rfl)) (hw _ (List.mem_of_getElem? (i := 33) rfl)) (hw _ (List.mem_of_getElem? (i := 32) rfl)) (hw _ (List.mem_of_getElem? (i := 6) rfl)) (hw _ (List.mem_of_getElem? (i := 34) rfl)) EU (by decide) [] [(.int (1 : Int32))] pd_6 rfl rfl rfl rfl 1 (Nat.le_refl _) (by decide) (by decide) (by decide) (by decide) rfl fun T4 h4 v4 X4 q4 => ?_
      obtain ⟨rfl, rfl⟩ := q4
      refine w_icmp_ge X4 36 10 d5_7 (by decide) rfl rfl (fun hc7 => by exfalso; revert hc7; decide) (fun hc7 => ?_)
      refine w_aloadN X4 (pc' := 11) d5_10 rfl rfl rfl ?_
      refine w_iloadN X4 (pc' := 12) d5_11 rfl rfl ?_
      refine w_virtualV X4 (pc' := 15) d5_12 (rm_ch2_1 hw (h0 := h0) (sd_size X4) a1 S_c hzc S_f hfm S_a S_h S_l R0 R1 U) (hw _ (List.mem_of_getElem? (i := 57) rfl)) (hw _ (List.mem_of_getElem? (i := 58) rfl)) (hw _ (List.mem_of_getElem? (i := 60) rfl)) (hw _ (List.mem_of_getElem? (i := 59) rfl)) (hw _ (List.mem_of_getElem? (i := 6) rfl)) (hw _ (List.mem_of_getElem? (i := 61) rfl)) EU (by decide) [(.int (1 : Int32))] [] pd_13 rfl rfl rfl rfl 0 (Nat.le_refl _) (by decide) (by decide) (by decide) (by decide) rfl fun T5 h5 v5 X5 q5 => ?_
      obtain ⟨rfl, rfl⟩ := q5
      refine w_bipush X5 (pc' := 17) (48 : Int32) d5_15 rfl rfl ?_
      refine w_icmp_lt X5 36 20 d5_17 (by decide) rfl rfl (fun hc17 => ?_) (fun hc17 => ?_)
      · skip
        refine w_iloadN X5 (pc' := 37) d5_36 rfl rfl ?_
        refine w_iloadN X5 (pc' := 38) d5_37 rfl rfl ?_
        refine w_isub X5 (pc' := 39) d5_38 rfl ?_
        exact w_ireturn X5 d5_39 ⟨by rw [own_rp ha0 hb0, own_rn1 hc17] <;> decide, rfl⟩ (by decide) (by decide)
      · skip
        have ha1 := hc17
        refine w_aloadN X5 (pc' := 21) d5_20 rfl rfl rfl ?_
        refine w_iloadN X5 (pc' := 22) d5_21 rfl rfl ?_
        refine w_virtualV X5 (pc' := 25) d5_22 (rm_ch2_1 hw (h0 := h0) (sd_size X5) a1 S_c hzc S_f hfm S_a S_h S_l R0 R1 U) (hw _ (List.mem_of_getElem? (i := 57) rfl)) (hw _ (List.mem_of_getElem? (i := 58) rfl)) (hw _ (List.mem_of_getElem? (i := 60) rfl)) (hw _ (List.mem_of_getElem? (i := 59) rfl)) (hw _ (List.mem_of_getElem? (i := 6) rfl)) (hw _ (List.mem_of_getElem? (i := 61) rfl)) EU (by decide) [(.int (1 : Int32))] [] pd_13 rfl rfl rfl rfl 0 (Nat.le_refl _) (by decide) (by decide) (by decide) (by decide) rfl fun T6 h6 v6 X6 q6 => ?_
        obtain ⟨rfl, rfl⟩ := q6
        refine w_bipush X6 (pc' := 27) (57 : Int32) d5_25 rfl rfl ?_
        refine w_icmp_gt X6 36 30 d5_27 (by decide) rfl rfl (fun hc27 => ?_) (fun hc27 => ?_)
        · skip
          refine w_iloadN X6 (pc' := 37) d5_36 rfl rfl ?_
          refine w_iloadN X6 (pc' := 38) d5_37 rfl rfl ?_
          refine w_isub X6 (pc' := 39) d5_38 rfl ?_
          exact w_ireturn X6 d5_39 ⟨by rw [own_rp ha0 hb0, own_rn2 hc27] <;> decide, rfl⟩ (by decide) (by decide)
        · skip
          have hb1 := hc27
          refine w_iinc X6 (pc' := 33) ((1 : Int32) + (1 : Int32)) (l' := #[.val (.ref a1), .val (.int (0 : Int32)), .val (.int ((1 : Int32) + (1 : Int32)))]) d5_30 rfl rfl rfl rfl ?_
          refine w_goto X6 (pc' := 2) d5_33 (by decide) rfl ?_
          rw [show ((1 : Int32) + (1 : Int32)) = (2 : Int32) from by decide]
          show Go p e below _ (T6.setTop (mkF m 2 #[.val (.ref a1), .val (.int (0 : Int32)), .val (.int (2 : Int32))] []))
          refine w_iloadN X6 (pc' := 3) d5_2 rfl rfl ?_
          refine w_aloadN X6 (pc' := 4) d5_3 rfl rfl rfl ?_
          refine w_virtualV X6 (pc' := 7) d5_4 (rm_len2 hw (h0 := h0) (sd_size X6) a1 S_c hzc S_f hfm S_a S_h S_l R0 R1 U) (hw _ (List.mem_of_getElem? (i := 30) rfl)) (hw _ (List.mem_of_getElem? (i := 31) rfl)) (hw _ (List.mem_of_getElem? (i := 33) rfl)) (hw _ (List.mem_of_getElem? (i := 32) rfl)) (hw _ (List.mem_of_getElem? (i := 6) rfl)) (hw _ (List.mem_of_getElem? (i := 34) rfl)) EU (by decide) [] [(.int (2 : Int32))] pd_6 rfl rfl rfl rfl 1 (Nat.le_refl _) (by decide) (by decide) (by decide) (by decide) rfl fun T7 h7 v7 X7 q7 => ?_
          obtain ⟨rfl, rfl⟩ := q7
          refine w_icmp_ge X7 36 10 d5_7 (by decide) rfl rfl (fun hc7 => ?_) (fun hc7 => by exfalso; revert hc7; decide)
          refine w_iloadN X7 (pc' := 37) d5_36 rfl rfl ?_
          refine w_iloadN X7 (pc' := 38) d5_37 rfl rfl ?_
          refine w_isub X7 (pc' := 39) d5_38 rfl ?_
          exact w_ireturn X7 d5_39 ⟨by rw [own_rp ha0 hb0, own_rp ha1 hb1, show own_run [] = 0 from rfl] <;> decide, rfl⟩ (by decide) (by decide)
set_option maxRecDepth 65536 in
set_option maxHeartbeats 40000000 in
theorem rm_dg2_1 {l : Launch} {Z : State} {a0 : Array Value} (hw : ∀ d ∈ tables_1, d.before a0 Z = true) {n0 : Nat} {h0 : Heap} (Z0 : n0 ≤ h0.size) (a1 : Addr) {zc : Int32} (S_c : Sta Z h0 "java/lang/String" "COMPACT_STRINGS" "Z" (.int zc)) (hzc : ¬ zc = (0 : Int32)) {fm : Value} (S_f : Sta Z h0 "jdk/internal/util/Preconditions" "SIOOBE_FORMATTER" "Ljava/util/function/BiFunction;" fm) (hfm : fm.isRef = true) (S_a : Sta Z h0 "java/lang/StringUTF16" "$assertionsDisabled" "Z" (.int 1)) (S_h : Sta Z h0 "java/lang/StringUTF16" "HI_BYTE_SHIFT" "I" (.int 0)) (S_l : Sta Z h0 "java/lang/StringUTF16" "LO_BYTE_SHIFT" "I" (.int 8)) {c0 c1 : Int32} (R0 : own_R c0) (R1 : own_R c1) (U : StrU Z h0 a1 [c0, c1]) :
    Con l Z n0 (⟨"com/example/admitwire/admitwire/core/Timestamp", "digits", "(Ljava/lang/String;I)I"⟩ : MethodName) prog_53_method_11_code 3 (some .int) ({ frames := 5, cells := 0, slots := 0, locals := 66 } : Room) #[(.ref a1), (.int (1 : Int32))] h0 (Val (fun v h => v = .int (own_run [c1]) ∧ h0 = h)) := by
  refine con_intro pn_5 Z0 (fr := fun m => mkF m 0 #[.val (.ref a1), .val (.int (1 : Int32)), .unset] []) (fun m => by first | (simp [entryFrame, mkF, argsToLocals, Value.category]; done) | rfl) ?_
  intro p e s m below s₁ hs0 X0
  have EU := U.exa
  refine w_iloadN X0 (pc' := 1) d5_0 rfl rfl ?_
  refine w_istoreN X0 (pc' := 2) (l' := #[.val (.ref a1), .val (.int (1 : Int32)), .val (.int (1 : Int32))]) d5_1 rfl rfl ?_
  refine w_iloadN X0 (pc' := 3) d5_2 rfl rfl ?_
  refine w_aloadN X0 (pc' := 4) d5_3 rfl rfl rfl ?_
  refine w_virtualV X0 (pc' := 7) d5_4 (rm_len2 hw (h0 := h0) (sd_size X0) a1 S_c hzc S_f hfm S_a S_h S_l R0 R1 U) (hw _ (List.mem_of_getElem? (i := 30) rfl)) (hw _ (List.mem_of_getElem? (i := 31) rfl)) (hw _ (List.mem_of_getElem? (i := 33) rfl)) (hw _ (List.mem_of_getElem? (i := 32) rfl)) (hw _ (List.mem_of_getElem? (i := 6) rfl)) (hw _ (List.mem_of_getElem? (i := 34) rfl)) EU (by decide) [] [(.int (1 : Int32))] pd_6 rfl rfl rfl rfl 1 (Nat.le_refl _) (by decide) (by decide) (by decide) (by decide) rfl fun T1 h1 v1 X1 q1 => ?_
  obtain ⟨rfl, rfl⟩ := q1
  refine w_icmp_ge X1 36 10 d5_7 (by decide) rfl rfl (fun hc7 => by exfalso; revert hc7; decide) (fun hc7 => ?_)
  refine w_aloadN X1 (pc' := 11) d5_10 rfl rfl rfl ?_
  refine w_iloadN X1 (pc' := 12) d5_11 rfl rfl ?_
  refine w_virtualV X1 (pc' := 15) d5_12 (rm_ch2_1 hw (h0 := h0) (sd_size X1) a1 S_c hzc S_f hfm S_a S_h S_l R0 R1 U) (hw _ (List.mem_of_getElem? (i := 57) rfl)) (hw _ (List.mem_of_getElem? (i := 58) rfl)) (hw _ (List.mem_of_getElem? (i := 60) rfl)) (hw _ (List.mem_of_getElem? (i := 59) rfl)) (hw _ (List.mem_of_getElem? (i := 6) rfl)) (hw _ (List.mem_of_getElem? (i := 61) rfl)) EU (by decide) [(.int (1 : Int32))] [] pd_13 rfl rfl rfl rfl 0 (Nat.le_refl _) (by decide) (by decide) (by decide) (by decide) rfl fun T2 h2 v2 X2 q2 => ?_
  obtain ⟨rfl, rfl⟩ := q2
  refine w_bipush X2 (pc' := 17) (48 : Int32) d5_15 rfl rfl ?_
  refine w_icmp_lt X2 36 20 d5_17 (by decide) rfl rfl (fun hc17 => ?_) (fun hc17 => ?_)
  · skip
    refine w_iloadN X2 (pc' := 37) d5_36 rfl rfl ?_
    refine w_iloadN X2 (pc' := 38) d5_37 rfl rfl ?_
    refine w_isub X2 (pc' := 39) d5_38 rfl ?_
    exact w_ireturn X2 d5_39 ⟨by rw [own_rn1 hc17] <;> decide, rfl⟩ (by decide) (by decide)
  · skip
    have ha1 := hc17
    refine w_aloadN X2 (pc' := 21) d5_20 rfl rfl rfl ?_
    refine w_iloadN X2 (pc' := 22) d5_21 rfl rfl ?_
    refine w_virtualV X2 (pc' := 25) d5_22 (rm_ch2_1 hw (h0 := h0) (sd_size X2) a1 S_c hzc S_f hfm S_a S_h S_l R0 R1 U) (hw _ (List.mem_of_getElem? (i := 57) rfl)) (hw _ (List.mem_of_getElem? (i := 58) rfl)) (hw _ (List.mem_of_getElem? (i := 60) rfl)) (hw _ (List.mem_of_getElem? (i := 59) rfl)) (hw _ (List.mem_of_getElem? (i := 6) rfl)) (hw _ (List.mem_of_getElem? (i := 61) rfl)) EU (by decide) [(.int (1 : Int32))] [] pd_13 rfl rfl rfl rfl 0 (Nat.le_refl _) (by decide) (by decide) (by decide) (by decide) rfl fun T3 h3 v3 X3 q3 => ?_
    obtain ⟨rfl, rfl⟩ := q3
    refine w_bipush X3 (pc' := 27) (57 : Int32) d5_25 rfl rfl ?_
    refine w_icmp_gt X3 36 30 d5_27 (by decide) rfl rfl (fun hc27 => ?_) (fun hc27 => ?_)
    · skip
      refine w_iloadN X3 (pc' := 37) d5_36 rfl rfl ?_
      refine w_iloadN X3 (pc' := 38) d5_37 rfl rfl ?_
      refine w_isub X3 (pc' := 39) d5_38 rfl ?_
      exact w_ireturn X3 d5_39 ⟨by rw [own_rn2 hc27] <;> decide, rfl⟩ (by decide) (by decide)
    · skip
      have hb1 := hc27
      refine w_iinc X3 (pc' := 33) ((1 : Int32) + (1 : Int32)) (l' := #[.val (.ref a1), .val (.int (1 : Int32)), .val (.int ((1 : Int32) + (1 : Int32)))]) d5_30 rfl rfl rfl rfl ?_
      refine w_goto X3 (pc' := 2) d5_33 (by decide) rfl ?_
      rw [show ((1 : Int32) + (1 : Int32)) = (2 : Int32) from by decide]
      show Go p e below _ (T3.setTop (mkF m 2 #[.val (.ref a1), .val (.int (1 : Int32)), .val (.int (2 : Int32))] []))
      refine w_iloadN X3 (pc' := 3) d5_2 rfl rfl ?_
      refine w_aloadN X3 (pc' := 4) d5_3 rfl rfl rfl ?_
      refine w_virtualV X3 (pc' := 7) d5_4 (rm_len2 hw (h0 := h0) (sd_size X3) a1 S_c hzc S_f hfm S_a S_h S_l R0 R1 U) (hw _ (List.mem_of_getElem? (i := 30) rfl)) (hw _ (List.mem_of_getElem? (i := 31) rfl)) (hw _ (List.mem_of_getElem? (i := 33) rfl)) (hw _ (List.mem_of_getElem? (i := 32) rfl)) (hw _ (List.mem_of_getElem? (i := 6) rfl)) (hw _ (List.mem_of_getElem? (i := 34) rfl)) EU (by decide) [] [(.int (2 : Int32))] pd_6 rfl rfl rfl rfl 1 (Nat.le_refl _) (by decide) (by decide) (by decide) (by decide) rfl fun T4 h4 v4 X4 q4 => ?_
      obtain ⟨rfl, rfl⟩ := q4
      refine w_icmp_ge X4 36 10 d5_7 (by decide) rfl rfl (fun hc7 => ?_) (fun hc7 => by exfalso; revert hc7; decide)
      refine w_iloadN X4 (pc' := 37) d5_36 rfl rfl ?_
      refine w_iloadN X4 (pc' := 38) d5_37 rfl rfl ?_
      refine w_isub X4 (pc' := 39) d5_38 rfl ?_
      exact w_ireturn X4 d5_39 ⟨by rw [own_rp ha1 hb1, show own_run [] = 0 from rfl] <;> decide, rfl⟩ (by decide) (by decide)
set_option maxRecDepth 65536 in
set_option maxHeartbeats 40000000 in
theorem rm_dg2_x {l : Launch} {Z : State} {a0 : Array Value} (hw : ∀ d ∈ tables_1, d.before a0 Z = true) {n0 : Nat} {h0 : Heap} (Z0 : n0 ≤ h0.size) (a1 : Addr) (p2 : Int32) {zc : Int32} (S_c : Sta Z h0 "java/lang/String" "COMPACT_STRINGS" "Z" (.int zc)) (hzc : ¬ zc = (0 : Int32)) {fm : Value} (S_f : Sta Z h0 "jdk/internal/util/Preconditions" "SIOOBE_FORMATTER" "Ljava/util/function/BiFunction;" fm) (hfm : fm.isRef = true) (S_a : Sta Z h0 "java/lang/StringUTF16" "$assertionsDisabled" "Z" (.int 1)) (S_h : Sta Z h0 "java/lang/StringUTF16" "HI_BYTE_SHIFT" "I" (.int 0)) (S_l : Sta Z h0 "java/lang/StringUTF16" "LO_BYTE_SHIFT" "I" (.int 8)) {c0 c1 : Int32} (R0 : own_R c0) (R1 : own_R c1) (U : StrU Z h0 a1 [c0, c1]) (hx : ¬ p2 < 2) :
    Con l Z n0 (⟨"com/example/admitwire/admitwire/core/Timestamp", "digits", "(Ljava/lang/String;I)I"⟩ : MethodName) prog_53_method_11_code 3 (some .int) ({ frames := 5, cells := 0, slots := 0, locals := 66 } : Room) #[(.ref a1), (.int p2)] h0 (Val (fun v h => v = .int 0 ∧ h0 = h)) := by
  refine con_intro pn_5 Z0 (fr := fun m => mkF m 0 #[.val (.ref a1), .val (.int p2), .unset] []) (fun m => by first | (simp [entryFrame, mkF, argsToLocals, Value.category]; done) | rfl) ?_
  intro p e s m below s₁ hs0 X0
  have EU := U.exa
  refine w_iloadN X0 (pc' := 1) d5_0 rfl rfl ?_
  refine w_istoreN X0 (pc' := 2) (l' := #[.val (.ref a1), .val (.int p2), .val (.int p2)]) d5_1 rfl rfl ?_
  refine w_iloadN X0 (pc' := 3) d5_2 rfl rfl ?_
  refine w_aloadN X0 (pc' := 4) d5_3 rfl rfl rfl ?_
  refine w_virtualV X0 (pc' := 7) d5_4 (rm_len2 hw (h0 := h0) (sd_size X0) a1 S_c hzc S_f hfm S_a S_h S_l R0 R1 U) (hw _ (List.mem_of_getElem? (i := 30) rfl)) (hw _ (List.mem_of_getElem? (i := 31) rfl)) (hw _ (List.mem_of_getElem? (i := 33) rfl)) (hw _ (List.mem_of_getElem? (i := 32) rfl)) (hw _ (List.mem_of_getElem? (i := 6) rfl)) (hw _ (List.mem_of_getElem? (i := 34) rfl)) EU (by decide) [] [(.int p2)] pd_6 rfl rfl rfl rfl 1 (Nat.le_refl _) (by decide) (by decide) (by decide) (by decide) rfl fun T1 h1 v1 X1 q1 => ?_
  obtain ⟨rfl, rfl⟩ := q1
  refine w_icmp_ge X1 36 10 d5_7 (by decide) rfl rfl (fun hc7 => ?_) (fun hc7 => by exfalso; exact hx hc7)
  refine w_iloadN X1 (pc' := 37) d5_36 rfl rfl ?_
  refine w_iloadN X1 (pc' := 38) d5_37 rfl rfl ?_
  refine w_isub X1 (pc' := 39) d5_38 rfl ?_
  exact w_ireturn X1 d5_39 ⟨congrArg Value.int (Int32.sub_self _), rfl⟩ (by decide) (by decide)
set_option maxRecDepth 65536 in
set_option maxHeartbeats 40000000 in
theorem rm_dg1_0 {l : Launch} {Z : State} {a0 : Array Value} (hw : ∀ d ∈ tables_1, d.before a0 Z = true) {n0 : Nat} {h0 : Heap} (Z0 : n0 ≤ h0.size) (a1 : Addr) {zc : Int32} (S_c : Sta Z h0 "java/lang/String" "COMPACT_STRINGS" "Z" (.int zc)) (hzc : ¬ zc = (0 : Int32)) {fm : Value} (S_f : Sta Z h0 "jdk/internal/util/Preconditions" "SIOOBE_FORMATTER" "Ljava/util/function/BiFunction;" fm) (hfm : fm.isRef = true) (S_a : Sta Z h0 "java/lang/StringUTF16" "$assertionsDisabled" "Z" (.int 1)) (S_h : Sta Z h0 "java/lang/StringUTF16" "HI_BYTE_SHIFT" "I" (.int 0)) (S_l : Sta Z h0 "java/lang/StringUTF16" "LO_BYTE_SHIFT" "I" (.int 8)) {c0 : Int32} (R0 : own_R c0) (U : StrU Z h0 a1 [c0]) :
    Con l Z n0 (⟨"com/example/admitwire/admitwire/core/Timestamp", "digits", "(Ljava/lang/String;I)I"⟩ : MethodName) prog_53_method_11_code 3 (some .int) ({ frames := 5, cells := 0, slots := 0, locals := 66 } : Room) #[(.ref a1), (.int (0 : Int32))] h0 (Val (fun v h => v = .int (own_run [c0]) ∧ h0 = h)) := by
  refine con_intro pn_5 Z0 (fr := fun m => mkF m 0 #[.val (.ref a1), .val (.int (0 : Int32)), .unset] []) (fun m => by first | (simp [entryFrame, mkF, argsToLocals, Value.category]; done) | rfl) ?_
  intro p e s m below s₁ hs0 X0
  have EU := U.exa
  refine w_iloadN X0 (pc' := 1) d5_0 rfl rfl ?_
  refine w_istoreN X0 (pc' := 2) (l' := #[.val (.ref a1), .val (.int (0 : Int32)), .val (.int (0 : Int32))]) d5_1 rfl rfl ?_
  refine w_iloadN X0 (pc' := 3) d5_2 rfl rfl ?_
  refine w_aloadN X0 (pc' := 4) d5_3 rfl rfl rfl ?_
  refine w_virtualV X0 (pc' := 7) d5_4 (rm_len1 hw (h0 := h0) (sd_size X0) a1 S_c hzc S_f hfm S_a S_h S_l R0 U) (hw _ (List.mem_of_getElem? (i := 30) rfl)) (hw _ (List.mem_of_getElem? (i := 31) rfl)) (hw _ (List.mem_of_getElem? (i := 33) rfl)) (hw _ (List.mem_of_getElem? (i := 32) rfl)) (hw _ (List.mem_of_getElem? (i := 6) rfl)) (hw _ (List.mem_of_getElem? (i := 34) rfl)) EU (by decide) [] [(.int (0 : Int32))] pd_6 rfl rfl rfl rfl 1 (Nat.le_refl _) (by decide) (by decide) (by decide) (by decide) rfl fun T1 h1 v1 X1 q1 => ?_
  obtain ⟨rfl, rfl⟩ := q1
  refine w_icmp_ge X1 36 10 d5_7 (by decide) rfl rfl (fun hc7 => by exfalso; revert hc7; decide) (fun hc7 => ?_)
  refine w_aloadN X1 (pc' := 11) d5_10 rfl rfl rfl ?_
  refine w_iloadN X1 (pc' := 12) d5_11 rfl rfl ?_
  refine w_virtualV X1 (pc' := 15) d5_12 (rm_ch1_0 hw (h0 := h0) (sd_size X1) a1 S_c hzc S_f hfm S_a S_h S_l R0 U) (hw _ (List.mem_of_getElem? (i := 57) rfl)) (hw _ (List.mem_of_getElem? (i := 58) rfl)) (hw _ (List.mem_of_getElem? (i := 60) rfl)) (hw _ (List.mem_of_getElem? (i := 59) rfl)) (hw _ (List.mem_of_getElem? (i := 6) rfl)) (hw _ (List.mem_of_getElem? (i := 61) rfl)) EU (by decide) [(.int (0 : Int32))] [] pd_13 rfl rfl rfl rfl 0 (Nat.le_refl _) (by decide) (by decide) (by decide) (by decide) rfl fun T2 h2 v2 X2 q2 => ?_
  obtain ⟨rfl, rfl⟩ := q2
  refine w_bipush X2 (pc' := 17) (48 : Int32) d5_15 rfl rfl ?_
  refine w_icmp_lt X2 36 20 d5_17 (by decide) rfl rfl (fun hc17 => ?_) (fun hc17 => ?_)
  · skip
    refine w_iloadN X2 (pc' := 37) d5_36 rfl rfl ?_
    refine w_iloadN X2 (pc' := 38) d5_37 rfl rfl ?_
    refine w_isub X2 (pc' := 39) d5_38 rfl ?_
    exact w_ireturn X2 d5_39 ⟨by rw [own_rn1 hc17] <;> decide, rfl⟩ (by decide) (by decide)
  · skip
    have ha0 := hc17
    refine w_aloadN X2 (pc' := 21) d5_20 rfl rfl rfl ?_
    refine w_iloadN X2 (pc' := 22) d5_21 rfl rfl ?_
    refine w_virtualV X2 (pc' := 25) d5_22 (rm_ch1_0 hw (h0 := h0) (sd_size X2) a1 S_c hzc S_f hfm S_a S_h S_l R0 U) (hw _ (List.mem_of_getElem? (i := 57) rfl)) (hw _ (List.mem_of_getElem? (i := 58) rfl)) (hw _ (List.mem_of_getElem? (i := 60) rfl)) (hw _ (List.mem_of_getElem? (i := 59) rfl)) (hw _ (List.mem_of_getElem? (i := 6) rfl)) (hw _ (List.mem_of_getElem? (i := 61) rfl)) EU (by decide) [(.int (0 : Int32))] [] pd_13 rfl rfl rfl rfl 0 (Nat.le_refl _) (by decide) (by decide) (by decide) (by decide) rfl fun T3 h3 v3 X3 q3 => ?_
    obtain ⟨rfl, rfl⟩ := q3
    refine w_bipush X3 (pc' := 27) (57 : Int32) d5_25 rfl rfl ?_
    refine w_icmp_gt X3 36 30 d5_27 (by decide) rfl rfl (fun hc27 => ?_) (fun hc27 => ?_)
    · skip
      refine w_iloadN X3 (pc' := 37) d5_36 rfl rfl ?_
      refine w_iloadN X3 (pc' := 38) d5_37 rfl rfl ?_
      refine w_isub X3 (pc' := 39) d5_38 rfl ?_
      exact w_ireturn X3 d5_39 ⟨by rw [own_rn2 hc27] <;> decide, rfl⟩ (by decide) (by decide)
    · skip
      have hb0 := hc27
      refine w_iinc X3 (pc' := 33) ((0 : Int32) + (1 : Int32)) (l' := #[.val (.ref a1), .val (.int (0 : Int32)), .val (.int ((0 : Int32) + (1 : Int32)))]) d5_30 rfl rfl rfl rfl ?_
      refine w_goto X3 (pc' := 2) d5_33 (by decide) rfl ?_
      rw [show ((0 : Int32) + (1 : Int32)) = (1 : Int32) from by decide]
      show Go p e below _ (T3.setTop (mkF m 2 #[.val (.ref a1), .val (.int (0 : Int32)), .val (.int (1 : Int32))] []))
      refine w_iloadN X3 (pc' := 3) d5_2 rfl rfl ?_
      refine w_aloadN X3 (pc' := 4) d5_3 rfl rfl rfl ?_
      refine w_virtualV X3 (pc' := 7) d5_4 (rm_len1 hw (h0 := h0) (sd_size X3) a1 S_c hzc S_f hfm S_a S_h S_l R0 U) (hw _ (List.mem_of_getElem? (i := 30) rfl)) (hw _ (List.mem_of_getElem? (i := 31) rfl)) (hw _ (List.mem_of_getElem? (i := 33) rfl)) (hw _ (List.mem_of_getElem? (i := 32) rfl)) (hw _ (List.mem_of_getElem? (i := 6) rfl)) (hw _ (List.mem_of_getElem? (i := 34) rfl)) EU (by decide) [] [(.int (1 : Int32))] pd_6 rfl rfl rfl rfl 1 (Nat.le_refl _) (by decide) (by decide) (by decide) (by decide) rfl fun T4 h4 v4 X4 q4 => ?_
      obtain ⟨rfl, rfl⟩ := q4
      refine w_icmp_ge X4 36 10 d5_7 (by decide) rfl rfl (fun hc7 => ?_) (fun hc7 => by exfalso; revert hc7; decide)
      refine w_iloadN X4 (pc' := 37) d5_36 rfl rfl ?_
      refine w_iloadN X4 (pc' := 38) d5_37 rfl rfl ?_
      refine w_isub X4 (pc' := 39) d5_38 rfl ?_
      exact w_ireturn X4 d5_39 ⟨by rw [own_rp ha0 hb0, show own_run [] = 0 from rfl] <;> decide, rfl⟩ (by decide) (by decide)
set_option maxRecDepth 65536 in
set_option maxHeartbeats 40000000 in
theorem rm_dg1_x {l : Launch} {Z : State} {a0 : Array Value} (hw : ∀ d ∈ tables_1, d.before a0 Z = true) {n0 : Nat} {h0 : Heap} (Z0 : n0 ≤ h0.size) (a1 : Addr) (p2 : Int32) {zc : Int32} (S_c : Sta Z h0 "java/lang/String" "COMPACT_STRINGS" "Z" (.int zc)) (hzc : ¬ zc = (0 : Int32)) {fm : Value} (S_f : Sta Z h0 "jdk/internal/util/Preconditions" "SIOOBE_FORMATTER" "Ljava/util/function/BiFunction;" fm) (hfm : fm.isRef = true) (S_a : Sta Z h0 "java/lang/StringUTF16" "$assertionsDisabled" "Z" (.int 1)) (S_h : Sta Z h0 "java/lang/StringUTF16" "HI_BYTE_SHIFT" "I" (.int 0)) (S_l : Sta Z h0 "java/lang/StringUTF16" "LO_BYTE_SHIFT" "I" (.int 8)) {c0 : Int32} (R0 : own_R c0) (U : StrU Z h0 a1 [c0]) (hx : ¬ p2 < 1) :
    Con l Z n0 (⟨"com/example/admitwire/admitwire/core/Timestamp", "digits", "(Ljava/lang/String;I)I"⟩ : MethodName) prog_53_method_11_code 3 (some .int) ({ frames := 5, cells := 0, slots := 0, locals := 66 } : Room) #[(.ref a1), (.int p2)] h0 (Val (fun v h => v = .int 0 ∧ h0 = h)) := by
  refine con_intro pn_5 Z0 (fr := fun m => mkF m 0 #[.val (.ref a1), .val (.int p2), .unset] []) (fun m => by first | (simp [entryFrame, mkF, argsToLocals, Value.category]; done) | rfl) ?_
  intro p e s m below s₁ hs0 X0
  have EU := U.exa
  refine w_iloadN X0 (pc' := 1) d5_0 rfl rfl ?_
  refine w_istoreN X0 (pc' := 2) (l' := #[.val (.ref a1), .val (.int p2), .val (.int p2)]) d5_1 rfl rfl ?_
  refine w_iloadN X0 (pc' := 3) d5_2 rfl rfl ?_
  refine w_aloadN X0 (pc' := 4) d5_3 rfl rfl rfl ?_
  refine w_virtualV X0 (pc' := 7) d5_4 (rm_len1 hw (h0 := h0) (sd_size X0) a1 S_c hzc S_f hfm S_a S_h S_l R0 U) (hw _ (List.mem_of_getElem? (i := 30) rfl)) (hw _ (List.mem_of_getElem? (i := 31) rfl)) (hw _ (List.mem_of_getElem? (i := 33) rfl)) (hw _ (List.mem_of_getElem? (i := 32) rfl)) (hw _ (List.mem_of_getElem? (i := 6) rfl)) (hw _ (List.mem_of_getElem? (i := 34) rfl)) EU (by decide) [] [(.int p2)] pd_6 rfl rfl rfl rfl 1 (Nat.le_refl _) (by decide) (by decide) (by decide) (by decide) rfl fun T1 h1 v1 X1 q1 => ?_
  obtain ⟨rfl, rfl⟩ := q1
  refine w_icmp_ge X1 36 10 d5_7 (by decide) rfl rfl (fun hc7 => ?_) (fun hc7 => by exfalso; exact hx hc7)
  refine w_iloadN X1 (pc' := 37) d5_36 rfl rfl ?_
  refine w_iloadN X1 (pc' := 38) d5_37 rfl rfl ?_
  refine w_isub X1 (pc' := 39) d5_38 rfl ?_
  exact w_ireturn X1 d5_39 ⟨congrArg Value.int (Int32.sub_self _), rfl⟩ (by decide) (by decide)
set_option maxRecDepth 65536 in
set_option maxHeartbeats 40000000 in
theorem rm_dg0_x {l : Launch} {Z : State} {a0 : Array Value} (hw : ∀ d ∈ tables_1, d.before a0 Z = true) {n0 : Nat} {h0 : Heap} (Z0 : n0 ≤ h0.size) (a1 : Addr) (p2 : Int32) {zc : Int32} (S_c : Sta Z h0 "java/lang/String" "COMPACT_STRINGS" "Z" (.int zc)) (hzc : ¬ zc = (0 : Int32)) {fm : Value} (S_f : Sta Z h0 "jdk/internal/util/Preconditions" "SIOOBE_FORMATTER" "Ljava/util/function/BiFunction;" fm) (hfm : fm.isRef = true) (S_a : Sta Z h0 "java/lang/StringUTF16" "$assertionsDisabled" "Z" (.int 1)) (S_h : Sta Z h0 "java/lang/StringUTF16" "HI_BYTE_SHIFT" "I" (.int 0)) (S_l : Sta Z h0 "java/lang/StringUTF16" "LO_BYTE_SHIFT" "I" (.int 8))  (U : StrU Z h0 a1 []) (hx : ¬ p2 < 0) :
    Con l Z n0 (⟨"com/example/admitwire/admitwire/core/Timestamp", "digits", "(Ljava/lang/String;I)I"⟩ : MethodName) prog_53_method_11_code 3 (some .int) ({ frames := 5, cells := 0, slots := 0, locals := 66 } : Room) #[(.ref a1), (.int p2)] h0 (Val (fun v h => v = .int 0 ∧ h0 = h)) := by
  refine con_intro pn_5 Z0 (fr := fun m => mkF m 0 #[.val (.ref a1), .val (.int p2), .unset] []) (fun m => by first | (simp [entryFrame, mkF, argsToLocals, Value.category]; done) | rfl) ?_
  intro p e s m below s₁ hs0 X0
  have EU := U.exa
  refine w_iloadN X0 (pc' := 1) d5_0 rfl rfl ?_
  refine w_istoreN X0 (pc' := 2) (l' := #[.val (.ref a1), .val (.int p2), .val (.int p2)]) d5_1 rfl rfl ?_
  refine w_iloadN X0 (pc' := 3) d5_2 rfl rfl ?_
  refine w_aloadN X0 (pc' := 4) d5_3 rfl rfl rfl ?_
  refine w_virtualV X0 (pc' := 7) d5_4 (rm_len0 hw (h0 := h0) (sd_size X0) a1 S_c hzc S_f hfm S_a S_h S_l  U) (hw _ (List.mem_of_getElem? (i := 30) rfl)) (hw _ (List.mem_of_getElem? (i := 31) rfl)) (hw _ (List.mem_of_getElem? (i := 33) rfl)) (hw _ (List.mem_of_getElem? (i := 32) rfl)) (hw _ (List.mem_of_getElem? (i := 6) rfl)) (hw _ (List.mem_of_getElem? (i := 34) rfl)) EU (by decide) [] [(.int p2)] pd_6 rfl rfl rfl rfl 1 (Nat.le_refl _) (by decide) (by decide) (by decide) (by decide) rfl fun T1 h1 v1 X1 q1 => ?_
  obtain ⟨rfl, rfl⟩ := q1
  refine w_icmp_ge X1 36 10 d5_7 (by decide) rfl rfl (fun hc7 => ?_) (fun hc7 => by exfalso; exact hx hc7)
  refine w_iloadN X1 (pc' := 37) d5_36 rfl rfl ?_
  refine w_iloadN X1 (pc' := 38) d5_37 rfl rfl ?_
  refine w_isub X1 (pc' := 39) d5_38 rfl ?_
  exact w_ireturn X1 d5_39 ⟨congrArg Value.int (Int32.sub_self _), rfl⟩ (by decide) (by decide)
theorem d9_0 : decode method_4_code 0 = .ok (.iload_n 0, 1) := by decide +kernel
theorem d9_1 : decode method_4_code 1 = .ok (.iload_n 1, 1) := by decide +kernel
theorem d9_2 : decode method_4_code 2 = .ok (.if_icmp .lt 5, 3) := by decide +kernel
theorem d9_5 : decode method_4_code 5 = .ok (.iconst 0, 1) := by decide +kernel
theorem d9_6 : decode method_4_code 6 = .ok (.ireturn, 1) := by decide +kernel
theorem d9_7 : decode method_4_code 7 = .ok (.iload_n 0, 1) := by decide +kernel
theorem d9_8 : decode method_4_code 8 = .ok (.ifCond .ne 7, 3) := by decide +kernel
theorem d9_11 : decode method_4_code 11 = .ok (.iload_n 2, 1) := by decide +kernel
theorem d9_12 : decode method_4_code 12 = .ok (.goto 24, 3) := by decide +kernel
theorem d9_15 : decode method_4_code 15 = .ok (.iload_n 0, 1) := by decide +kernel
theorem d9_16 : decode method_4_code 16 = .ok (.iconst 1, 1) := by decide +kernel
theorem d9_17 : decode method_4_code 17 = .ok (.if_icmp .ne 7, 3) := by decide +kernel
theorem d9_20 : decode method_4_code 20 = .ok (.iload_n 3, 1) := by decide +kernel
theorem d9_21 : decode method_4_code 21 = .ok (.goto 15, 3) := by decide +kernel
theorem d9_24 : decode method_4_code 24 = .ok (.iload_n 0, 1) := by decide +kernel
theorem d9_25 : decode method_4_code 25 = .ok (.iconst 2, 1) := by decide +kernel
theorem d9_26 : decode method_4_code 26 = .ok (.if_icmp .ne 8, 3) := by decide +kernel
theorem d9_29 : decode method_4_code 29 = .ok (.iload 4, 2) := by decide +kernel
theorem d9_31 : decode method_4_code 31 = .ok (.goto 5, 3) := by decide +kernel
theorem d9_34 : decode method_4_code 34 = .ok (.iload 5, 2) := by decide +kernel
theorem d9_36 : decode method_4_code 36 = .ok (.istore 6, 2) := by decide +kernel
theorem d9_38 : decode method_4_code 38 = .ok (.iload 6, 2) := by decide +kernel
theorem d9_40 : decode method_4_code 40 = .ok (.bipush 48, 2) := by decide +kernel
theorem d9_42 : decode method_4_code 42 = .ok (.if_icmp .lt 14, 3) := by decide +kernel
theorem d9_45 : decode method_4_code 45 = .ok (.iload 6, 2) := by decide +kernel
theorem d9_47 : decode method_4_code 47 = .ok (.bipush 57, 2) := by decide +kernel
theorem d9_49 : decode method_4_code 49 = .ok (.if_icmp .gt 7, 3) := by decide +kernel
theorem d9_52 : decode method_4_code 52 = .ok (.iconst 1, 1) := by decide +kernel
theorem d9_53 : decode method_4_code 53 = .ok (.goto 4, 3) := by decide +kernel
theorem d9_56 : decode method_4_code 56 = .ok (.iconst 0, 1) := by decide +kernel
theorem d9_57 : decode method_4_code 57 = .ok (.ireturn, 1) := by decide +kernel
theorem pn_9 : plainFor (⟨"com/example/admitwire/admitwire/core/TimestampDigitsPinLaw", "digitAt", "(IICCCC)Z"⟩ : MethodName) = true := plainFor_of_name (by first | (simp [plainName, overriddenIn]; done) | decide +kernel)
theorem pd_9 : parseMethodDescriptor "(IICCCC)Z" = some ⟨[.int, .int, .char, .char, .char, .char], some .boolean⟩ := by decide +kernel
set_option maxRecDepth 65536 in
set_option maxHeartbeats 40000000 in
theorem rm_da0 {l : Launch} {Z : State} {a0 : Array Value} (hw : ∀ d ∈ tables_1, d.before a0 Z = true) {n0 : Nat} {h0 : Heap} (Z0 : n0 ≤ h0.size) (p2 c0 c1 c2 c3 : Int32) (hi : (0 : Int32) < p2) :
    Con l Z n0 (⟨"com/example/admitwire/admitwire/core/TimestampDigitsPinLaw", "digitAt", "(IICCCC)Z"⟩ : MethodName) method_4_code 7 (some .boolean) ({ frames := 0, cells := 0, slots := 0, locals := 0 } : Room) #[(.int (0 : Int32)), (.int p2), (.int c0), (.int c1), (.int c2), (.int c3)] h0 (Val (fun v h => v = .int (own_da c0) ∧ h0 = h)) := by
  refine con_intro pn_9 Z0 (fr := fun m => mkF m 0 #[.val (.int (0 : Int32)), .val (.int p2), .val (.int c0), .val (.int c1), .val (.int c2), .val (.int c3), .unset] []) (fun m => by first | (simp [entryFrame, mkF, argsToLocals, Value.category]; done) | rfl) ?_
  intro p e s m below s₁ hs0 X0
  refine w_iloadN X0 (pc' := 1) d9_0 rfl rfl ?_
  refine w_iloadN X0 (pc' := 2) d9_1 rfl rfl ?_
  refine w_icmp_lt X0 7 5 d9_2 (by decide) rfl rfl (fun hc2 => ?_) (fun hc2 => by exfalso; exact hc2 hi)
  refine w_iloadN X0 (pc' := 8) d9_7 rfl rfl ?_
  refine w_if_ne X0 15 11 d9_8 (by decide) rfl rfl (fun hc8 => by exfalso; revert hc8; decide) (fun hc8 => ?_)
  refine w_iloadN X0 (pc' := 12) d9_11 rfl rfl ?_
  refine w_goto X0 (pc' := 36) d9_12 (by decide) rfl ?_
  refine w_istore X0 (pc' := 38) (l' := #[.val (.int (0 : Int32)), .val (.int p2), .val (.int c0), .val (.int c1), .val (.int c2), .val (.int c3), .val (.int c0)]) d9_36 rfl rfl ?_
  refine w_iload X0 (pc' := 40) d9_38 rfl rfl ?_
  refine w_bipush X0 (pc' := 42) (48 : Int32) d9_40 rfl rfl ?_
  refine w_icmp_lt X0 56 45 d9_42 (by decide) rfl rfl (fun hc42 => ?_) (fun hc42 => ?_)
  · skip
    refine w_iconst X0 (pc' := 57) (0 : Int32) d9_56 rfl rfl ?_
    exact w_zreturn X0 d9_57 ⟨by rw [own_da, if_pos hc42]; rfl, rfl⟩ (by decide) (by decide)
  · skip
    refine w_iload X0 (pc' := 47) d9_45 rfl rfl ?_
    refine w_bipush X0 (pc' := 49) (57 : Int32) d9_47 rfl rfl ?_
    refine w_icmp_gt X0 56 52 d9_49 (by decide) rfl rfl (fun hc49 => ?_) (fun hc49 => ?_)
    · skip
      refine w_iconst X0 (pc' := 57) (0 : Int32) d9_56 rfl rfl ?_
      exact w_zreturn X0 d9_57 ⟨by rw [own_da, if_neg hc42, if_pos hc49]; rfl, rfl⟩ (by decide) (by decide)
    · skip
      refine w_iconst X0 (pc' := 53) (1 : Int32) d9_52 rfl rfl ?_
      refine w_goto X0 (pc' := 57) d9_53 (by decide) rfl ?_
      exact w_zreturn X0 d9_57 ⟨by rw [own_da, if_neg hc42, if_neg hc49]; rfl, rfl⟩ (by decide) (by decide)
set_option maxRecDepth 65536 in
set_option maxHeartbeats 40000000 in
theorem rm_da1 {l : Launch} {Z : State} {a0 : Array Value} (hw : ∀ d ∈ tables_1, d.before a0 Z = true) {n0 : Nat} {h0 : Heap} (Z0 : n0 ≤ h0.size) (p2 c0 c1 c2 c3 : Int32) (hi : (1 : Int32) < p2) :
    Con l Z n0 (⟨"com/example/admitwire/admitwire/core/TimestampDigitsPinLaw", "digitAt", "(IICCCC)Z"⟩ : MethodName) method_4_code 7 (some .boolean) ({ frames := 0, cells := 0, slots := 0, locals := 0 } : Room) #[(.int (1 : Int32)), (.int p2), (.int c0), (.int c1), (.int c2), (.int c3)] h0 (Val (fun v h => v = .int (own_da c1) ∧ h0 = h)) := by
  refine con_intro pn_9 Z0 (fr := fun m => mkF m 0 #[.val (.int (1 : Int32)), .val (.int p2), .val (.int c0), .val (.int c1), .val (.int c2), .val (.int c3), .unset] []) (fun m => by first | (simp [entryFrame, mkF, argsToLocals, Value.category]; done) | rfl) ?_
  intro p e s m below s₁ hs0 X0
  refine w_iloadN X0 (pc' := 1) d9_0 rfl rfl ?_
  refine w_iloadN X0 (pc' := 2) d9_1 rfl rfl ?_
  refine w_icmp_lt X0 7 5 d9_2 (by decide) rfl rfl (fun hc2 => ?_) (fun hc2 => by exfalso; exact hc2 hi)
  refine w_iloadN X0 (pc' := 8) d9_7 rfl rfl ?_
  refine w_if_ne X0 15 11 d9_8 (by decide) rfl rfl (fun hc8 => ?_) (fun hc8 => by exfalso; revert hc8; decide)
  refine w_iloadN X0 (pc' := 16) d9_15 rfl rfl ?_
  refine w_iconst X0 (pc' := 17) (1 : Int32) d9_16 rfl rfl ?_
  refine w_icmp_ne X0 24 20 d9_17 (by decide) rfl rfl (fun hc17 => by exfalso; revert hc17; decide) (fun hc17 => ?_)
  refine w_iloadN X0 (pc' := 21) d9_20 rfl rfl ?_
  refine w_goto X0 (pc' := 36) d9_21 (by decide) rfl ?_
  refine w_istore X0 (pc' := 38) (l' := #[.val (.int (1 : Int32)), .val (.int p2), .val (.int c0), .val (.int c1), .val (.int c2), .val (.int c3), .val (.int c1)]) d9_36 rfl rfl ?_
  refine w_iload X0 (pc' := 40) d9_38 rfl rfl ?_
  refine w_bipush X0 (pc' := 42) (48 : Int32) d9_40 rfl rfl ?_
  refine w_icmp_lt X0 56 45 d9_42 (by decide) rfl rfl (fun hc42 => ?_) (fun hc42 => ?_)
  · skip
    refine w_iconst X0 (pc' := 57) (0 : Int32) d9_56 rfl rfl ?_
    exact w_zreturn X0 d9_57 ⟨by rw [own_da, if_pos hc42]; rfl, rfl⟩ (by decide) (by decide)
  · skip
    refine w_iload X0 (pc' := 47) d9_45 rfl rfl ?_
    refine w_bipush X0 (pc' := 49) (57 : Int32) d9_47 rfl rfl ?_
    refine w_icmp_gt X0 56 52 d9_49 (by decide) rfl rfl (fun hc49 => ?_) (fun hc49 => ?_)
    · skip
      refine w_iconst X0 (pc' := 57) (0 : Int32) d9_56 rfl rfl ?_
      exact w_zreturn X0 d9_57 ⟨by rw [own_da, if_neg hc42, if_pos hc49]; rfl, rfl⟩ (by decide) (by decide)
    · skip
      refine w_iconst X0 (pc' := 53) (1 : Int32) d9_52 rfl rfl ?_
      refine w_goto X0 (pc' := 57) d9_53 (by decide) rfl ?_
      exact w_zreturn X0 d9_57 ⟨by rw [own_da, if_neg hc42, if_neg hc49]; rfl, rfl⟩ (by decide) (by decide)
set_option maxRecDepth 65536 in
set_option maxHeartbeats 40000000 in
theorem rm_da2 {l : Launch} {Z : State} {a0 : Array Value} (hw : ∀ d ∈ tables_1, d.before a0 Z = true) {n0 : Nat} {h0 : Heap} (Z0 : n0 ≤ h0.size) (p2 c0 c1 c2 c3 : Int32) (hi : (2 : Int32) < p2) :
    Con l Z n0 (⟨"com/example/admitwire/admitwire/core/TimestampDigitsPinLaw", "digitAt", "(IICCCC)Z"⟩ : MethodName) method_4_code 7 (some .boolean) ({ frames := 0, cells := 0, slots := 0, locals := 0 } : Room) #[(.int (2 : Int32)), (.int p2), (.int c0), (.int c1), (.int c2), (.int c3)] h0 (Val (fun v h => v = .int (own_da c2) ∧ h0 = h)) := by
  refine con_intro pn_9 Z0 (fr := fun m => mkF m 0 #[.val (.int (2 : Int32)), .val (.int p2), .val (.int c0), .val (.int c1), .val (.int c2), .val (.int c3), .unset] []) (fun m => by first | (simp [entryFrame, mkF, argsToLocals, Value.category]; done) | rfl) ?_
  intro p e s m below s₁ hs0 X0
  refine w_iloadN X0 (pc' := 1) d9_0 rfl rfl ?_
  refine w_iloadN X0 (pc' := 2) d9_1 rfl rfl ?_
  refine w_icmp_lt X0 7 5 d9_2 (by decide) rfl rfl (fun hc2 => ?_) (fun hc2 => by exfalso; exact hc2 hi)
  refine w_iloadN X0 (pc' := 8) d9_7 rfl rfl ?_
  refine w_if_ne X0 15 11 d9_8 (by decide) rfl rfl (fun hc8 => ?_) (fun hc8 => by exfalso; revert hc8; decide)
  refine w_iloadN X0 (pc' := 16) d9_15 rfl rfl ?_
  refine w_iconst X0 (pc' := 17) (1 : Int32) d9_16 rfl rfl ?_
  refine w_icmp_ne X0 24 20 d9_17 (by decide) rfl rfl (fun hc17 => ?_) (fun hc17 => by exfalso; revert hc17; decide)
  refine w_iloadN X0 (pc' := 25) d9_24 rfl rfl ?_
  refine w_iconst X0 (pc' := 26) (2 : Int32) d9_25 rfl rfl ?_
  refine w_icmp_ne X0 34 29 d9_26 (by decide) rfl rfl (fun hc26 => by exfalso; revert hc26; decide) (fun hc26 => ?_)
  refine w_iload X0 (pc' := 31) d9_29 rfl rfl ?_
  refine w_goto X0 (pc' := 36) d9_31 (by decide) rfl ?_
  refine w_istore X0 (pc' := 38) (l' := #[.val (.int (2 : Int32)), .val (.int p2), .val (.int c0), .val (.int c1), .val (.int c2), .val (.int c3), .val (.int c2)]) d9_36 rfl rfl ?_
  refine w_iload X0 (pc' := 40) d9_38 rfl rfl ?_
  refine w_bipush X0 (pc' := 42) (48 : Int32) d9_40 rfl rfl ?_
  refine w_icmp_lt X0 56 45 d9_42 (by decide) rfl rfl (fun hc42 => ?_) (fun hc42 => ?_)
  · skip
    refine w_iconst X0 (pc' := 57) (0 : Int32) d9_56 rfl rfl ?_
    exact w_zreturn X0 d9_57 ⟨by rw [own_da, if_pos hc42]; rfl, rfl⟩ (by decide) (by decide)
  · skip
    refine w_iload X0 (pc' := 47) d9_45 rfl rfl ?_
    refine w_bipush X0 (pc' := 49) (57 : Int32) d9_47 rfl rfl ?_
    refine w_icmp_gt X0 56 52 d9_49 (by decide) rfl rfl (fun hc49 => ?_) (fun hc49 => ?_)
    · skip
      refine w_iconst X0 (pc' := 57) (0 : Int32) d9_56 rfl rfl ?_
      exact w_zreturn X0 d9_57 ⟨by rw [own_da, if_neg hc42, if_pos hc49]; rfl, rfl⟩ (by decide) (by decide)
    · skip
      refine w_iconst X0 (pc' := 53) (1 : Int32) d9_52 rfl rfl ?_
      refine w_goto X0 (pc' := 57) d9_53 (by decide) rfl ?_
      exact w_zreturn X0 d9_57 ⟨by rw [own_da, if_neg hc42, if_neg hc49]; rfl, rfl⟩ (by decide) (by decide)
set_option maxRecDepth 65536 in
set_option maxHeartbeats 40000000 in
theorem rm_da3 {l : Launch} {Z : State} {a0 : Array Value} (hw : ∀ d ∈ tables_1, d.before a0 Z = true) {n0 : Nat} {h0 : Heap} (Z0 : n0 ≤ h0.size) (p2 c0 c1 c2 c3 : Int32) (hi : (3 : Int32) < p2) :
    Con l Z n0 (⟨"com/example/admitwire/admitwire/core/TimestampDigitsPinLaw", "digitAt", "(IICCCC)Z"⟩ : MethodName) method_4_code 7 (some .boolean) ({ frames := 0, cells := 0, slots := 0, locals := 0 } : Room) #[(.int (3 : Int32)), (.int p2), (.int c0), (.int c1), (.int c2), (.int c3)] h0 (Val (fun v h => v = .int (own_da c3) ∧ h0 = h)) := by
  refine con_intro pn_9 Z0 (fr := fun m => mkF m 0 #[.val (.int (3 : Int32)), .val (.int p2), .val (.int c0), .val (.int c1), .val (.int c2), .val (.int c3), .unset] []) (fun m => by first | (simp [entryFrame, mkF, argsToLocals, Value.category]; done) | rfl) ?_
  intro p e s m below s₁ hs0 X0
  refine w_iloadN X0 (pc' := 1) d9_0 rfl rfl ?_
  refine w_iloadN X0 (pc' := 2) d9_1 rfl rfl ?_
  refine w_icmp_lt X0 7 5 d9_2 (by decide) rfl rfl (fun hc2 => ?_) (fun hc2 => by exfalso; exact hc2 hi)
  refine w_iloadN X0 (pc' := 8) d9_7 rfl rfl ?_
  refine w_if_ne X0 15 11 d9_8 (by decide) rfl rfl (fun hc8 => ?_) (fun hc8 => by exfalso; revert hc8; decide)
  refine w_iloadN X0 (pc' := 16) d9_15 rfl rfl ?_
  refine w_iconst X0 (pc' := 17) (1 : Int32) d9_16 rfl rfl ?_
  refine w_icmp_ne X0 24 20 d9_17 (by decide) rfl rfl (fun hc17 => ?_) (fun hc17 => by exfalso; revert hc17; decide)
  refine w_iloadN X0 (pc' := 25) d9_24 rfl rfl ?_
  refine w_iconst X0 (pc' := 26) (2 : Int32) d9_25 rfl rfl ?_
  refine w_icmp_ne X0 34 29 d9_26 (by decide) rfl rfl (fun hc26 => ?_) (fun hc26 => by exfalso; revert hc26; decide)
  refine w_iload X0 (pc' := 36) d9_34 rfl rfl ?_
  refine w_istore X0 (pc' := 38) (l' := #[.val (.int (3 : Int32)), .val (.int p2), .val (.int c0), .val (.int c1), .val (.int c2), .val (.int c3), .val (.int c3)]) d9_36 rfl rfl ?_
  refine w_iload X0 (pc' := 40) d9_38 rfl rfl ?_
  refine w_bipush X0 (pc' := 42) (48 : Int32) d9_40 rfl rfl ?_
  refine w_icmp_lt X0 56 45 d9_42 (by decide) rfl rfl (fun hc42 => ?_) (fun hc42 => ?_)
  · skip
    refine w_iconst X0 (pc' := 57) (0 : Int32) d9_56 rfl rfl ?_
    exact w_zreturn X0 d9_57 ⟨by rw [own_da, if_pos hc42]; rfl, rfl⟩ (by decide) (by decide)
  · skip
    refine w_iload X0 (pc' := 47) d9_45 rfl rfl ?_
    refine w_bipush X0 (pc' := 49) (57 : Int32) d9_47 rfl rfl ?_
    refine w_icmp_gt X0 56 52 d9_49 (by decide) rfl rfl (fun hc49 => ?_) (fun hc49 => ?_)
    · skip
      refine w_iconst X0 (pc' := 57) (0 : Int32) d9_56 rfl rfl ?_
      exact w_zreturn X0 d9_57 ⟨by rw [own_da, if_neg hc42, if_pos hc49]; rfl, rfl⟩ (by decide) (by decide)
    · skip
      refine w_iconst X0 (pc' := 53) (1 : Int32) d9_52 rfl rfl ?_
      refine w_goto X0 (pc' := 57) d9_53 (by decide) rfl ?_
      exact w_zreturn X0 d9_57 ⟨by rw [own_da, if_neg hc42, if_neg hc49]; rfl, rfl⟩ (by decide) (by decide)
set_option maxRecDepth 65536 in
set_option maxHeartbeats 40000000 in
theorem rm_dax {l : Launch} {Z : State} {a0 : Array Value} (hw : ∀ d ∈ tables_1, d.before a0 Z = true) {n0 : Nat} {h0 : Heap} (Z0 : n0 ≤ h0.size) (p1 p2 c0 c1 c2 c3 : Int32) (hi : ¬ p1 < p2) :
    Con l Z n0 (⟨"com/example/admitwire/admitwire/core/TimestampDigitsPinLaw", "digitAt", "(IICCCC)Z"⟩ : MethodName) method_4_code 7 (some .boolean) ({ frames := 0, cells := 0, slots := 0, locals := 0 } : Room) #[(.int p1), (.int p2), (.int c0), (.int c1), (.int c2), (.int c3)] h0 (Val (fun v h => v = .int 0 ∧ h0 = h)) := by
  refine con_intro pn_9 Z0 (fr := fun m => mkF m 0 #[.val (.int p1), .val (.int p2), .val (.int c0), .val (.int c1), .val (.int c2), .val (.int c3), .unset] []) (fun m => by first | (simp [entryFrame, mkF, argsToLocals, Value.category]; done) | rfl) ?_
  intro p e s m below s₁ hs0 X0
  refine w_iloadN X0 (pc' := 1) d9_0 rfl rfl ?_
  refine w_iloadN X0 (pc' := 2) d9_1 rfl rfl ?_
  refine w_icmp_lt X0 7 5 d9_2 (by decide) rfl rfl (fun hc2 => by exfalso; exact hi hc2) (fun hc2 => ?_)
  refine w_iconst X0 (pc' := 6) (0 : Int32) d9_5 rfl rfl ?_
  exact w_zreturn X0 d9_6 ⟨rfl, rfl⟩ (by decide) (by decide)
theorem d8_0 : decode method_5_code 0 = .ok (.iload_n 1, 1) := by decide +kernel
theorem d8_1 : decode method_5_code 1 = .ok (.iload_n 0, 1) := by decide +kernel
theorem d8_2 : decode method_5_code 2 = .ok (.iload_n 2, 1) := by decide +kernel
theorem d8_3 : decode method_5_code 3 = .ok (.iload_n 3, 1) := by decide +kernel
theorem d8_4 : decode method_5_code 4 = .ok (.iload 4, 2) := by decide +kernel
theorem d8_6 : decode method_5_code 6 = .ok (.iload 5, 2) := by decide +kernel
theorem d8_8 : decode method_5_code 8 = .ok (.invokestatic 28, 3) := by decide +kernel
theorem d8_11 : decode method_5_code 11 = .ok (.ifCond .ne 5, 3) := by decide +kernel
theorem d8_14 : decode method_5_code 14 = .ok (.iconst 0, 1) := by decide +kernel
theorem d8_15 : decode method_5_code 15 = .ok (.ireturn, 1) := by decide +kernel
theorem d8_16 : decode method_5_code 16 = .ok (.iload_n 1, 1) := by decide +kernel
theorem d8_17 : decode method_5_code 17 = .ok (.iconst 1, 1) := by decide +kernel
theorem d8_18 : decode method_5_code 18 = .ok (.iadd, 1) := by decide +kernel
theorem d8_19 : decode method_5_code 19 = .ok (.iload_n 0, 1) := by decide +kernel
theorem d8_20 : decode method_5_code 20 = .ok (.iload_n 2, 1) := by decide +kernel
theorem d8_21 : decode method_5_code 21 = .ok (.iload_n 3, 1) := by decide +kernel
theorem d8_22 : decode method_5_code 22 = .ok (.iload 4, 2) := by decide +kernel
theorem d8_24 : decode method_5_code 24 = .ok (.iload 5, 2) := by decide +kernel
theorem d8_26 : decode method_5_code 26 = .ok (.invokestatic 28, 3) := by decide +kernel
theorem d8_29 : decode method_5_code 29 = .ok (.ifCond .ne 5, 3) := by decide +kernel
theorem d8_32 : decode method_5_code 32 = .ok (.iconst 1, 1) := by decide +kernel
theorem d8_33 : decode method_5_code 33 = .ok (.ireturn, 1) := by decide +kernel
theorem d8_34 : decode method_5_code 34 = .ok (.iload_n 1, 1) := by decide +kernel
theorem d8_35 : decode method_5_code 35 = .ok (.iconst 2, 1) := by decide +kernel
theorem d8_36 : decode method_5_code 36 = .ok (.iadd, 1) := by decide +kernel
theorem d8_37 : decode method_5_code 37 = .ok (.iload_n 0, 1) := by decide +kernel
theorem d8_38 : decode method_5_code 38 = .ok (.iload_n 2, 1) := by decide +kernel
theorem d8_39 : decode method_5_code 39 = .ok (.iload_n 3, 1) := by decide +kernel
theorem d8_40 : decode method_5_code 40 = .ok (.iload 4, 2) := by decide +kernel
theorem d8_42 : decode method_5_code 42 = .ok (.iload 5, 2) := by decide +kernel
theorem d8_44 : decode method_5_code 44 = .ok (.invokestatic 28, 3) := by decide +kernel
theorem d8_47 : decode method_5_code 47 = .ok (.ifCond .ne 5, 3) := by decide +kernel
theorem d8_50 : decode method_5_code 50 = .ok (.iconst 2, 1) := by decide +kernel
theorem d8_51 : decode method_5_code 51 = .ok (.ireturn, 1) := by decide +kernel
theorem d8_52 : decode method_5_code 52 = .ok (.iload_n 1, 1) := by decide +kernel
theorem d8_53 : decode method_5_code 53 = .ok (.iconst 3, 1) := by decide +kernel
theorem d8_54 : decode method_5_code 54 = .ok (.iadd, 1) := by decide +kernel
theorem d8_55 : decode method_5_code 55 = .ok (.iload_n 0, 1) := by decide +kernel
theorem d8_56 : decode method_5_code 56 = .ok (.iload_n 2, 1) := by decide +kernel
theorem d8_57 : decode method_5_code 57 = .ok (.iload_n 3, 1) := by decide +kernel
theorem d8_58 : decode method_5_code 58 = .ok (.iload 4, 2) := by decide +kernel
theorem d8_60 : decode method_5_code 60 = .ok (.iload 5, 2) := by decide +kernel
theorem d8_62 : decode method_5_code 62 = .ok (.invokestatic 28, 3) := by decide +kernel
theorem d8_65 : decode method_5_code 65 = .ok (.ifCond .ne 5, 3) := by decide +kernel
theorem d8_68 : decode method_5_code 68 = .ok (.iconst 3, 1) := by decide +kernel
theorem d8_69 : decode method_5_code 69 = .ok (.ireturn, 1) := by decide +kernel
theorem d8_70 : decode method_5_code 70 = .ok (.iconst 4, 1) := by decide +kernel
theorem d8_71 : decode method_5_code 71 = .ok (.ireturn, 1) := by decide +kernel
theorem pn_8 : plainFor (⟨"com/example/admitwire/admitwire/core/TimestampDigitsPinLaw", "expected", "(IICCCC)I"⟩ : MethodName) = true := plainFor_of_name (by first | (simp [plainName, overriddenIn]; done) | decide +kernel)
theorem pd_8 : parseMethodDescriptor "(IICCCC)I" = some ⟨[.int, .int, .char, .char, .char, .char], some .int⟩ := by decide +kernel
set_option maxRecDepth 65536 in
set_option maxHeartbeats 40000000 in
theorem rm_ex4_0 {l : Launch} {Z : State} {a0 : Array Value} (hw : ∀ d ∈ tables_1, d.before a0 Z = true) {n0 : Nat} {h0 : Heap} (Z0 : n0 ≤ h0.size) (c0 c1 c2 c3 : Int32)  :
    Con l Z n0 (⟨"com/example/admitwire/admitwire/core/TimestampDigitsPinLaw", "expected", "(IICCCC)I"⟩ : MethodName) method_5_code 6 (some .int) ({ frames := 1, cells := 0, slots := 0, locals := 18 } : Room) #[(.int (4 : Int32)), (.int (0 : Int32)), (.int c0), (.int c1), (.int c2), (.int c3)] h0 (Val (fun v h => v = .int (own_run [c0, c1, c2, c3]) ∧ h0 = h)) := by
  refine con_intro pn_8 Z0 (fr := fun m => mkF m 0 #[.val (.int (4 : Int32)), .val (.int (0 : Int32)), .val (.int c0), .val (.int c1), .val (.int c2), .val (.int c3)] []) (fun m => by first | (simp [entryFrame, mkF, argsToLocals, Value.category]; done) | rfl) ?_
  intro p e s m below s₁ hs0 X0
  refine w_iloadN X0 (pc' := 1) d8_0 rfl rfl ?_
  refine w_iloadN X0 (pc' := 2) d8_1 rfl rfl ?_
  refine w_iloadN X0 (pc' := 3) d8_2 rfl rfl ?_
  refine w_iloadN X0 (pc' := 4) d8_3 rfl rfl ?_
  refine w_iload X0 (pc' := 6) d8_4 rfl rfl ?_
  refine w_iload X0 (pc' := 8) d8_6 rfl rfl ?_
  refine w_staticV X0 (pc' := 11) d8_8 (rm_da0 hw (h0 := h0) (sd_size X0) (4 : Int32) c0 c1 c2 c3 (by decide)) (hw _ (List.mem_of_getElem? (i := 44) rfl)) (hw _ (List.mem_of_getElem? (i := 45) rfl)) (hw _ (List.mem_of_getElem? (i := 2) rfl)) (hw _ (List.mem_of_getElem? (i := 46) rfl)) (by decide) [(.int (0 : Int32)), (.int (4 : Int32)), (.int c0), (.int c1), (.int c2), (.int c3)] [] pd_9 rfl rfl rfl rfl 0 (Nat.le_refl _) (by decide) (by decide) (by decide) (by decide) rfl fun T1 h1 v1 X1 q1 => ?_
  obtain ⟨rfl, rfl⟩ := q1
  refine w_if_ne X1 16 14 d8_11 (by decide) rfl rfl (fun hc11 => ?_) (fun hc11 => ?_)
  · skip
    refine w_iloadN X1 (pc' := 17) d8_16 rfl rfl ?_
    refine w_iconst X1 (pc' := 18) (1 : Int32) d8_17 rfl rfl ?_
    refine w_iadd X1 (pc' := 19) d8_18 rfl ?_
    refine w_iloadN X1 (pc' := 20) d8_19 rfl rfl ?_
    refine w_iloadN X1 (pc' := 21) d8_20 rfl rfl ?_
    refine w_iloadN X1 (pc' := 22) d8_21 rfl rfl ?_
    refine w_iload X1 (pc' := 24) d8_22 rfl rfl ?_
    refine w_iload X1 (pc' := 26) d8_24 rfl rfl ?_
    rw [show ((0 : Int32) + (1 : Int32)) = (1 : Int32) from by decide]
    show Go p e below _ (T1.setTop (mkF m 26 #[.val (.int (4 : Int32)), .val (.int (0 : Int32)), .val (.int c0), .val (.int c1), .val (.int c2), .val (.int c3)] [(.int c3), (.int c2), (.int c1), (.int c0), (.int (4 : Int32)), (.int (1 : Int32))]))
    refine w_staticV X1 (pc' := 29) d8_26 (rm_da1 hw (h0 := h0) (sd_size X1) (4 : Int32) c0 c1 c2 c3 (by decide)) (hw _ (List.mem_of_getElem? (i := 44) rfl)) (hw _ (List.mem_of_getElem? (i := 45) rfl)) (hw _ (List.mem_of_getElem? (i := 2) rfl)) (hw _ (List.mem_of_getElem? (i := 46) rfl)) (by decide) [(.int (1 : Int32)), (.int (4 : Int32)), (.int c0), (.int c1), (.int c2), (.int c3)] [] pd_9 rfl rfl rfl rfl 0 (Nat.le_refl _) (by decide) (by decide) (by decide) (by decide) rfl fun T2 h2 v2 X2 q2 => ?_
    obtain ⟨rfl, rfl⟩ := q2
    refine w_if_ne X2 34 32 d8_29 (by decide) rfl rfl (fun hc29 => ?_) (fun hc29 => ?_)
    · skip
      refine w_iloadN X2 (pc' := 35) d8_34 rfl rfl ?_
      refine w_iconst X2 (pc' := 36) (2 : Int32) d8_35 rfl rfl ?_
      refine w_iadd X2 (pc' := 37) d8_36 rfl ?_
      refine w_iloadN X2 (pc' := 38) d8_37 rfl rfl ?_
      refine w_iloadN X2 (pc' := 39) d8_38 rfl rfl ?_
      refine w_iloadN X2 (pc' := 40) d8_39 rfl rfl ?_
      refine w_iload X2 (pc' := 42) d8_40 rfl rfl ?_
      refine w_iload X2 (pc' := 44) d8_42 rfl rfl ?_
      rw [show ((0 : Int32) + (2 : Int32)) = (2 : Int32) from by decide]
      show Go p e below _ (T2.setTop (mkF m 44 #[.val (.int (4 : Int32)), .val (.int (0 : Int32)), .val (.int c0), .val (.int c1), .val (.int c2), .val (.int c3)] [(.int c3), (.int c2), (.int c1), (.int c0), (.int (4 : Int32)), (.int (2 : Int32))]))
      refine w_staticV X2 (pc' := 47) d8_44 (rm_da2 hw (h0 := h0) (sd_size X2) (4 : Int32) c0 c1 c2 c3 (by decide)) (hw _ (List.mem_of_getElem? (i := 44) rfl)) (hw _ (List.mem_of_getElem? (i := 45) rfl)) (hw _ (List.mem_of_getElem? (i := 2) rfl)) (hw _ (List.mem_of_getElem? (i := 46) rfl)) (by decide) [(.int (2 : Int32)), (.int (4 : Int32)), (.int c0), (.int c1), (.int c2), (.int c3)] [] pd_9 rfl rfl rfl rfl 0 (Nat.le_refl _) (by decide) (by decide) (by decide) (by decide) rfl fun T3 h3 v3 X3 q3 => ?_
      obtain ⟨rfl, rfl⟩ := q3
      refine w_if_ne X3 52 50 d8_47 (by decide) rfl rfl (fun hc47 => ?_) (fun hc47 => ?_)
      · skip
        refine w_iloadN X3 (pc' := 53) d8_52 rfl rfl ?_
        refine w_iconst X3 (pc' := 54) (3 : Int32) d8_53 rfl rfl ?_
        refine w_iadd X3 (pc' := 55) d8_54 rfl ?_
        refine w_iloadN X3 (pc' := 56) d8_55 rfl rfl ?_
        refine w_iloadN X3 (pc' := 57) d8_56 rfl rfl ?_
        refine w_iloadN X3 (pc' := 58) d8_57 rfl rfl ?_
        refine w_iload X3 (pc' := 60) d8_58 rfl rfl ?_
        refine w_iload X3 (pc' := 62) d8_60 rfl rfl ?_
        rw [show ((0 : Int32) + (3 : Int32)) = (3 : Int32) from by decide]
        show Go p e below _ (T3.setTop (mkF m 62 #[.val (.int (4 : Int32)), .val (.int (0 : Int32)), .val (.int c0), .val (.int c1), .val (.int c2), .val (.int c3)] [(.int c3), (.int c2), (.int c1), (.int c0), (.int (4 : Int32)), (.int (3 : Int32))]))
        refine w_staticV X3 (pc' := 65) d8_62 (rm_da3 hw (h0 := h0) (sd_size X3) (4 : Int32) c0 c1 c2 c3 (by decide)) (hw _ (List.mem_of_getElem? (i := 44) rfl)) (hw _ (List.mem_of_getElem? (i := 45) rfl)) (hw _ (List.mem_of_getElem? (i := 2) rfl)) (hw _ (List.mem_of_getElem? (i := 46) rfl)) (by decide) [(.int (3 : Int32)), (.int (4 : Int32)), (.int c0), (.int c1), (.int c2), (.int c3)] [] pd_9 rfl rfl rfl rfl 0 (Nat.le_refl _) (by decide) (by decide) (by decide) (by decide) rfl fun T4 h4 v4 X4 q4 => ?_
        obtain ⟨rfl, rfl⟩ := q4
        refine w_if_ne X4 70 68 d8_65 (by decide) rfl rfl (fun hc65 => ?_) (fun hc65 => ?_)
        · skip
          refine w_iconst X4 (pc' := 71) (4 : Int32) d8_70 rfl rfl ?_
          exact w_ireturn X4 d8_71 ⟨by rw [own_rp (own_d1 hc11).1 (own_d1 hc11).2, own_rp (own_d1 hc29).1 (own_d1 hc29).2, own_rp (own_d1 hc47).1 (own_d1 hc47).2, own_rp (own_d1 hc65).1 (own_d1 hc65).2, show own_run [] = 0 from rfl] <;> decide, rfl⟩ (by decide) (by decide)
        · skip
          refine w_iconst X4 (pc' := 69) (3 : Int32) d8_68 rfl rfl ?_
          exact w_ireturn X4 d8_69 ⟨by rw [own_rp (own_d1 hc11).1 (own_d1 hc11).2, own_rp (own_d1 hc29).1 (own_d1 hc29).2, own_rp (own_d1 hc47).1 (own_d1 hc47).2, own_d0 hc65] <;> decide, rfl⟩ (by decide) (by decide)
      · skip
        refine w_iconst X3 (pc' := 51) (2 : Int32) d8_50 rfl rfl ?_
        exact w_ireturn X3 d8_51 ⟨by rw [own_rp (own_d1 hc11).1 (own_d1 hc11).2, own_rp (own_d1 hc29).1 (own_d1 hc29).2, own_d0 hc47] <;> decide, rfl⟩ (by decide) (by decide)
    · skip
      refine w_iconst X2 (pc' := 33) (1 : Int32) d8_32 rfl rfl ?_
      exact w_ireturn X2 d8_33 ⟨by rw [own_rp (own_d1 hc11).1 (own_d1 hc11).2, own_d0 hc29] <;> decide, rfl⟩ (by decide) (by decide)
  · skip
    refine w_iconst X1 (pc' := 15) (0 : Int32) d8_14 rfl rfl ?_
    exact w_ireturn X1 d8_15 ⟨by rw [own_d0 hc11] <;> decide, rfl⟩ (by decide) (by decide)
set_option maxRecDepth 65536 in
set_option maxHeartbeats 40000000 in
theorem rm_ex4_1 {l : Launch} {Z : State} {a0 : Array Value} (hw : ∀ d ∈ tables_1, d.before a0 Z = true) {n0 : Nat} {h0 : Heap} (Z0 : n0 ≤ h0.size) (c0 c1 c2 c3 : Int32)  :
    Con l Z n0 (⟨"com/example/admitwire/admitwire/core/TimestampDigitsPinLaw", "expected", "(IICCCC)I"⟩ : MethodName) method_5_code 6 (some .int) ({ frames := 1, cells := 0, slots := 0, locals := 18 } : Room) #[(.int (4 : Int32)), (.int (1 : Int32)), (.int c0), (.int c1), (.int c2), (.int c3)] h0 (Val (fun v h => v = .int (own_run [c1, c2, c3]) ∧ h0 = h)) := by
  refine con_intro pn_8 Z0 (fr := fun m => mkF m 0 #[.val (.int (4 : Int32)), .val (.int (1 : Int32)), .val (.int c0), .val (.int c1), .val (.int c2), .val (.int c3)] []) (fun m => by first | (simp [entryFrame, mkF, argsToLocals, Value.category]; done) | rfl) ?_
  intro p e s m below s₁ hs0 X0
  refine w_iloadN X0 (pc' := 1) d8_0 rfl rfl ?_
  refine w_iloadN X0 (pc' := 2) d8_1 rfl rfl ?_
  refine w_iloadN X0 (pc' := 3) d8_2 rfl rfl ?_
  refine w_iloadN X0 (pc' := 4) d8_3 rfl rfl ?_
  refine w_iload X0 (pc' := 6) d8_4 rfl rfl ?_
  refine w_iload X0 (pc' := 8) d8_6 rfl rfl ?_
  refine w_staticV X0 (pc' := 11) d8_8 (rm_da1 hw (h0 := h0) (sd_size X0) (4 : Int32) c0 c1 c2 c3 (by decide)) (hw _ (List.mem_of_getElem? (i := 44) rfl)) (hw _ (List.mem_of_getElem? (i := 45) rfl)) (hw _ (List.mem_of_getElem? (i := 2) rfl)) (hw _ (List.mem_of_getElem? (i := 46) rfl)) (by decide) [(.int (1 : Int32)), (.int (4 : Int32)), (.int c0), (.int c1), (.int c2), (.int c3)] [] pd_9 rfl rfl rfl rfl 0 (Nat.le_refl _) (by decide) (by decide) (by decide) (by decide) rfl fun T1 h1 v1 X1 q1 => ?_
  obtain ⟨rfl, rfl⟩ := q1
  refine w_if_ne X1 16 14 d8_11 (by decide) rfl rfl (fun hc11 => ?_) (fun hc11 => ?_)
  · skip
    refine w_iloadN X1 (pc' := 17) d8_16 rfl rfl ?_
    refine w_iconst X1 (pc' := 18) (1 : Int32) d8_17 rfl rfl ?_
    refine w_iadd X1 (pc' := 19) d8_18 rfl ?_
    refine w_iloadN X1 (pc' := 20) d8_19 rfl rfl ?_
    refine w_iloadN X1 (pc' := 21) d8_20 rfl rfl ?_
    refine w_iloadN X1 (pc' := 22) d8_21 rfl rfl ?_
    refine w_iload X1 (pc' := 24) d8_22 rfl rfl ?_
    refine w_iload X1 (pc' := 26) d8_24 rfl rfl ?_
    rw [show ((1 : Int32) + (1 : Int32)) = (2 : Int32) from by decide]
    show Go p e below _ (T1.setTop (mkF m 26 #[.val (.int (4 : Int32)), .val (.int (1 : Int32)), .val (.int c0), .val (.int c1), .val (.int c2), .val (.int c3)] [(.int c3), (.int c2), (.int c1), (.int c0), (.int (4 : Int32)), (.int (2 : Int32))]))
    refine w_staticV X1 (pc' := 29) d8_26 (rm_da2 hw (h0 := h0) (sd_size X1) (4 : Int32) c0 c1 c2 c3 (by decide)) (hw _ (List.mem_of_getElem? (i := 44) rfl)) (hw _ (List.mem_of_getElem? (i := 45) rfl)) (hw _ (List.mem_of_getElem? (i := 2) rfl)) (hw _ (List.mem_of_getElem? (i := 46) rfl)) (by decide) [(.int (2 : Int32)), (.int (4 : Int32)), (.int c0), (.int c1), (.int c2), (.int c3)] [] pd_9 rfl rfl rfl rfl 0 (Nat.le_refl _) (by decide) (by decide) (by decide) (by decide) rfl fun T2 h2 v2 X2 q2 => ?_
    obtain ⟨rfl, rfl⟩ := q2
    refine w_if_ne X2 34 32 d8_29 (by decide) rfl rfl (fun hc29 => ?_) (fun hc29 => ?_)
    · skip
      refine w_iloadN X2 (pc' := 35) d8_34 rfl rfl ?_
      refine w_iconst X2 (pc' := 36) (2 : Int32) d8_35 rfl rfl ?_
      refine w_iadd X2 (pc' := 37) d8_36 rfl ?_
      refine w_iloadN X2 (pc' := 38) d8_37 rfl rfl ?_
      refine w_iloadN X2 (pc' := 39) d8_38 rfl rfl ?_
      refine w_iloadN X2 (pc' := 40) d8_39 rfl rfl ?_
      refine w_iload X2 (pc' := 42) d8_40 rfl rfl ?_
      refine w_iload X2 (pc' := 44) d8_42 rfl rfl ?_
      rw [show ((1 : Int32) + (2 : Int32)) = (3 : Int32) from by decide]
      show Go p e below _ (T2.setTop (mkF m 44 #[.val (.int (4 : Int32)), .val (.int (1 : Int32)), .val (.int c0), .val (.int c1), .val (.int c2), .val (.int c3)] [(.int c3), (.int c2), (.int c1), (.int c0), (.int (4 : Int32)), (.int (3 : Int32))]))
      refine w_staticV X2 (pc' := 47) d8_44 (rm_da3 hw (h0 := h0) (sd_size X2) (4 : Int32) c0 c1 c2 c3 (by decide)) (hw _ (List.mem_of_getElem? (i := 44) rfl)) (hw _ (List.mem_of_getElem? (i := 45) rfl)) (hw _ (List.mem_of_getElem? (i := 2) rfl)) (hw _ (List.mem_of_getElem? (i := 46) rfl)) (by decide) [(.int (3 : Int32)), (.int (4 : Int32)), (.int c0), (.int c1), (.int c2), (.int c3)] [] pd_9 rfl rfl rfl rfl 0 (Nat.le_refl _) (by decide) (by decide) (by decide) (by decide) rfl fun T3 h3 v3 X3 q3 => ?_
      obtain ⟨rfl, rfl⟩ := q3
      refine w_if_ne X3 52 50 d8_47 (by decide) rfl rfl (fun hc47 => ?_) (fun hc47 => ?_)
      · skip
        refine w_iloadN X3 (pc' := 53) d8_52 rfl rfl ?_
        refine w_iconst X3 (pc' := 54) (3 : Int32) d8_53 rfl rfl ?_
        refine w_iadd X3 (pc' := 55) d8_54 rfl ?_
        refine w_iloadN X3 (pc' := 56) d8_55 rfl rfl ?_
        refine w_iloadN X3 (pc' := 57) d8_56 rfl rfl ?_
        refine w_iloadN X3 (pc' := 58) d8_57 rfl rfl ?_
        refine w_iload X3 (pc' := 60) d8_58 rfl rfl ?_
        refine w_iload X3 (pc' := 62) d8_60 rfl rfl ?_
        rw [show ((1 : Int32) + (3 : Int32)) = (4 : Int32) from by decide]
        show Go p e below _ (T3.setTop (mkF m 62 #[.val (.int (4 : Int32)), .val (.int (1 : Int32)), .val (.int c0), .val (.int c1), .val (.int c2), .val (.int c3)] [(.int c3), (.int c2), (.int c1), (.int c0), (.int (4 : Int32)), (.int (4 : Int32))]))
        refine w_staticV X3 (pc' := 65) d8_62 (rm_dax hw (h0 := h0) (sd_size X3) (4 : Int32) (4 : Int32) c0 c1 c2 c3 (by decide)) (hw _ (List.mem_of_getElem? (i := 44) rfl)) (hw _ (List.mem_of_getElem? (i := 45) rfl)) (hw _ (List.mem_of_getElem? (i := 2) rfl)) (hw _ (List.mem_of_getElem? (i := 46) rfl)) (by decide) [(.int (4 : Int32)), (.int (4 : Int32)), (.int c0), (.int c1), (.int c2), (.int c3)] [] pd_9 rfl rfl rfl rfl 0 (Nat.le_refl _) (by decide) (by decide) (by decide) (by decide) rfl fun T4 h4 v4 X4 q4 => ?_
        obtain ⟨rfl, rfl⟩ := q4
        refine w_if_ne X4 70 68 d8_65 (by decide) rfl rfl (fun hc65 => by exfalso; revert hc65; decide) (fun hc65 => ?_)
        refine w_iconst X4 (pc' := 69) (3 : Int32) d8_68 rfl rfl ?_
        exact w_ireturn X4 d8_69 ⟨by rw [own_rp (own_d1 hc11).1 (own_d1 hc11).2, own_rp (own_d1 hc29).1 (own_d1 hc29).2, own_rp (own_d1 hc47).1 (own_d1 hc47).2, show own_run [] = 0 from rfl] <;> decide, rfl⟩ (by decide) (by decide)
      · skip
        refine w_iconst X3 (pc' := 51) (2 : Int32) d8_50 rfl rfl ?_
        exact w_ireturn X3 d8_51 ⟨by rw [own_rp (own_d1 hc11).1 (own_d1 hc11).2, own_rp (own_d1 hc29).1 (own_d1 hc29).2, own_d0 hc47] <;> decide, rfl⟩ (by decide) (by decide)
    · skip
      refine w_iconst X2 (pc' := 33) (1 : Int32) d8_32 rfl rfl ?_
      exact w_ireturn X2 d8_33 ⟨by rw [own_rp (own_d1 hc11).1 (own_d1 hc11).2, own_d0 hc29] <;> decide, rfl⟩ (by decide) (by decide)
  · skip
    refine w_iconst X1 (pc' := 15) (0 : Int32) d8_14 rfl rfl ?_
    exact w_ireturn X1 d8_15 ⟨by rw [own_d0 hc11] <;> decide, rfl⟩ (by decide) (by decide)
set_option maxRecDepth 65536 in
set_option maxHeartbeats 40000000 in
theorem rm_ex4_2 {l : Launch} {Z : State} {a0 : Array Value} (hw : ∀ d ∈ tables_1, d.before a0 Z = true) {n0 : Nat} {h0 : Heap} (Z0 : n0 ≤ h0.size) (c0 c1 c2 c3 : Int32)  :
    Con l Z n0 (⟨"com/example/admitwire/admitwire/core/TimestampDigitsPinLaw", "expected", "(IICCCC)I"⟩ : MethodName) method_5_code 6 (some .int) ({ frames := 1, cells := 0, slots := 0, locals := 18 } : Room) #[(.int (4 : Int32)), (.int (2 : Int32)), (.int c0), (.int c1), (.int c2), (.int c3)] h0 (Val (fun v h => v = .int (own_run [c2, c3]) ∧ h0 = h)) := by
  refine con_intro pn_8 Z0 (fr := fun m => mkF m 0 #[.val (.int (4 : Int32)), .val (.int (2 : Int32)), .val (.int c0), .val (.int c1), .val (.int c2), .val (.int c3)] []) (fun m => by first | (simp [entryFrame, mkF, argsToLocals, Value.category]; done) | rfl) ?_
  intro p e s m below s₁ hs0 X0
  refine w_iloadN X0 (pc' := 1) d8_0 rfl rfl ?_
  refine w_iloadN X0 (pc' := 2) d8_1 rfl rfl ?_
  refine w_iloadN X0 (pc' := 3) d8_2 rfl rfl ?_
  refine w_iloadN X0 (pc' := 4) d8_3 rfl rfl ?_
  refine w_iload X0 (pc' := 6) d8_4 rfl rfl ?_
  refine w_iload X0 (pc' := 8) d8_6 rfl rfl ?_
  refine w_staticV X0 (pc' := 11) d8_8 (rm_da2 hw (h0 := h0) (sd_size X0) (4 : Int32) c0 c1 c2 c3 (by decide)) (hw _ (List.mem_of_getElem? (i := 44) rfl)) (hw _ (List.mem_of_getElem? (i := 45) rfl)) (hw _ (List.mem_of_getElem? (i := 2) rfl)) (hw _ (List.mem_of_getElem? (i := 46) rfl)) (by decide) [(.int (2 : Int32)), (.int (4 : Int32)), (.int c0), (.int c1), (.int c2), (.int c3)] [] pd_9 rfl rfl rfl rfl 0 (Nat.le_refl _) (by decide) (by decide) (by decide) (by decide) rfl fun T1 h1 v1 X1 q1 => ?_
  obtain ⟨rfl, rfl⟩ := q1
  refine w_if_ne X1 16 14 d8_11 (by decide) rfl rfl (fun hc11 => ?_) (fun hc11 => ?_)
  · skip
    refine w_iloadN X1 (pc' := 17) d8_16 rfl rfl ?_
    refine w_iconst X1 (pc' := 18) (1 : Int32) d8_17 rfl rfl ?_
    refine w_iadd X1 (pc' := 19) d8_18 rfl ?_
    refine w_iloadN X1 (pc' := 20) d8_19 rfl rfl ?_
    refine w_iloadN X1 (pc' := 21) d8_20 rfl rfl ?_
    refine w_iloadN X1 (pc' := 22) d8_21 rfl rfl ?_
    refine w_iload X1 (pc' := 24) d8_22 rfl rfl ?_
    refine w_iload X1 (pc' := 26) d8_24 rfl rfl ?_
    rw [show ((2 : Int32) + (1 : Int32)) = (3 : Int32) from by decide]
    show Go p e below _ (T1.setTop (mkF m 26 #[.val (.int (4 : Int32)), .val (.int (2 : Int32)), .val (.int c0), .val (.int c1), .val (.int c2), .val (.int c3)] [(.int c3), (.int c2), (.int c1), (.int c0), (.int (4 : Int32)), (.int (3 : Int32))]))
    refine w_staticV X1 (pc' := 29) d8_26 (rm_da3 hw (h0 := h0) (sd_size X1) (4 : Int32) c0 c1 c2 c3 (by decide)) (hw _ (List.mem_of_getElem? (i := 44) rfl)) (hw _ (List.mem_of_getElem? (i := 45) rfl)) (hw _ (List.mem_of_getElem? (i := 2) rfl)) (hw _ (List.mem_of_getElem? (i := 46) rfl)) (by decide) [(.int (3 : Int32)), (.int (4 : Int32)), (.int c0), (.int c1), (.int c2), (.int c3)] [] pd_9 rfl rfl rfl rfl 0 (Nat.le_refl _) (by decide) (by decide) (by decide) (by decide) rfl fun T2 h2 v2 X2 q2 => ?_
    obtain ⟨rfl, rfl⟩ := q2
    refine w_if_ne X2 34 32 d8_29 (by decide) rfl rfl (fun hc29 => ?_) (fun hc29 => ?_)
    · skip
      refine w_iloadN X2 (pc' := 35) d8_34 rfl rfl ?_
      refine w_iconst X2 (pc' := 36) (2 : Int32) d8_35 rfl rfl ?_
      refine w_iadd X2 (pc' := 37) d8_36 rfl ?_
      refine w_iloadN X2 (pc' := 38) d8_37 rfl rfl ?_
      refine w_iloadN X2 (pc' := 39) d8_38 rfl rfl ?_
      refine w_iloadN X2 (pc' := 40) d8_39 rfl rfl ?_
      refine w_iload X2 (pc' := 42) d8_40 rfl rfl ?_
      refine w_iload X2 (pc' := 44) d8_42 rfl rfl ?_
      rw [show ((2 : Int32) + (2 : Int32)) = (4 : Int32) from by decide]
      show Go p e below _ (T2.setTop (mkF m 44 #[.val (.int (4 : Int32)), .val (.int (2 : Int32)), .val (.int c0), .val (.int c1), .val (.int c2), .val (.int c3)] [(.int c3), (.int c2), (.int c1), (.int c0), (.int (4 : Int32)), (.int (4 : Int32))]))
      refine w_staticV X2 (pc' := 47) d8_44 (rm_dax hw (h0 := h0) (sd_size X2) (4 : Int32) (4 : Int32) c0 c1 c2 c3 (by decide)) (hw _ (List.mem_of_getElem? (i := 44) rfl)) (hw _ (List.mem_of_getElem? (i := 45) rfl)) (hw _ (List.mem_of_getElem? (i := 2) rfl)) (hw _ (List.mem_of_getElem? (i := 46) rfl)) (by decide) [(.int (4 : Int32)), (.int (4 : Int32)), (.int c0), (.int c1), (.int c2), (.int c3)] [] pd_9 rfl rfl rfl rfl 0 (Nat.le_refl _) (by decide) (by decide) (by decide) (by decide) rfl fun T3 h3 v3 X3 q3 => ?_
      obtain ⟨rfl, rfl⟩ := q3
      refine w_if_ne X3 52 50 d8_47 (by decide) rfl rfl (fun hc47 => by exfalso; revert hc47; decide) (fun hc47 => ?_)
      refine w_iconst X3 (pc' := 51) (2 : Int32) d8_50 rfl rfl ?_
      exact w_ireturn X3 d8_51 ⟨by rw [own_rp (own_d1 hc11).1 (own_d1 hc11).2, own_rp (own_d1 hc29).1 (own_d1 hc29).2, show own_run [] = 0 from rfl] <;> decide, rfl⟩ (by decide) (by decide)
    · skip
      refine w_iconst X2 (pc' := 33) (1 : Int32) d8_32 rfl rfl ?_
      exact w_ireturn X2 d8_33 ⟨by rw [own_rp (own_d1 hc11).1 (own_d1 hc11).2, own_d0 hc29] <;> decide, rfl⟩ (by decide) (by decide)
  · skip
    refine w_iconst X1 (pc' := 15) (0 : Int32) d8_14 rfl rfl ?_
    exact w_ireturn X1 d8_15 ⟨by rw [own_d0 hc11] <;> decide, rfl⟩ (by decide) (by decide)
set_option maxRecDepth 65536 in
set_option maxHeartbeats 40000000 in
theorem rm_ex4_3 {l : Launch} {Z : State} {a0 : Array Value} (hw : ∀ d ∈ tables_1, d.before a0 Z = true) {n0 : Nat} {h0 : Heap} (Z0 : n0 ≤ h0.size) (c0 c1 c2 c3 : Int32)  :
    Con l Z n0 (⟨"com/example/admitwire/admitwire/core/TimestampDigitsPinLaw", "expected", "(IICCCC)I"⟩ : MethodName) method_5_code 6 (some .int) ({ frames := 1, cells := 0, slots := 0, locals := 18 } : Room) #[(.int (4 : Int32)), (.int (3 : Int32)), (.int c0), (.int c1), (.int c2), (.int c3)] h0 (Val (fun v h => v = .int (own_run [c3]) ∧ h0 = h)) := by
  refine con_intro pn_8 Z0 (fr := fun m => mkF m 0 #[.val (.int (4 : Int32)), .val (.int (3 : Int32)), .val (.int c0), .val (.int c1), .val (.int c2), .val (.int c3)] []) (fun m => by first | (simp [entryFrame, mkF, argsToLocals, Value.category]; done) | rfl) ?_
  intro p e s m below s₁ hs0 X0
  refine w_iloadN X0 (pc' := 1) d8_0 rfl rfl ?_
  refine w_iloadN X0 (pc' := 2) d8_1 rfl rfl ?_
  refine w_iloadN X0 (pc' := 3) d8_2 rfl rfl ?_
  refine w_iloadN X0 (pc' := 4) d8_3 rfl rfl ?_
  refine w_iload X0 (pc' := 6) d8_4 rfl rfl ?_
  refine w_iload X0 (pc' := 8) d8_6 rfl rfl ?_
  refine w_staticV X0 (pc' := 11) d8_8 (rm_da3 hw (h0 := h0) (sd_size X0) (4 : Int32) c0 c1 c2 c3 (by decide)) (hw _ (List.mem_of_getElem? (i := 44) rfl)) (hw _ (List.mem_of_getElem? (i := 45) rfl)) (hw _ (List.mem_of_getElem? (i := 2) rfl)) (hw _ (List.mem_of_getElem? (i := 46) rfl)) (by decide) [(.int (3 : Int32)), (.int (4 : Int32)), (.int c0), (.int c1), (.int c2), (.int c3)] [] pd_9 rfl rfl rfl rfl 0 (Nat.le_refl _) (by decide) (by decide) (by decide) (by decide) rfl fun T1 h1 v1 X1 q1 => ?_
  obtain ⟨rfl, rfl⟩ := q1
  refine w_if_ne X1 16 14 d8_11 (by decide) rfl rfl (fun hc11 => ?_) (fun hc11 => ?_)
  · skip
    refine w_iloadN X1 (pc' := 17) d8_16 rfl rfl ?_
    refine w_iconst X1 (pc' := 18) (1 : Int32) d8_17 rfl rfl ?_
    refine w_iadd X1 (pc' := 19) d8_18 rfl ?_
    refine w_iloadN X1 (pc' := 20) d8_19 rfl rfl ?_
    refine w_iloadN X1 (pc' := 21) d8_20 rfl rfl ?_
    refine w_iloadN X1 (pc' := 22) d8_21 rfl rfl ?_
    refine w_iload X1 (pc' := 24) d8_22 rfl rfl ?_
    refine w_iload X1 (pc' := 26) d8_24 rfl rfl ?_
    rw [show ((3 : Int32) + (1 : Int32)) = (4 : Int32) from by decide]
    show Go p e below _ (T1.setTop (mkF m 26 #[.val (.int (4 : Int32)), .val (.int (3 : Int32)), .val (.int c0), .val (.int c1), .val (.int c2), .val (.int c3)] [(.int c3), (.int c2), (.int c1), (.int c0), (.int (4 : Int32)), (.int (4 : Int32))]))
    refine w_staticV X1 (pc' := 29) d8_26 (rm_dax hw (h0 := h0) (sd_size X1) (4 : Int32) (4 : Int32) c0 c1 c2 c3 (by decide)) (hw _ (List.mem_of_getElem? (i := 44) rfl)) (hw _ (List.mem_of_getElem? (i := 45) rfl)) (hw _ (List.mem_of_getElem? (i := 2) rfl)) (hw _ (List.mem_of_getElem? (i := 46) rfl)) (by decide) [(.int (4 : Int32)), (.int (4 : Int32)), (.int c0), (.int c1), (.int c2), (.int c3)] [] pd_9 rfl rfl rfl rfl 0 (Nat.le_refl _) (by decide) (by decide) (by decide) (by decide) rfl fun T2 h2 v2 X2 q2 => ?_
    obtain ⟨rfl, rfl⟩ := q2
    refine w_if_ne X2 34 32 d8_29 (by decide) rfl rfl (fun hc29 => by exfalso; revert hc29; decide) (fun hc29 => ?_)
    refine w_iconst X2 (pc' := 33) (1 : Int32) d8_32 rfl rfl ?_
    exact w_ireturn X2 d8_33 ⟨by rw [own_rp (own_d1 hc11).1 (own_d1 hc11).2, show own_run [] = 0 from rfl] <;> decide, rfl⟩ (by decide) (by decide)
  · skip
    refine w_iconst X1 (pc' := 15) (0 : Int32) d8_14 rfl rfl ?_
    exact w_ireturn X1 d8_15 ⟨by rw [own_d0 hc11] <;> decide, rfl⟩ (by decide) (by decide)
set_option maxRecDepth 65536 in
set_option maxHeartbeats 40000000 in
theorem rm_ex4_x {l : Launch} {Z : State} {a0 : Array Value} (hw : ∀ d ∈ tables_1, d.before a0 Z = true) {n0 : Nat} {h0 : Heap} (Z0 : n0 ≤ h0.size) (p2 c0 c1 c2 c3 : Int32) (hx : ¬ p2 < (4 : Int32)) :
    Con l Z n0 (⟨"com/example/admitwire/admitwire/core/TimestampDigitsPinLaw", "expected", "(IICCCC)I"⟩ : MethodName) method_5_code 6 (some .int) ({ frames := 1, cells := 0, slots := 0, locals := 18 } : Room) #[(.int (4 : Int32)), (.int p2), (.int c0), (.int c1), (.int c2), (.int c3)] h0 (Val (fun v h => v = .int 0 ∧ h0 = h)) := by
  refine con_intro pn_8 Z0 (fr := fun m => mkF m 0 #[.val (.int (4 : Int32)), .val (.int p2), .val (.int c0), .val (.int c1), .val (.int c2), .val (.int c3)] []) (fun m => by first | (simp [entryFrame, mkF, argsToLocals, Value.category]; done) | rfl) ?_
  intro p e s m below s₁ hs0 X0
  refine w_iloadN X0 (pc' := 1) d8_0 rfl rfl ?_
  refine w_iloadN X0 (pc' := 2) d8_1 rfl rfl ?_
  refine w_iloadN X0 (pc' := 3) d8_2 rfl rfl ?_
  refine w_iloadN X0 (pc' := 4) d8_3 rfl rfl ?_
  refine w_iload X0 (pc' := 6) d8_4 rfl rfl ?_
  refine w_iload X0 (pc' := 8) d8_6 rfl rfl ?_
  refine w_staticV X0 (pc' := 11) d8_8 (rm_dax hw (h0 := h0) (sd_size X0) p2 (4 : Int32) c0 c1 c2 c3 hx) (hw _ (List.mem_of_getElem? (i := 44) rfl)) (hw _ (List.mem_of_getElem? (i := 45) rfl)) (hw _ (List.mem_of_getElem? (i := 2) rfl)) (hw _ (List.mem_of_getElem? (i := 46) rfl)) (by decide) [(.int p2), (.int (4 : Int32)), (.int c0), (.int c1), (.int c2), (.int c3)] [] pd_9 rfl rfl rfl rfl 0 (Nat.le_refl _) (by decide) (by decide) (by decide) (by decide) rfl fun T1 h1 v1 X1 q1 => ?_
  obtain ⟨rfl, rfl⟩ := q1
  refine w_if_ne X1 16 14 d8_11 (by decide) rfl rfl (fun hc11 => by exfalso; revert hc11; decide) (fun hc11 => ?_)
  refine w_iconst X1 (pc' := 15) (0 : Int32) d8_14 rfl rfl ?_
  exact w_ireturn X1 d8_15 ⟨rfl, rfl⟩ (by decide) (by decide)
set_option maxRecDepth 65536 in
set_option maxHeartbeats 40000000 in
theorem rm_ex3_0 {l : Launch} {Z : State} {a0 : Array Value} (hw : ∀ d ∈ tables_1, d.before a0 Z = true) {n0 : Nat} {h0 : Heap} (Z0 : n0 ≤ h0.size) (c0 c1 c2 c3 : Int32)  :
    Con l Z n0 (⟨"com/example/admitwire/admitwire/core/TimestampDigitsPinLaw", "expected", "(IICCCC)I"⟩ : MethodName) method_5_code 6 (some .int) ({ frames := 1, cells := 0, slots := 0, locals := 18 } : Room) #[(.int (3 : Int32)), (.int (0 : Int32)), (.int c0), (.int c1), (.int c2), (.int c3)] h0 (Val (fun v h => v = .int (own_run [c0, c1, c2]) ∧ h0 = h)) := by
  refine con_intro pn_8 Z0 (fr := fun m => mkF m 0 #[.val (.int (3 : Int32)), .val (.int (0 : Int32)), .val (.int c0), .val (.int c1), .val (.int c2), .val (.int c3)] []) (fun m => by first | (simp [entryFrame, mkF, argsToLocals, Value.category]; done) | rfl) ?_
  intro p e s m below s₁ hs0 X0
  refine w_iloadN X0 (pc' := 1) d8_0 rfl rfl ?_
  refine w_iloadN X0 (pc' := 2) d8_1 rfl rfl ?_
  refine w_iloadN X0 (pc' := 3) d8_2 rfl rfl ?_
  refine w_iloadN X0 (pc' := 4) d8_3 rfl rfl ?_
  refine w_iload X0 (pc' := 6) d8_4 rfl rfl ?_
  refine w_iload X0 (pc' := 8) d8_6 rfl rfl ?_
  refine w_staticV X0 (pc' := 11) d8_8 (rm_da0 hw (h0 := h0) (sd_size X0) (3 : Int32) c0 c1 c2 c3 (by decide)) (hw _ (List.mem_of_getElem? (i := 44) rfl)) (hw _ (List.mem_of_getElem? (i := 45) rfl)) (hw _ (List.mem_of_getElem? (i := 2) rfl)) (hw _ (List.mem_of_getElem? (i := 46) rfl)) (by decide) [(.int (0 : Int32)), (.int (3 : Int32)), (.int c0), (.int c1), (.int c2), (.int c3)] [] pd_9 rfl rfl rfl rfl 0 (Nat.le_refl _) (by decide) (by decide) (by decide) (by decide) rfl fun T1 h1 v1 X1 q1 => ?_
  obtain ⟨rfl, rfl⟩ := q1
  refine w_if_ne X1 16 14 d8_11 (by decide) rfl rfl (fun hc11 => ?_) (fun hc11 => ?_)
  · skip
    refine w_iloadN X1 (pc' := 17) d8_16 rfl rfl ?_
    refine w_iconst X1 (pc' := 18) (1 : Int32) d8_17 rfl rfl ?_
    refine w_iadd X1 (pc' := 19) d8_18 rfl ?_
    refine w_iloadN X1 (pc' := 20) d8_19 rfl rfl ?_
    refine w_iloadN X1 (pc' := 21) d8_20 rfl rfl ?_
    refine w_iloadN X1 (pc' := 22) d8_21 rfl rfl ?_
    refine w_iload X1 (pc' := 24) d8_22 rfl rfl ?_
    refine w_iload X1 (pc' := 26) d8_24 rfl rfl ?_
    rw [show ((0 : Int32) + (1 : Int32)) = (1 : Int32) from by decide]
    show Go p e below _ (T1.setTop (mkF m 26 #[.val (.int (3 : Int32)), .val (.int (0 : Int32)), .val (.int c0), .val (.int c1), .val (.int c2), .val (.int c3)] [(.int c3), (.int c2), (.int c1), (.int c0), (.int (3 : Int32)), (.int (1 : Int32))]))
    refine w_staticV X1 (pc' := 29) d8_26 (rm_da1 hw (h0 := h0) (sd_size X1) (3 : Int32) c0 c1 c2 c3 (by decide)) (hw _ (List.mem_of_getElem? (i := 44) rfl)) (hw _ (List.mem_of_getElem? (i := 45) rfl)) (hw _ (List.mem_of_getElem? (i := 2) rfl)) (hw _ (List.mem_of_getElem? (i := 46) rfl)) (by decide) [(.int (1 : Int32)), (.int (3 : Int32)), (.int c0), (.int c1), (.int c2), (.int c3)] [] pd_9 rfl rfl rfl rfl 0 (Nat.le_refl _) (by decide) (by decide) (by decide) (by decide) rfl fun T2 h2 v2 X2 q2 => ?_
    obtain ⟨rfl, rfl⟩ := q2
    refine w_if_ne X2 34 32 d8_29 (by decide) rfl rfl (fun hc29 => ?_) (fun hc29 => ?_)
    · skip
      refine w_iloadN X2 (pc' := 35) d8_34 rfl rfl ?_
      refine w_iconst X2 (pc' := 36) (2 : Int32) d8_35 rfl rfl ?_
      refine w_iadd X2 (pc' := 37) d8_36 rfl ?_
      refine w_iloadN X2 (pc' := 38) d8_37 rfl rfl ?_
      refine w_iloadN X2 (pc' := 39) d8_38 rfl rfl ?_
      refine w_iloadN X2 (pc' := 40) d8_39 rfl rfl ?_
      refine w_iload X2 (pc' := 42) d8_40 rfl rfl ?_
      refine w_iload X2 (pc' := 44) d8_42 rfl rfl ?_
      rw [show ((0 : Int32) + (2 : Int32)) = (2 : Int32) from by decide]
      show Go p e below _ (T2.setTop (mkF m 44 #[.val (.int (3 : Int32)), .val (.int (0 : Int32)), .val (.int c0), .val (.int c1), .val (.int c2), .val (.int c3)] [(.int c3), (.int c2), (.int c1), (.int c0), (.int (3 : Int32)), (.int (2 : Int32))]))
      refine w_staticV X2 (pc' := 47) d8_44 (rm_da2 hw (h0 := h0) (sd_size X2) (3 : Int32) c0 c1 c2 c3 (by decide)) (hw _ (List.mem_of_getElem? (i := 44) rfl)) (hw _ (List.mem_of_getElem? (i := 45) rfl)) (hw _ (List.mem_of_getElem? (i := 2) rfl)) (hw _ (List.mem_of_getElem? (i := 46) rfl)) (by decide) [(.int (2 : Int32)), (.int (3 : Int32)), (.int c0), (.int c1), (.int c2), (.int c3)] [] pd_9 rfl rfl rfl rfl 0 (Nat.le_refl _) (by decide) (by decide) (by decide) (by decide) rfl fun T3 h3 v3 X3 q3 => ?_
      obtain ⟨rfl, rfl⟩ := q3
      refine w_if_ne X3 52 50 d8_47 (by decide) rfl rfl (fun hc47 => ?_) (fun hc47 => ?_)
      · skip
        refine w_iloadN X3 (pc' := 53) d8_52 rfl rfl ?_
        refine w_iconst X3 (pc' := 54) (3 : Int32) d8_53 rfl rfl ?_
        refine w_iadd X3 (pc' := 55) d8_54 rfl ?_
        refine w_iloadN X3 (pc' := 56) d8_55 rfl rfl ?_
        refine w_iloadN X3 (pc' := 57) d8_56 rfl rfl ?_
        refine w_iloadN X3 (pc' := 58) d8_57 rfl rfl ?_
        refine w_iload X3 (pc' := 60) d8_58 rfl rfl ?_
        refine w_iload X3 (pc' := 62) d8_60 rfl rfl ?_
        rw [show ((0 : Int32) + (3 : Int32)) = (3 : Int32) from by decide]
        show Go p e below _ (T3.setTop (mkF m 62 #[.val (.int (3 : Int32)), .val (.int (0 : Int32)), .val (.int c0), .val (.int c1), .val (.int c2), .val (.int c3)] [(.int c3), (.int c2), (.int c1), (.int c0), (.int (3 : Int32)), (.int (3 : Int32))]))
        refine w_staticV X3 (pc' := 65) d8_62 (rm_dax hw (h0 := h0) (sd_size X3) (3 : Int32) (3 : Int32) c0 c1 c2 c3 (by decide)) (hw _ (List.mem_of_getElem? (i := 44) rfl)) (hw _ (List.mem_of_getElem? (i := 45) rfl)) (hw _ (List.mem_of_getElem? (i := 2) rfl)) (hw _ (List.mem_of_getElem? (i := 46) rfl)) (by decide) [(.int (3 : Int32)), (.int (3 : Int32)), (.int c0), (.int c1), (.int c2), (.int c3)] [] pd_9 rfl rfl rfl rfl 0 (Nat.le_refl _) (by decide) (by decide) (by decide) (by decide) rfl fun T4 h4 v4 X4 q4 => ?_
        obtain ⟨rfl, rfl⟩ := q4
        refine w_if_ne X4 70 68 d8_65 (by decide) rfl rfl (fun hc65 => by exfalso; revert hc65; decide) (fun hc65 => ?_)
        refine w_iconst X4 (pc' := 69) (3 : Int32) d8_68 rfl rfl ?_
        exact w_ireturn X4 d8_69 ⟨by rw [own_rp (own_d1 hc11).1 (own_d1 hc11).2, own_rp (own_d1 hc29).1 (own_d1 hc29).2, own_rp (own_d1 hc47).1 (own_d1 hc47).2, show own_run [] = 0 from rfl] <;> decide, rfl⟩ (by decide) (by decide)
      · skip
        refine w_iconst X3 (pc' := 51) (2 : Int32) d8_50 rfl rfl ?_
        exact w_ireturn X3 d8_51 ⟨by rw [own_rp (own_d1 hc11).1 (own_d1 hc11).2, own_rp (own_d1 hc29).1 (own_d1 hc29).2, own_d0 hc47] <;> decide, rfl⟩ (by decide) (by decide)
    · skip
      refine w_iconst X2 (pc' := 33) (1 : Int32) d8_32 rfl rfl ?_
      exact w_ireturn X2 d8_33 ⟨by rw [own_rp (own_d1 hc11).1 (own_d1 hc11).2, own_d0 hc29] <;> decide, rfl⟩ (by decide) (by decide)
  · skip
    refine w_iconst X1 (pc' := 15) (0 : Int32) d8_14 rfl rfl ?_
    exact w_ireturn X1 d8_15 ⟨by rw [own_d0 hc11] <;> decide, rfl⟩ (by decide) (by decide)
set_option maxRecDepth 65536 in
set_option maxHeartbeats 40000000 in
theorem rm_ex3_1 {l : Launch} {Z : State} {a0 : Array Value} (hw : ∀ d ∈ tables_1, d.before a0 Z = true) {n0 : Nat} {h0 : Heap} (Z0 : n0 ≤ h0.size) (c0 c1 c2 c3 : Int32)  :
    Con l Z n0 (⟨"com/example/admitwire/admitwire/core/TimestampDigitsPinLaw", "expected", "(IICCCC)I"⟩ : MethodName) method_5_code 6 (some .int) ({ frames := 1, cells := 0, slots := 0, locals := 18 } : Room) #[(.int (3 : Int32)), (.int (1 : Int32)), (.int c0), (.int c1), (.int c2), (.int c3)] h0 (Val (fun v h => v = .int (own_run [c1, c2]) ∧ h0 = h)) := by
  refine con_intro pn_8 Z0 (fr := fun m => mkF m 0 #[.val (.int (3 : Int32)), .val (.int (1 : Int32)), .val (.int c0), .val (.int c1), .val (.int c2), .val (.int c3)] []) (fun m => by first | (simp [entryFrame, mkF, argsToLocals, Value.category]; done) | rfl) ?_
  intro p e s m below s₁ hs0 X0
  refine w_iloadN X0 (pc' := 1) d8_0 rfl rfl ?_
  refine w_iloadN X0 (pc' := 2) d8_1 rfl rfl ?_
  refine w_iloadN X0 (pc' := 3) d8_2 rfl rfl ?_
  refine w_iloadN X0 (pc' := 4) d8_3 rfl rfl ?_
  refine w_iload X0 (pc' := 6) d8_4 rfl rfl ?_
  refine w_iload X0 (pc' := 8) d8_6 rfl rfl ?_
  refine w_staticV X0 (pc' := 11) d8_8 (rm_da1 hw (h0 := h0) (sd_size X0) (3 : Int32) c0 c1 c2 c3 (by decide)) (hw _ (List.mem_of_getElem? (i := 44) rfl)) (hw _ (List.mem_of_getElem? (i := 45) rfl)) (hw _ (List.mem_of_getElem? (i := 2) rfl)) (hw _ (List.mem_of_getElem? (i := 46) rfl)) (by decide) [(.int (1 : Int32)), (.int (3 : Int32)), (.int c0), (.int c1), (.int c2), (.int c3)] [] pd_9 rfl rfl rfl rfl 0 (Nat.le_refl _) (by decide) (by decide) (by decide) (by decide) rfl fun T1 h1 v1 X1 q1 => ?_
  obtain ⟨rfl, rfl⟩ := q1
  refine w_if_ne X1 16 14 d8_11 (by decide) rfl rfl (fun hc11 => ?_) (fun hc11 => ?_)
  · skip
    refine w_iloadN X1 (pc' := 17) d8_16 rfl rfl ?_
    refine w_iconst X1 (pc' := 18) (1 : Int32) d8_17 rfl rfl ?_
    refine w_iadd X1 (pc' := 19) d8_18 rfl ?_
    refine w_iloadN X1 (pc' := 20) d8_19 rfl rfl ?_
    refine w_iloadN X1 (pc' := 21) d8_20 rfl rfl ?_
    refine w_iloadN X1 (pc' := 22) d8_21 rfl rfl ?_
    refine w_iload X1 (pc' := 24) d8_22 rfl rfl ?_
    refine w_iload X1 (pc' := 26) d8_24 rfl rfl ?_
    rw [show ((1 : Int32) + (1 : Int32)) = (2 : Int32) from by decide]
    show Go p e below _ (T1.setTop (mkF m 26 #[.val (.int (3 : Int32)), .val (.int (1 : Int32)), .val (.int c0), .val (.int c1), .val (.int c2), .val (.int c3)] [(.int c3), (.int c2), (.int c1), (.int c0), (.int (3 : Int32)), (.int (2 : Int32))]))
    refine w_staticV X1 (pc' := 29) d8_26 (rm_da2 hw (h0 := h0) (sd_size X1) (3 : Int32) c0 c1 c2 c3 (by decide)) (hw _ (List.mem_of_getElem? (i := 44) rfl)) (hw _ (List.mem_of_getElem? (i := 45) rfl)) (hw _ (List.mem_of_getElem? (i := 2) rfl)) (hw _ (List.mem_of_getElem? (i := 46) rfl)) (by decide) [(.int (2 : Int32)), (.int (3 : Int32)), (.int c0), (.int c1), (.int c2), (.int c3)] [] pd_9 rfl rfl rfl rfl 0 (Nat.le_refl _) (by decide) (by decide) (by decide) (by decide) rfl fun T2 h2 v2 X2 q2 => ?_
    obtain ⟨rfl, rfl⟩ := q2
    refine w_if_ne X2 34 32 d8_29 (by decide) rfl rfl (fun hc29 => ?_) (fun hc29 => ?_)
    · skip
      refine w_iloadN X2 (pc' := 35) d8_34 rfl rfl ?_
      refine w_iconst X2 (pc' := 36) (2 : Int32) d8_35 rfl rfl ?_
      refine w_iadd X2 (pc' := 37) d8_36 rfl ?_
      refine w_iloadN X2 (pc' := 38) d8_37 rfl rfl ?_
      refine w_iloadN X2 (pc' := 39) d8_38 rfl rfl ?_
      refine w_iloadN X2 (pc' := 40) d8_39 rfl rfl ?_
      refine w_iload X2 (pc' := 42) d8_40 rfl rfl ?_
      refine w_iload X2 (pc' := 44) d8_42 rfl rfl ?_
      rw [show ((1 : Int32) + (2 : Int32)) = (3 : Int32) from by decide]
      show Go p e below _ (T2.setTop (mkF m 44 #[.val (.int (3 : Int32)), .val (.int (1 : Int32)), .val (.int c0), .val (.int c1), .val (.int c2), .val (.int c3)] [(.int c3), (.int c2), (.int c1), (.int c0), (.int (3 : Int32)), (.int (3 : Int32))]))
      refine w_staticV X2 (pc' := 47) d8_44 (rm_dax hw (h0 := h0) (sd_size X2) (3 : Int32) (3 : Int32) c0 c1 c2 c3 (by decide)) (hw _ (List.mem_of_getElem? (i := 44) rfl)) (hw _ (List.mem_of_getElem? (i := 45) rfl)) (hw _ (List.mem_of_getElem? (i := 2) rfl)) (hw _ (List.mem_of_getElem? (i := 46) rfl)) (by decide) [(.int (3 : Int32)), (.int (3 : Int32)), (.int c0), (.int c1), (.int c2), (.int c3)] [] pd_9 rfl rfl rfl rfl 0 (Nat.le_refl _) (by decide) (by decide) (by decide) (by decide) rfl fun T3 h3 v3 X3 q3 => ?_
      obtain ⟨rfl, rfl⟩ := q3
      refine w_if_ne X3 52 50 d8_47 (by decide) rfl rfl (fun hc47 => by exfalso; revert hc47; decide) (fun hc47 => ?_)
      refine w_iconst X3 (pc' := 51) (2 : Int32) d8_50 rfl rfl ?_
      exact w_ireturn X3 d8_51 ⟨by rw [own_rp (own_d1 hc11).1 (own_d1 hc11).2, own_rp (own_d1 hc29).1 (own_d1 hc29).2, show own_run [] = 0 from rfl] <;> decide, rfl⟩ (by decide) (by decide)
    · skip
      refine w_iconst X2 (pc' := 33) (1 : Int32) d8_32 rfl rfl ?_
      exact w_ireturn X2 d8_33 ⟨by rw [own_rp (own_d1 hc11).1 (own_d1 hc11).2, own_d0 hc29] <;> decide, rfl⟩ (by decide) (by decide)
  · skip
    refine w_iconst X1 (pc' := 15) (0 : Int32) d8_14 rfl rfl ?_
    exact w_ireturn X1 d8_15 ⟨by rw [own_d0 hc11] <;> decide, rfl⟩ (by decide) (by decide)
set_option maxRecDepth 65536 in
set_option maxHeartbeats 40000000 in
theorem rm_ex3_2 {l : Launch} {Z : State} {a0 : Array Value} (hw : ∀ d ∈ tables_1, d.before a0 Z = true) {n0 : Nat} {h0 : Heap} (Z0 : n0 ≤ h0.size) (c0 c1 c2 c3 : Int32)  :
    Con l Z n0 (⟨"com/example/admitwire/admitwire/core/TimestampDigitsPinLaw", "expected", "(IICCCC)I"⟩ : MethodName) method_5_code 6 (some .int) ({ frames := 1, cells := 0, slots := 0, locals := 18 } : Room) #[(.int (3 : Int32)), (.int (2 : Int32)), (.int c0), (.int c1), (.int c2), (.int c3)] h0 (Val (fun v h => v = .int (own_run [c2]) ∧ h0 = h)) := by
  refine con_intro pn_8 Z0 (fr := fun m => mkF m 0 #[.val (.int (3 : Int32)), .val (.int (2 : Int32)), .val (.int c0), .val (.int c1), .val (.int c2), .val (.int c3)] []) (fun m => by first | (simp [entryFrame, mkF, argsToLocals, Value.category]; done) | rfl) ?_
  intro p e s m below s₁ hs0 X0
  refine w_iloadN X0 (pc' := 1) d8_0 rfl rfl ?_
  refine w_iloadN X0 (pc' := 2) d8_1 rfl rfl ?_
  refine w_iloadN X0 (pc' := 3) d8_2 rfl rfl ?_
  refine w_iloadN X0 (pc' := 4) d8_3 rfl rfl ?_
  refine w_iload X0 (pc' := 6) d8_4 rfl rfl ?_
  refine w_iload X0 (pc' := 8) d8_6 rfl rfl ?_
  refine w_staticV X0 (pc' := 11) d8_8 (rm_da2 hw (h0 := h0) (sd_size X0) (3 : Int32) c0 c1 c2 c3 (by decide)) (hw _ (List.mem_of_getElem? (i := 44) rfl)) (hw _ (List.mem_of_getElem? (i := 45) rfl)) (hw _ (List.mem_of_getElem? (i := 2) rfl)) (hw _ (List.mem_of_getElem? (i := 46) rfl)) (by decide) [(.int (2 : Int32)), (.int (3 : Int32)), (.int c0), (.int c1), (.int c2), (.int c3)] [] pd_9 rfl rfl rfl rfl 0 (Nat.le_refl _) (by decide) (by decide) (by decide) (by decide) rfl fun T1 h1 v1 X1 q1 => ?_
  obtain ⟨rfl, rfl⟩ := q1
  refine w_if_ne X1 16 14 d8_11 (by decide) rfl rfl (fun hc11 => ?_) (fun hc11 => ?_)
  · skip
    refine w_iloadN X1 (pc' := 17) d8_16 rfl rfl ?_
    refine w_iconst X1 (pc' := 18) (1 : Int32) d8_17 rfl rfl ?_
    refine w_iadd X1 (pc' := 19) d8_18 rfl ?_
    refine w_iloadN X1 (pc' := 20) d8_19 rfl rfl ?_
    refine w_iloadN X1 (pc' := 21) d8_20 rfl rfl ?_
    refine w_iloadN X1 (pc' := 22) d8_21 rfl rfl ?_
    refine w_iload X1 (pc' := 24) d8_22 rfl rfl ?_
    refine w_iload X1 (pc' := 26) d8_24 rfl rfl ?_
    rw [show ((2 : Int32) + (1 : Int32)) = (3 : Int32) from by decide]
    show Go p e below _ (T1.setTop (mkF m 26 #[.val (.int (3 : Int32)), .val (.int (2 : Int32)), .val (.int c0), .val (.int c1), .val (.int c2), .val (.int c3)] [(.int c3), (.int c2), (.int c1), (.int c0), (.int (3 : Int32)), (.int (3 : Int32))]))
    refine w_staticV X1 (pc' := 29) d8_26 (rm_dax hw (h0 := h0) (sd_size X1) (3 : Int32) (3 : Int32) c0 c1 c2 c3 (by decide)) (hw _ (List.mem_of_getElem? (i := 44) rfl)) (hw _ (List.mem_of_getElem? (i := 45) rfl)) (hw _ (List.mem_of_getElem? (i := 2) rfl)) (hw _ (List.mem_of_getElem? (i := 46) rfl)) (by decide) [(.int (3 : Int32)), (.int (3 : Int32)), (.int c0), (.int c1), (.int c2), (.int c3)] [] pd_9 rfl rfl rfl rfl 0 (Nat.le_refl _) (by decide) (by decide) (by decide) (by decide) rfl fun T2 h2 v2 X2 q2 => ?_
    obtain ⟨rfl, rfl⟩ := q2
    refine w_if_ne X2 34 32 d8_29 (by decide) rfl rfl (fun hc29 => by exfalso; revert hc29; decide) (fun hc29 => ?_)
    refine w_iconst X2 (pc' := 33) (1 : Int32) d8_32 rfl rfl ?_
    exact w_ireturn X2 d8_33 ⟨by rw [own_rp (own_d1 hc11).1 (own_d1 hc11).2, show own_run [] = 0 from rfl] <;> decide, rfl⟩ (by decide) (by decide)
  · skip
    refine w_iconst X1 (pc' := 15) (0 : Int32) d8_14 rfl rfl ?_
    exact w_ireturn X1 d8_15 ⟨by rw [own_d0 hc11] <;> decide, rfl⟩ (by decide) (by decide)
set_option maxRecDepth 65536 in
set_option maxHeartbeats 40000000 in
theorem rm_ex3_x {l : Launch} {Z : State} {a0 : Array Value} (hw : ∀ d ∈ tables_1, d.before a0 Z = true) {n0 : Nat} {h0 : Heap} (Z0 : n0 ≤ h0.size) (p2 c0 c1 c2 c3 : Int32) (hx : ¬ p2 < (3 : Int32)) :
    Con l Z n0 (⟨"com/example/admitwire/admitwire/core/TimestampDigitsPinLaw", "expected", "(IICCCC)I"⟩ : MethodName) method_5_code 6 (some .int) ({ frames := 1, cells := 0, slots := 0, locals := 18 } : Room) #[(.int (3 : Int32)), (.int p2), (.int c0), (.int c1), (.int c2), (.int c3)] h0 (Val (fun v h => v = .int 0 ∧ h0 = h)) := by
  refine con_intro pn_8 Z0 (fr := fun m => mkF m 0 #[.val (.int (3 : Int32)), .val (.int p2), .val (.int c0), .val (.int c1), .val (.int c2), .val (.int c3)] []) (fun m => by first | (simp [entryFrame, mkF, argsToLocals, Value.category]; done) | rfl) ?_
  intro p e s m below s₁ hs0 X0
  refine w_iloadN X0 (pc' := 1) d8_0 rfl rfl ?_
  refine w_iloadN X0 (pc' := 2) d8_1 rfl rfl ?_
  refine w_iloadN X0 (pc' := 3) d8_2 rfl rfl ?_
  refine w_iloadN X0 (pc' := 4) d8_3 rfl rfl ?_
  refine w_iload X0 (pc' := 6) d8_4 rfl rfl ?_
  refine w_iload X0 (pc' := 8) d8_6 rfl rfl ?_
  refine w_staticV X0 (pc' := 11) d8_8 (rm_dax hw (h0 := h0) (sd_size X0) p2 (3 : Int32) c0 c1 c2 c3 hx) (hw _ (List.mem_of_getElem? (i := 44) rfl)) (hw _ (List.mem_of_getElem? (i := 45) rfl)) (hw _ (List.mem_of_getElem? (i := 2) rfl)) (hw _ (List.mem_of_getElem? (i := 46) rfl)) (by decide) [(.int p2), (.int (3 : Int32)), (.int c0), (.int c1), (.int c2), (.int c3)] [] pd_9 rfl rfl rfl rfl 0 (Nat.le_refl _) (by decide) (by decide) (by decide) (by decide) rfl fun T1 h1 v1 X1 q1 => ?_
  obtain ⟨rfl, rfl⟩ := q1
  refine w_if_ne X1 16 14 d8_11 (by decide) rfl rfl (fun hc11 => by exfalso; revert hc11; decide) (fun hc11 => ?_)
  refine w_iconst X1 (pc' := 15) (0 : Int32) d8_14 rfl rfl ?_
  exact w_ireturn X1 d8_15 ⟨rfl, rfl⟩ (by decide) (by decide)
set_option maxRecDepth 65536 in
set_option maxHeartbeats 40000000 in
theorem rm_ex2_0 {l : Launch} {Z : State} {a0 : Array Value} (hw : ∀ d ∈ tables_1, d.before a0 Z = true) {n0 : Nat} {h0 : Heap} (Z0 : n0 ≤ h0.size) (c0 c1 c2 c3 : Int32)  :
    Con l Z n0 (⟨"com/example/admitwire/admitwire/core/TimestampDigitsPinLaw", "expected", "(IICCCC)I"⟩ : MethodName) method_5_code 6 (some .int) ({ frames := 1, cells := 0, slots := 0, locals := 18 } : Room) #[(.int (2 : Int32)), (.int (0 : Int32)), (.int c0), (.int c1), (.int c2), (.int c3)] h0 (Val (fun v h => v = .int (own_run [c0, c1]) ∧ h0 = h)) := by
  refine con_intro pn_8 Z0 (fr := fun m => mkF m 0 #[.val (.int (2 : Int32)), .val (.int (0 : Int32)), .val (.int c0), .val (.int c1), .val (.int c2), .val (.int c3)] []) (fun m => by first | (simp [entryFrame, mkF, argsToLocals, Value.category]; done) | rfl) ?_
  intro p e s m below s₁ hs0 X0
  refine w_iloadN X0 (pc' := 1) d8_0 rfl rfl ?_
  refine w_iloadN X0 (pc' := 2) d8_1 rfl rfl ?_
  refine w_iloadN X0 (pc' := 3) d8_2 rfl rfl ?_
  refine w_iloadN X0 (pc' := 4) d8_3 rfl rfl ?_
  refine w_iload X0 (pc' := 6) d8_4 rfl rfl ?_
  refine w_iload X0 (pc' := 8) d8_6 rfl rfl ?_
  refine w_staticV X0 (pc' := 11) d8_8 (rm_da0 hw (h0 := h0) (sd_size X0) (2 : Int32) c0 c1 c2 c3 (by decide)) (hw _ (List.mem_of_getElem? (i := 44) rfl)) (hw _ (List.mem_of_getElem? (i := 45) rfl)) (hw _ (List.mem_of_getElem? (i := 2) rfl)) (hw _ (List.mem_of_getElem? (i := 46) rfl)) (by decide) [(.int (0 : Int32)), (.int (2 : Int32)), (.int c0), (.int c1), (.int c2), (.int c3)] [] pd_9 rfl rfl rfl rfl 0 (Nat.le_refl _) (by decide) (by decide) (by decide) (by decide) rfl fun T1 h1 v1 X1 q1 => ?_
  obtain ⟨rfl, rfl⟩ := q1
  refine w_if_ne X1 16 14 d8_11 (by decide) rfl rfl (fun hc11 => ?_) (fun hc11 => ?_)
  · skip
    refine w_iloadN X1 (pc' := 17) d8_16 rfl rfl ?_
    refine w_iconst X1 (pc' := 18) (1 : Int32) d8_17 rfl rfl ?_
    refine w_iadd X1 (pc' := 19) d8_18 rfl ?_
    refine w_iloadN X1 (pc' := 20) d8_19 rfl rfl ?_
    refine w_iloadN X1 (pc' := 21) d8_20 rfl rfl ?_
    refine w_iloadN X1 (pc' := 22) d8_21 rfl rfl ?_
    refine w_iload X1 (pc' := 24) d8_22 rfl rfl ?_
    refine w_iload X1 (pc' := 26) d8_24 rfl rfl ?_
    rw [show ((0 : Int32) + (1 : Int32)) = (1 : Int32) from by decide]
    show Go p e below _ (T1.setTop (mkF m 26 #[.val (.int (2 : Int32)), .val (.int (0 : Int32)), .val (.int c0), .val (.int c1), .val (.int c2), .val (.int c3)] [(.int c3), (.int c2), (.int c1), (.int c0), (.int (2 : Int32)), (.int (1 : Int32))]))
    refine w_staticV X1 (pc' := 29) d8_26 (rm_da1 hw (h0 := h0) (sd_size X1) (2 : Int32) c0 c1 c2 c3 (by decide)) (hw _ (List.mem_of_getElem? (i := 44) rfl)) (hw _ (List.mem_of_getElem? (i := 45) rfl)) (hw _ (List.mem_of_getElem? (i := 2) rfl)) (hw _ (List.mem_of_getElem? (i := 46) rfl)) (by decide) [(.int (1 : Int32)), (.int (2 : Int32)), (.int c0), (.int c1), (.int c2), (.int c3)] [] pd_9 rfl rfl rfl rfl 0 (Nat.le_refl _) (by decide) (by decide) (by decide) (by decide) rfl fun T2 h2 v2 X2 q2 => ?_
    obtain ⟨rfl, rfl⟩ := q2
    refine w_if_ne X2 34 32 d8_29 (by decide) rfl rfl (fun hc29 => ?_) (fun hc29 => ?_)
    · skip
      refine w_iloadN X2 (pc' := 35) d8_34 rfl rfl ?_
      refine w_iconst X2 (pc' := 36) (2 : Int32) d8_35 rfl rfl ?_
      refine w_iadd X2 (pc' := 37) d8_36 rfl ?_
      refine w_iloadN X2 (pc' := 38) d8_37 rfl rfl ?_
      refine w_iloadN X2 (pc' := 39) d8_38 rfl rfl ?_
      refine w_iloadN X2 (pc' := 40) d8_39 rfl rfl ?_
      refine w_iload X2 (pc' := 42) d8_40 rfl rfl ?_
      refine w_iload X2 (pc' := 44) d8_42 rfl rfl ?_
      rw [show ((0 : Int32) + (2 : Int32)) = (2 : Int32) from by decide]
      show Go p e below _ (T2.setTop (mkF m 44 #[.val (.int (2 : Int32)), .val (.int (0 : Int32)), .val (.int c0), .val (.int c1), .val (.int c2), .val (.int c3)] [(.int c3), (.int c2), (.int c1), (.int c0), (.int (2 : Int32)), (.int (2 : Int32))]))
      refine w_staticV X2 (pc' := 47) d8_44 (rm_dax hw (h0 := h0) (sd_size X2) (2 : Int32) (2 : Int32) c0 c1 c2 c3 (by decide)) (hw _ (List.mem_of_getElem? (i := 44) rfl)) (hw _ (List.mem_of_getElem? (i := 45) rfl)) (hw _ (List.mem_of_getElem? (i := 2) rfl)) (hw _ (List.mem_of_getElem? (i := 46) rfl)) (by decide) [(.int (2 : Int32)), (.int (2 : Int32)), (.int c0), (.int c1), (.int c2), (.int c3)] [] pd_9 rfl rfl rfl rfl 0 (Nat.le_refl _) (by decide) (by decide) (by decide) (by decide) rfl fun T3 h3 v3 X3 q3 => ?_
      obtain ⟨rfl, rfl⟩ := q3
      refine w_if_ne X3 52 50 d8_47 (by decide) rfl rfl (fun hc47 => by exfalso; revert hc47; decide) (fun hc47 => ?_)
      refine w_iconst X3 (pc' := 51) (2 : Int32) d8_50 rfl rfl ?_
      exact w_ireturn X3 d8_51 ⟨by rw [own_rp (own_d1 hc11).1 (own_d1 hc11).2, own_rp (own_d1 hc29).1 (own_d1 hc29).2, show own_run [] = 0 from rfl] <;> decide, rfl⟩ (by decide) (by decide)
    · skip
      refine w_iconst X2 (pc' := 33) (1 : Int32) d8_32 rfl rfl ?_
      exact w_ireturn X2 d8_33 ⟨by rw [own_rp (own_d1 hc11).1 (own_d1 hc11).2, own_d0 hc29] <;> decide, rfl⟩ (by decide) (by decide)
  · skip
    refine w_iconst X1 (pc' := 15) (0 : Int32) d8_14 rfl rfl ?_
    exact w_ireturn X1 d8_15 ⟨by rw [own_d0 hc11] <;> decide, rfl⟩ (by decide) (by decide)
set_option maxRecDepth 65536 in
set_option maxHeartbeats 40000000 in
theorem rm_ex2_1 {l : Launch} {Z : State} {a0 : Array Value} (hw : ∀ d ∈ tables_1, d.before a0 Z = true) {n0 : Nat} {h0 : Heap} (Z0 : n0 ≤ h0.size) (c0 c1 c2 c3 : Int32)  :
    Con l Z n0 (⟨"com/example/admitwire/admitwire/core/TimestampDigitsPinLaw", "expected", "(IICCCC)I"⟩ : MethodName) method_5_code 6 (some .int) ({ frames := 1, cells := 0, slots := 0, locals := 18 } : Room) #[(.int (2 : Int32)), (.int (1 : Int32)), (.int c0), (.int c1), (.int c2), (.int c3)] h0 (Val (fun v h => v = .int (own_run [c1]) ∧ h0 = h)) := by
  refine con_intro pn_8 Z0 (fr := fun m => mkF m 0 #[.val (.int (2 : Int32)), .val (.int (1 : Int32)), .val (.int c0), .val (.int c1), .val (.int c2), .val (.int c3)] []) (fun m => by first | (simp [entryFrame, mkF, argsToLocals, Value.category]; done) | rfl) ?_
  intro p e s m below s₁ hs0 X0
  refine w_iloadN X0 (pc' := 1) d8_0 rfl rfl ?_
  refine w_iloadN X0 (pc' := 2) d8_1 rfl rfl ?_
  refine w_iloadN X0 (pc' := 3) d8_2 rfl rfl ?_
  refine w_iloadN X0 (pc' := 4) d8_3 rfl rfl ?_
  refine w_iload X0 (pc' := 6) d8_4 rfl rfl ?_
  refine w_iload X0 (pc' := 8) d8_6 rfl rfl ?_
  refine w_staticV X0 (pc' := 11) d8_8 (rm_da1 hw (h0 := h0) (sd_size X0) (2 : Int32) c0 c1 c2 c3 (by decide)) (hw _ (List.mem_of_getElem? (i := 44) rfl)) (hw _ (List.mem_of_getElem? (i := 45) rfl)) (hw _ (List.mem_of_getElem? (i := 2) rfl)) (hw _ (List.mem_of_getElem? (i := 46) rfl)) (by decide) [(.int (1 : Int32)), (.int (2 : Int32)), (.int c0), (.int c1), (.int c2), (.int c3)] [] pd_9 rfl rfl rfl rfl 0 (Nat.le_refl _) (by decide) (by decide) (by decide) (by decide) rfl fun T1 h1 v1 X1 q1 => ?_
  obtain ⟨rfl, rfl⟩ := q1
  refine w_if_ne X1 16 14 d8_11 (by decide) rfl rfl (fun hc11 => ?_) (fun hc11 => ?_)
  · skip
    refine w_iloadN X1 (pc' := 17) d8_16 rfl rfl ?_
    refine w_iconst X1 (pc' := 18) (1 : Int32) d8_17 rfl rfl ?_
    refine w_iadd X1 (pc' := 19) d8_18 rfl ?_
    refine w_iloadN X1 (pc' := 20) d8_19 rfl rfl ?_
    refine w_iloadN X1 (pc' := 21) d8_20 rfl rfl ?_
    refine w_iloadN X1 (pc' := 22) d8_21 rfl rfl ?_
    refine w_iload X1 (pc' := 24) d8_22 rfl rfl ?_
    refine w_iload X1 (pc' := 26) d8_24 rfl rfl ?_
    rw [show ((1 : Int32) + (1 : Int32)) = (2 : Int32) from by decide]
    show Go p e below _ (T1.setTop (mkF m 26 #[.val (.int (2 : Int32)), .val (.int (1 : Int32)), .val (.int c0), .val (.int c1), .val (.int c2), .val (.int c3)] [(.int c3), (.int c2), (.int c1), (.int c0), (.int (2 : Int32)), (.int (2 : Int32))]))
    refine w_staticV X1 (pc' := 29) d8_26 (rm_dax hw (h0 := h0) (sd_size X1) (2 : Int32) (2 : Int32) c0 c1 c2 c3 (by decide)) (hw _ (List.mem_of_getElem? (i := 44) rfl)) (hw _ (List.mem_of_getElem? (i := 45) rfl)) (hw _ (List.mem_of_getElem? (i := 2) rfl)) (hw _ (List.mem_of_getElem? (i := 46) rfl)) (by decide) [(.int (2 : Int32)), (.int (2 : Int32)), (.int c0), (.int c1), (.int c2), (.int c3)] [] pd_9 rfl rfl rfl rfl 0 (Nat.le_refl _) (by decide) (by decide) (by decide) (by decide) rfl fun T2 h2 v2 X2 q2 => ?_
    obtain ⟨rfl, rfl⟩ := q2
    refine w_if_ne X2 34 32 d8_29 (by decide) rfl rfl (fun hc29 => by exfalso; revert hc29; decide) (fun hc29 => ?_)
    refine w_iconst X2 (pc' := 33) (1 : Int32) d8_32 rfl rfl ?_
    exact w_ireturn X2 d8_33 ⟨by rw [own_rp (own_d1 hc11).1 (own_d1 hc11).2, show own_run [] = 0 from rfl] <;> decide, rfl⟩ (by decide) (by decide)
  · skip
    refine w_iconst X1 (pc' := 15) (0 : Int32) d8_14 rfl rfl ?_
    exact w_ireturn X1 d8_15 ⟨by rw [own_d0 hc11] <;> decide, rfl⟩ (by decide) (by decide)
set_option maxRecDepth 65536 in
set_option maxHeartbeats 40000000 in
theorem rm_ex2_x {l : Launch} {Z : State} {a0 : Array Value} (hw : ∀ d ∈ tables_1, d.before a0 Z = true) {n0 : Nat} {h0 : Heap} (Z0 : n0 ≤ h0.size) (p2 c0 c1 c2 c3 : Int32) (hx : ¬ p2 < (2 : Int32)) :
    Con l Z n0 (⟨"com/example/admitwire/admitwire/core/TimestampDigitsPinLaw", "expected", "(IICCCC)I"⟩ : MethodName) method_5_code 6 (some .int) ({ frames := 1, cells := 0, slots := 0, locals := 18 } : Room) #[(.int (2 : Int32)), (.int p2), (.int c0), (.int c1), (.int c2), (.int c3)] h0 (Val (fun v h => v = .int 0 ∧ h0 = h)) := by
  refine con_intro pn_8 Z0 (fr := fun m => mkF m 0 #[.val (.int (2 : Int32)), .val (.int p2), .val (.int c0), .val (.int c1), .val (.int c2), .val (.int c3)] []) (fun m => by first | (simp [entryFrame, mkF, argsToLocals, Value.category]; done) | rfl) ?_
  intro p e s m below s₁ hs0 X0
  refine w_iloadN X0 (pc' := 1) d8_0 rfl rfl ?_
  refine w_iloadN X0 (pc' := 2) d8_1 rfl rfl ?_
  refine w_iloadN X0 (pc' := 3) d8_2 rfl rfl ?_
  refine w_iloadN X0 (pc' := 4) d8_3 rfl rfl ?_
  refine w_iload X0 (pc' := 6) d8_4 rfl rfl ?_
  refine w_iload X0 (pc' := 8) d8_6 rfl rfl ?_
  refine w_staticV X0 (pc' := 11) d8_8 (rm_dax hw (h0 := h0) (sd_size X0) p2 (2 : Int32) c0 c1 c2 c3 hx) (hw _ (List.mem_of_getElem? (i := 44) rfl)) (hw _ (List.mem_of_getElem? (i := 45) rfl)) (hw _ (List.mem_of_getElem? (i := 2) rfl)) (hw _ (List.mem_of_getElem? (i := 46) rfl)) (by decide) [(.int p2), (.int (2 : Int32)), (.int c0), (.int c1), (.int c2), (.int c3)] [] pd_9 rfl rfl rfl rfl 0 (Nat.le_refl _) (by decide) (by decide) (by decide) (by decide) rfl fun T1 h1 v1 X1 q1 => ?_
  obtain ⟨rfl, rfl⟩ := q1
  refine w_if_ne X1 16 14 d8_11 (by decide) rfl rfl (fun hc11 => by exfalso; revert hc11; decide) (fun hc11 => ?_)
  refine w_iconst X1 (pc' := 15) (0 : Int32) d8_14 rfl rfl ?_
  exact w_ireturn X1 d8_15 ⟨rfl, rfl⟩ (by decide) (by decide)
set_option maxRecDepth 65536 in
set_option maxHeartbeats 40000000 in
theorem rm_ex1_0 {l : Launch} {Z : State} {a0 : Array Value} (hw : ∀ d ∈ tables_1, d.before a0 Z = true) {n0 : Nat} {h0 : Heap} (Z0 : n0 ≤ h0.size) (c0 c1 c2 c3 : Int32)  :
    Con l Z n0 (⟨"com/example/admitwire/admitwire/core/TimestampDigitsPinLaw", "expected", "(IICCCC)I"⟩ : MethodName) method_5_code 6 (some .int) ({ frames := 1, cells := 0, slots := 0, locals := 18 } : Room) #[(.int (1 : Int32)), (.int (0 : Int32)), (.int c0), (.int c1), (.int c2), (.int c3)] h0 (Val (fun v h => v = .int (own_run [c0]) ∧ h0 = h)) := by
  refine con_intro pn_8 Z0 (fr := fun m => mkF m 0 #[.val (.int (1 : Int32)), .val (.int (0 : Int32)), .val (.int c0), .val (.int c1), .val (.int c2), .val (.int c3)] []) (fun m => by first | (simp [entryFrame, mkF, argsToLocals, Value.category]; done) | rfl) ?_
  intro p e s m below s₁ hs0 X0
  refine w_iloadN X0 (pc' := 1) d8_0 rfl rfl ?_
  refine w_iloadN X0 (pc' := 2) d8_1 rfl rfl ?_
  refine w_iloadN X0 (pc' := 3) d8_2 rfl rfl ?_
  refine w_iloadN X0 (pc' := 4) d8_3 rfl rfl ?_
  refine w_iload X0 (pc' := 6) d8_4 rfl rfl ?_
  refine w_iload X0 (pc' := 8) d8_6 rfl rfl ?_
  refine w_staticV X0 (pc' := 11) d8_8 (rm_da0 hw (h0 := h0) (sd_size X0) (1 : Int32) c0 c1 c2 c3 (by decide)) (hw _ (List.mem_of_getElem? (i := 44) rfl)) (hw _ (List.mem_of_getElem? (i := 45) rfl)) (hw _ (List.mem_of_getElem? (i := 2) rfl)) (hw _ (List.mem_of_getElem? (i := 46) rfl)) (by decide) [(.int (0 : Int32)), (.int (1 : Int32)), (.int c0), (.int c1), (.int c2), (.int c3)] [] pd_9 rfl rfl rfl rfl 0 (Nat.le_refl _) (by decide) (by decide) (by decide) (by decide) rfl fun T1 h1 v1 X1 q1 => ?_
  obtain ⟨rfl, rfl⟩ := q1
  refine w_if_ne X1 16 14 d8_11 (by decide) rfl rfl (fun hc11 => ?_) (fun hc11 => ?_)
  · skip
    refine w_iloadN X1 (pc' := 17) d8_16 rfl rfl ?_
    refine w_iconst X1 (pc' := 18) (1 : Int32) d8_17 rfl rfl ?_
    refine w_iadd X1 (pc' := 19) d8_18 rfl ?_
    refine w_iloadN X1 (pc' := 20) d8_19 rfl rfl ?_
    refine w_iloadN X1 (pc' := 21) d8_20 rfl rfl ?_
    refine w_iloadN X1 (pc' := 22) d8_21 rfl rfl ?_
    refine w_iload X1 (pc' := 24) d8_22 rfl rfl ?_
    refine w_iload X1 (pc' := 26) d8_24 rfl rfl ?_
    rw [show ((0 : Int32) + (1 : Int32)) = (1 : Int32) from by decide]
    show Go p e below _ (T1.setTop (mkF m 26 #[.val (.int (1 : Int32)), .val (.int (0 : Int32)), .val (.int c0), .val (.int c1), .val (.int c2), .val (.int c3)] [(.int c3), (.int c2), (.int c1), (.int c0), (.int (1 : Int32)), (.int (1 : Int32))]))
    refine w_staticV X1 (pc' := 29) d8_26 (rm_dax hw (h0 := h0) (sd_size X1) (1 : Int32) (1 : Int32) c0 c1 c2 c3 (by decide)) (hw _ (List.mem_of_getElem? (i := 44) rfl)) (hw _ (List.mem_of_getElem? (i := 45) rfl)) (hw _ (List.mem_of_getElem? (i := 2) rfl)) (hw _ (List.mem_of_getElem? (i := 46) rfl)) (by decide) [(.int (1 : Int32)), (.int (1 : Int32)), (.int c0), (.int c1), (.int c2), (.int c3)] [] pd_9 rfl rfl rfl rfl 0 (Nat.le_refl _) (by decide) (by decide) (by decide) (by decide) rfl fun T2 h2 v2 X2 q2 => ?_
    obtain ⟨rfl, rfl⟩ := q2
    refine w_if_ne X2 34 32 d8_29 (by decide) rfl rfl (fun hc29 => by exfalso; revert hc29; decide) (fun hc29 => ?_)
    refine w_iconst X2 (pc' := 33) (1 : Int32) d8_32 rfl rfl ?_
    exact w_ireturn X2 d8_33 ⟨by rw [own_rp (own_d1 hc11).1 (own_d1 hc11).2, show own_run [] = 0 from rfl] <;> decide, rfl⟩ (by decide) (by decide)
  · skip
    refine w_iconst X1 (pc' := 15) (0 : Int32) d8_14 rfl rfl ?_
    exact w_ireturn X1 d8_15 ⟨by rw [own_d0 hc11] <;> decide, rfl⟩ (by decide) (by decide)
set_option maxRecDepth 65536 in
set_option maxHeartbeats 40000000 in
theorem rm_ex1_x {l : Launch} {Z : State} {a0 : Array Value} (hw : ∀ d ∈ tables_1, d.before a0 Z = true) {n0 : Nat} {h0 : Heap} (Z0 : n0 ≤ h0.size) (p2 c0 c1 c2 c3 : Int32) (hx : ¬ p2 < (1 : Int32)) :
    Con l Z n0 (⟨"com/example/admitwire/admitwire/core/TimestampDigitsPinLaw", "expected", "(IICCCC)I"⟩ : MethodName) method_5_code 6 (some .int) ({ frames := 1, cells := 0, slots := 0, locals := 18 } : Room) #[(.int (1 : Int32)), (.int p2), (.int c0), (.int c1), (.int c2), (.int c3)] h0 (Val (fun v h => v = .int 0 ∧ h0 = h)) := by
  refine con_intro pn_8 Z0 (fr := fun m => mkF m 0 #[.val (.int (1 : Int32)), .val (.int p2), .val (.int c0), .val (.int c1), .val (.int c2), .val (.int c3)] []) (fun m => by first | (simp [entryFrame, mkF, argsToLocals, Value.category]; done) | rfl) ?_
  intro p e s m below s₁ hs0 X0
  refine w_iloadN X0 (pc' := 1) d8_0 rfl rfl ?_
  refine w_iloadN X0 (pc' := 2) d8_1 rfl rfl ?_
  refine w_iloadN X0 (pc' := 3) d8_2 rfl rfl ?_
  refine w_iloadN X0 (pc' := 4) d8_3 rfl rfl ?_
  refine w_iload X0 (pc' := 6) d8_4 rfl rfl ?_
  refine w_iload X0 (pc' := 8) d8_6 rfl rfl ?_
  refine w_staticV X0 (pc' := 11) d8_8 (rm_dax hw (h0 := h0) (sd_size X0) p2 (1 : Int32) c0 c1 c2 c3 hx) (hw _ (List.mem_of_getElem? (i := 44) rfl)) (hw _ (List.mem_of_getElem? (i := 45) rfl)) (hw _ (List.mem_of_getElem? (i := 2) rfl)) (hw _ (List.mem_of_getElem? (i := 46) rfl)) (by decide) [(.int p2), (.int (1 : Int32)), (.int c0), (.int c1), (.int c2), (.int c3)] [] pd_9 rfl rfl rfl rfl 0 (Nat.le_refl _) (by decide) (by decide) (by decide) (by decide) rfl fun T1 h1 v1 X1 q1 => ?_
  obtain ⟨rfl, rfl⟩ := q1
  refine w_if_ne X1 16 14 d8_11 (by decide) rfl rfl (fun hc11 => by exfalso; revert hc11; decide) (fun hc11 => ?_)
  refine w_iconst X1 (pc' := 15) (0 : Int32) d8_14 rfl rfl ?_
  exact w_ireturn X1 d8_15 ⟨rfl, rfl⟩ (by decide) (by decide)
set_option maxRecDepth 65536 in
set_option maxHeartbeats 40000000 in
theorem rm_ex0_x {l : Launch} {Z : State} {a0 : Array Value} (hw : ∀ d ∈ tables_1, d.before a0 Z = true) {n0 : Nat} {h0 : Heap} (Z0 : n0 ≤ h0.size) (p2 c0 c1 c2 c3 : Int32) (hx : ¬ p2 < (0 : Int32)) :
    Con l Z n0 (⟨"com/example/admitwire/admitwire/core/TimestampDigitsPinLaw", "expected", "(IICCCC)I"⟩ : MethodName) method_5_code 6 (some .int) ({ frames := 1, cells := 0, slots := 0, locals := 18 } : Room) #[(.int (0 : Int32)), (.int p2), (.int c0), (.int c1), (.int c2), (.int c3)] h0 (Val (fun v h => v = .int 0 ∧ h0 = h)) := by
  refine con_intro pn_8 Z0 (fr := fun m => mkF m 0 #[.val (.int (0 : Int32)), .val (.int p2), .val (.int c0), .val (.int c1), .val (.int c2), .val (.int c3)] []) (fun m => by first | (simp [entryFrame, mkF, argsToLocals, Value.category]; done) | rfl) ?_
  intro p e s m below s₁ hs0 X0
  refine w_iloadN X0 (pc' := 1) d8_0 rfl rfl ?_
  refine w_iloadN X0 (pc' := 2) d8_1 rfl rfl ?_
  refine w_iloadN X0 (pc' := 3) d8_2 rfl rfl ?_
  refine w_iloadN X0 (pc' := 4) d8_3 rfl rfl ?_
  refine w_iload X0 (pc' := 6) d8_4 rfl rfl ?_
  refine w_iload X0 (pc' := 8) d8_6 rfl rfl ?_
  refine w_staticV X0 (pc' := 11) d8_8 (rm_dax hw (h0 := h0) (sd_size X0) p2 (0 : Int32) c0 c1 c2 c3 hx) (hw _ (List.mem_of_getElem? (i := 44) rfl)) (hw _ (List.mem_of_getElem? (i := 45) rfl)) (hw _ (List.mem_of_getElem? (i := 2) rfl)) (hw _ (List.mem_of_getElem? (i := 46) rfl)) (by decide) [(.int p2), (.int (0 : Int32)), (.int c0), (.int c1), (.int c2), (.int c3)] [] pd_9 rfl rfl rfl rfl 0 (Nat.le_refl _) (by decide) (by decide) (by decide) (by decide) rfl fun T1 h1 v1 X1 q1 => ?_
  obtain ⟨rfl, rfl⟩ := q1
  refine w_if_ne X1 16 14 d8_11 (by decide) rfl rfl (fun hc11 => by exfalso; revert hc11; decide) (fun hc11 => ?_)
  refine w_iconst X1 (pc' := 15) (0 : Int32) d8_14 rfl rfl ?_
  exact w_ireturn X1 d8_15 ⟨rfl, rfl⟩ (by decide) (by decide)
theorem own_lu1 (f : Nat → Value) (c0 : Int32) (i : Nat) (hi : i < 1) : (upd f 0 (.int (nar .byte c0.toInt8.toInt32))) i = .int ([c0].getD i 0).toInt8.toInt32 := by
  have : i = 0 := by omega
  rcases this with rfl
  · exact (upd_same _ _ _).trans (congrArg Value.int (own_i8 c0))
theorem own_all1 {c0 : Int32} (hk0 : ¬ (255 : Int32) < c0) : ∀ i, i < 1 → ¬ (255 : Int32) < [c0].getD i 0 := fun i hi => by
  have : i = 0 := by omega
  rcases this with rfl
  · exact hk0
theorem d11_0 : decode jdk_52_method_21_code 0 = .ok (.iconst 0, 1) := by decide +kernel
theorem d11_1 : decode jdk_52_method_21_code 1 = .ok (.istore 5, 2) := by decide +kernel
theorem d11_3 : decode jdk_52_method_21_code 3 = .ok (.iload 5, 2) := by decide +kernel
theorem d11_5 : decode jdk_52_method_21_code 5 = .ok (.iload 4, 2) := by decide +kernel
theorem d11_7 : decode jdk_52_method_21_code 7 = .ok (.if_icmp .ge 37, 3) := by decide +kernel
theorem d11_10 : decode jdk_52_method_21_code 10 = .ok (.aload_n 0, 1) := by decide +kernel
theorem d11_11 : decode jdk_52_method_21_code 11 = .ok (.iload_n 1, 1) := by decide +kernel
theorem d11_12 : decode jdk_52_method_21_code 12 = .ok (.caload, 1) := by decide +kernel
theorem d11_13 : decode jdk_52_method_21_code 13 = .ok (.istore 6, 2) := by decide +kernel
theorem d11_15 : decode jdk_52_method_21_code 15 = .ok (.iload 6, 2) := by decide +kernel
theorem d11_17 : decode jdk_52_method_21_code 17 = .ok (.sipush 255, 3) := by decide +kernel
theorem d11_20 : decode jdk_52_method_21_code 20 = .ok (.if_icmp .le 6, 3) := by decide +kernel
theorem d11_23 : decode jdk_52_method_21_code 23 = .ok (.iload 5, 2) := by decide +kernel
theorem d11_25 : decode jdk_52_method_21_code 25 = .ok (.ireturn, 1) := by decide +kernel
theorem d11_26 : decode jdk_52_method_21_code 26 = .ok (.aload_n 2, 1) := by decide +kernel
theorem d11_27 : decode jdk_52_method_21_code 27 = .ok (.iload_n 3, 1) := by decide +kernel
theorem d11_28 : decode jdk_52_method_21_code 28 = .ok (.iload 6, 2) := by decide +kernel
theorem d11_30 : decode jdk_52_method_21_code 30 = .ok (.i2b, 1) := by decide +kernel
theorem d11_31 : decode jdk_52_method_21_code 31 = .ok (.bastore, 1) := by decide +kernel
theorem d11_32 : decode jdk_52_method_21_code 32 = .ok (.iinc 1 1, 3) := by decide +kernel
theorem d11_35 : decode jdk_52_method_21_code 35 = .ok (.iinc 3 1, 3) := by decide +kernel
theorem d11_38 : decode jdk_52_method_21_code 38 = .ok (.iinc 5 1, 3) := by decide +kernel
theorem d11_41 : decode jdk_52_method_21_code 41 = .ok (.goto (-38), 3) := by decide +kernel
theorem d11_44 : decode jdk_52_method_21_code 44 = .ok (.iload 4, 2) := by decide +kernel
theorem d11_46 : decode jdk_52_method_21_code 46 = .ok (.ireturn, 1) := by decide +kernel
theorem pn_11 : plainFor (⟨"java/lang/StringUTF16", "compress", "([CI[BII)I"⟩ : MethodName) = true := plainFor_of_name (by first | (simp [plainName, overriddenIn]; done) | decide +kernel)
theorem pd_11 : parseMethodDescriptor "([CI[BII)I" = some ⟨[(.array .char), .int, (.array .byte), .int, .int], some .int⟩ := by decide +kernel
set_option maxRecDepth 65536 in
set_option maxHeartbeats 40000000 in
theorem rm_cmI1 {l : Launch} {Z : State} {a0 : Array Value} (hw : ∀ d ∈ tables_1, d.before a0 Z = true) {n0 : Nat} {h0 : Heap} (Z0 : n0 ≤ h0.size) (a1 a3 : Addr) {f f3 : Nat → Value} {c0 : Int32} (A_1 : Ary Z h0 a1 .char 1 f) (A_3 : Ary Z h0 a3 .byte 1 f3) (ne13 : a1 ≠ a3) (g_3 : n0 ≤ a3) (hf0 : f 0 = .int c0)  :
    Con l Z n0 (⟨"java/lang/StringUTF16", "compress", "([CI[BII)I"⟩ : MethodName) jdk_52_method_21_code 7 (some .int) ({ frames := 0, cells := 0, slots := 0, locals := 0 } : Room) #[(.ref a1), (.int (0 : Int32)), (.ref a3), (.int (0 : Int32)), (.int (1 : Int32))] h0 (Val (fun v h => Keep h0 h [a3] ∧ ((v = .int 1 ∧ (∀ i, i < 1 → ¬ (255 : Int32) < [c0].getD i 0) ∧ Ary Z h a3 .byte 1 (fun i => .int ([c0].getD i 0).toInt8.toInt32)) ∨ (v = .int 0 ∧ (255 : Int32) < c0)))) := by
  refine con_intro pn_11 Z0 (fr := fun m => mkF m 0 #[.val (.ref a1), .val (.int (0 : Int32)), .val (.ref a3), .val (.int (0 : Int32)), .val (.int (1 : Int32)), .unset, .unset] []) (fun m => by first | (simp [entryFrame, mkF, argsToLocals, Value.category]; done) | rfl) ?_
  intro p e s m below s₁ hs0 X0
  refine w_iconst X0 (pc' := 1) (0 : Int32) d11_0 rfl rfl ?_
  refine w_istore X0 (pc' := 3) (l' := #[.val (.ref a1), .val (.int (0 : Int32)), .val (.ref a3), .val (.int (0 : Int32)), .val (.int (1 : Int32)), .val (.int (0 : Int32)), .unset]) d11_1 rfl rfl ?_
  refine w_iload X0 (pc' := 5) d11_3 rfl rfl ?_
  refine w_iload X0 (pc' := 7) d11_5 rfl rfl ?_
  refine w_icmp_ge X0 44 10 d11_7 (by decide) rfl rfl (fun hc7 => by exfalso; revert hc7; decide) (fun hc7 => ?_)
  refine w_aloadN X0 (pc' := 11) d11_10 rfl rfl rfl ?_
  refine w_iloadN X0 (pc' := 12) d11_11 rfl rfl ?_
  refine w_caload X0 (pc' := 13) 0 (v := (.int c0)) d11_12 A_1 (by decide) (by decide) hf0 rfl ?_
  refine w_istore X0 (pc' := 15) (l' := #[.val (.ref a1), .val (.int (0 : Int32)), .val (.ref a3), .val (.int (0 : Int32)), .val (.int (1 : Int32)), .val (.int (0 : Int32)), .val (.int c0)]) d11_13 rfl rfl ?_
  refine w_iload X0 (pc' := 17) d11_15 rfl rfl ?_
  refine w_sipush X0 (pc' := 20) (255 : Int32) d11_17 rfl rfl ?_
  refine w_icmp_le X0 26 23 d11_20 (by decide) rfl rfl (fun hc20 => ?_) (fun hc20 => ?_)
  · skip
    have hk0 := hc20
    refine w_aloadN X0 (pc' := 27) d11_26 rfl rfl rfl ?_
    refine w_iloadN X0 (pc' := 28) d11_27 rfl rfl ?_
    refine w_iload X0 (pc' := 30) d11_28 rfl rfl ?_
    refine w_i2b X0 (pc' := 31) d11_30 rfl ?_
    refine w_bastore X0 (pc' := 32) 0 d11_31 A_3 (by decide) (by decide) g_3 rfl fun T1 h1 X1 W1 A1 => ?_
    have A_2 := A_1.other W1 ne13
    have K_3r : Keep h0 _ [a3] := (Keep.refl h0 [a3])
    have K_3 : Keep h0 h1 [a3] := K_3r.wr W1 (Or.inl (List.mem_of_getElem? (i := 0) rfl))
    refine w_iinc X1 (pc' := 35) ((0 : Int32) + (1 : Int32)) (l' := #[.val (.ref a1), .val (.int ((0 : Int32) + (1 : Int32))), .val (.ref a3), .val (.int (0 : Int32)), .val (.int (1 : Int32)), .val (.int (0 : Int32)), .val (.int c0)]) d11_32 rfl rfl rfl rfl ?_
    refine w_iinc X1 (pc' := 38) ((0 : Int32) + (1 : Int32)) (l' := #[.val (.ref a1), .val (.int ((0 : Int32) + (1 : Int32))), .val (.ref a3), .val (.int ((0 : Int32) + (1 : Int32))), .val (.int (1 : Int32)), .val (.int (0 : Int32)), .val (.int c0)]) d11_35 rfl rfl rfl rfl ?_
    refine w_iinc X1 (pc' := 41) ((0 : Int32) + (1 : Int32)) (l' := #[.val (.ref a1), .val (.int ((0 : Int32) + (1 : Int32))), .val (.ref a3), .val (.int ((0 : Int32) + (1 : Int32))), .val (.int (1 : Int32)), .val (.int ((0 : Int32) + (1 : Int32))), .val (.int c0)]) d11_38 rfl rfl rfl rfl ?_
    refine w_goto X1 (pc' := 3) d11_41 (by decide) rfl ?_
    refine w_iload X1 (pc' := 5) d11_3 rfl rfl ?_
    refine w_iload X1 (pc' := 7) d11_5 rfl rfl ?_
    refine w_icmp_ge X1 44 10 d11_7 (by decide) rfl rfl (fun hc7 => ?_) (fun hc7 => by exfalso; revert hc7; decide)
    refine w_iload X1 (pc' := 46) d11_44 rfl rfl ?_
    exact w_ireturn X1 d11_46 ⟨K_3, Or.inl ⟨rfl, own_all1 hk0, A1.congr (own_lu1 f3 c0)⟩⟩ (by decide) (by decide)
  · skip
    refine w_iload X0 (pc' := 25) d11_23 rfl rfl ?_
    have Kr : Keep h0 h0 [a3] := (Keep.refl h0 [a3])
    exact w_ireturn X0 d11_25 ⟨Kr, Or.inr (⟨rfl, hc20⟩)⟩ (by decide) (by decide)
theorem d20_0 : decode jdk_52_method_3_code 0 = .ok (.iload_n 0, 1) := by decide +kernel
theorem d20_1 : decode jdk_52_method_3_code 1 = .ok (.ifCond .ge 11, 3) := by decide +kernel
theorem d20_4 : decode jdk_52_method_3_code 4 = .ok (.new 17, 3) := by decide +kernel
theorem d20_7 : decode jdk_52_method_3_code 7 = .ok (.dup, 1) := by decide +kernel
theorem d20_8 : decode jdk_52_method_3_code 8 = .ok (.invokespecial 19, 3) := by decide +kernel
theorem d20_11 : decode jdk_52_method_3_code 11 = .ok (.athrow, 1) := by decide +kernel
theorem d20_12 : decode jdk_52_method_3_code 12 = .ok (.iload_n 0, 1) := by decide +kernel
theorem d20_13 : decode jdk_52_method_3_code 13 = .ok (.ldc 20, 2) := by decide +kernel
theorem d20_15 : decode jdk_52_method_3_code 15 = .ok (.if_icmp .lt 40, 3) := by decide +kernel
theorem d20_18 : decode jdk_52_method_3_code 18 = .ok (.new 21, 3) := by decide +kernel
theorem d20_21 : decode jdk_52_method_3_code 21 = .ok (.dup, 1) := by decide +kernel
theorem d20_22 : decode jdk_52_method_3_code 22 = .ok (.new 23, 3) := by decide +kernel
theorem d20_25 : decode jdk_52_method_3_code 25 = .ok (.dup, 1) := by decide +kernel
theorem d20_26 : decode jdk_52_method_3_code 26 = .ok (.invokespecial 25, 3) := by decide +kernel
theorem d20_29 : decode jdk_52_method_3_code 29 = .ok (.ldc 26, 2) := by decide +kernel
theorem d20_31 : decode jdk_52_method_3_code 31 = .ok (.invokevirtual 28, 3) := by decide +kernel
theorem d20_34 : decode jdk_52_method_3_code 34 = .ok (.iload_n 0, 1) := by decide +kernel
theorem d20_35 : decode jdk_52_method_3_code 35 = .ok (.invokevirtual 32, 3) := by decide +kernel
theorem d20_38 : decode jdk_52_method_3_code 38 = .ok (.ldc 35, 2) := by decide +kernel
theorem d20_40 : decode jdk_52_method_3_code 40 = .ok (.invokevirtual 28, 3) := by decide +kernel
theorem d20_43 : decode jdk_52_method_3_code 43 = .ok (.ldc 20, 2) := by decide +kernel
theorem d20_45 : decode jdk_52_method_3_code 45 = .ok (.invokevirtual 32, 3) := by decide +kernel
theorem d20_48 : decode jdk_52_method_3_code 48 = .ok (.invokevirtual 37, 3) := by decide +kernel
theorem d20_51 : decode jdk_52_method_3_code 51 = .ok (.invokespecial 41, 3) := by decide +kernel
theorem d20_54 : decode jdk_52_method_3_code 54 = .ok (.athrow, 1) := by decide +kernel
theorem d20_55 : decode jdk_52_method_3_code 55 = .ok (.iload_n 0, 1) := by decide +kernel
theorem d20_56 : decode jdk_52_method_3_code 56 = .ok (.iconst 1, 1) := by decide +kernel
theorem d20_57 : decode jdk_52_method_3_code 57 = .ok (.ishl, 1) := by decide +kernel
theorem d20_58 : decode jdk_52_method_3_code 58 = .ok (.ireturn, 1) := by decide +kernel
theorem pn_20 : plainFor (⟨"java/lang/StringUTF16", "newBytesLength", "(I)I"⟩ : MethodName) = true := plainFor_of_name (by first | (simp [plainName, overriddenIn]; done) | decide +kernel)
theorem pd_20 : parseMethodDescriptor "(I)I" = some ⟨[.int], some .int⟩ := by decide +kernel
set_option maxRecDepth 65536 in
set_option maxHeartbeats 40000000 in
theorem rm_nbl1 {l : Launch} {Z : State} {a0 : Array Value} (hw : ∀ d ∈ tables_1, d.before a0 Z = true) {n0 : Nat} {h0 : Heap} (Z0 : n0 ≤ h0.size)   :
    Con l Z n0 (⟨"java/lang/StringUTF16", "newBytesLength", "(I)I"⟩ : MethodName) jdk_52_method_3_code 1 (some .int) ({ frames := 0, cells := 0, slots := 0, locals := 0 } : Room) #[(.int (1 : Int32))] h0 (Val (fun v h => v = .int 2 ∧ h0 = h)) := by
  refine con_intro pn_20 Z0 (fr := fun m => mkF m 0 #[.val (.int (1 : Int32))] []) (fun m => by first | (simp [entryFrame, mkF, argsToLocals, Value.category]; done) | rfl) ?_
  intro p e s m below s₁ hs0 X0
  refine w_iloadN X0 (pc' := 1) d20_0 rfl rfl ?_
  refine w_if_ge X0 12 4 d20_1 (by decide) rfl rfl (fun hc1 => ?_) (fun hc1 => by exfalso; revert hc1; decide)
  refine w_iloadN X0 (pc' := 13) d20_12 rfl rfl ?_
  refine w_ldc X0 (pc' := 15) d20_13 (hw _ (List.mem_of_getElem? (i := 88) rfl)) rfl ?_
  refine w_icmp_lt X0 55 18 d20_15 (by decide) rfl rfl (fun hc15 => ?_) (fun hc15 => by exfalso; revert hc15; decide)
  refine w_iloadN X0 (pc' := 56) d20_55 rfl rfl ?_
  refine w_iconst X0 (pc' := 57) (1 : Int32) d20_56 rfl rfl ?_
  refine w_ishl X0 (pc' := 58) d20_57 rfl ?_
  exact w_ireturn X0 d20_58 ⟨by decide, rfl⟩ (by decide) (by decide)
theorem d19_0 : decode jdk_52_method_2_code 0 = .ok (.iload_n 0, 1) := by decide +kernel
theorem d19_1 : decode jdk_52_method_2_code 1 = .ok (.invokestatic 11, 3) := by decide +kernel
theorem d19_4 : decode jdk_52_method_2_code 4 = .ok (.newarray .byte, 2) := by decide +kernel
theorem d19_6 : decode jdk_52_method_2_code 6 = .ok (.areturn, 1) := by decide +kernel
theorem pn_19 : plainFor (⟨"java/lang/StringUTF16", "newBytesFor", "(I)[B"⟩ : MethodName) = true := plainFor_of_name (by first | (simp [plainName, overriddenIn]; done) | decide +kernel)
theorem pd_19 : parseMethodDescriptor "(I)[B" = some ⟨[.int], some (.array .byte)⟩ := by decide +kernel
set_option maxRecDepth 65536 in
set_option maxHeartbeats 40000000 in
theorem rm_nbf1 {l : Launch} {Z : State} {a0 : Array Value} (hw : ∀ d ∈ tables_1, d.before a0 Z = true) {n0 : Nat} {h0 : Heap} (Z0 : n0 ≤ h0.size)   :
    Con l Z n0 (⟨"java/lang/StringUTF16", "newBytesFor", "(I)[B"⟩ : MethodName) jdk_52_method_2_code 1 (some (.array .byte)) ({ frames := 1, cells := 1, slots := 2, locals := 12 } : Room) #[(.int (1 : Int32))] h0 (Val (fun v h => ∃ b : Addr, v = .ref b ∧ b = h0.size ∧ n0 ≤ b ∧ Ext h0 h ∧ Ary Z h b .byte 2 (fun _ => .int (0 : Int32)))) := by
  refine con_intro pn_19 Z0 (fr := fun m => mkF m 0 #[.val (.int (1 : Int32))] []) (fun m => by first | (simp [entryFrame, mkF, argsToLocals, Value.category]; done) | rfl) ?_
  intro p e s m below s₁ hs0 X0
  refine w_iloadN X0 (pc' := 1) d19_0 rfl rfl ?_
  refine w_staticV X0 (pc' := 4) d19_1 (rm_nbl1 hw (h0 := h0) (sd_size X0)) (hw _ (List.mem_of_getElem? (i := 85) rfl)) (hw _ (List.mem_of_getElem? (i := 86) rfl)) (hw _ (List.mem_of_getElem? (i := 49) rfl)) (hw _ (List.mem_of_getElem? (i := 87) rfl)) (by decide) [(.int (1 : Int32))] [] pd_20 rfl rfl rfl rfl 0 (Nat.le_refl _) (by decide) (by decide) (by decide) (by decide) rfl fun T1 h1 v1 X1 q1 => ?_
  obtain ⟨rfl, rfl⟩ := q1
  refine w_newarray X1 (pc' := 6) 2 2 d19_4 (hw _ (List.mem_of_getElem? (i := 19) rfl)) (by decide) (by decide) (by decide) (by decide) (by decide) rfl fun T2 h2 b2 g2 gn2 X2 E2 A2 => ?_
  have K_b2 : Keep h0 _ [] := (Keep.refl h0 [])
  have sz_b2 : h0.size ≤ b2 := sz_fresh g2 K_b2
  have K_4 : Keep h0 h2 [] := K_b2.ext E2
  replace A2 : Ary Z h2 b2 .byte 2 (fun _ => (.int (0 : Int32))) := A2
  exact w_areturn X2 d19_6 rfl rfl rfl ⟨_, rfl, g2, gn2, kext K_4, A2⟩ (by decide) (by decide)
theorem d21_0 : decode jdk_52_method_4_code 0 = .ok (.getstatic 44, 3) := by decide +kernel
theorem d21_3 : decode jdk_52_method_4_code 3 = .ok (.ifCond .ne 25, 3) := by decide +kernel
theorem d21_6 : decode jdk_52_method_4_code 6 = .ok (.iload_n 1, 1) := by decide +kernel
theorem d21_7 : decode jdk_52_method_4_code 7 = .ok (.ifCond .lt 11, 3) := by decide +kernel
theorem d21_10 : decode jdk_52_method_4_code 10 = .ok (.iload_n 1, 1) := by decide +kernel
theorem d21_11 : decode jdk_52_method_4_code 11 = .ok (.aload_n 0, 1) := by decide +kernel
theorem d21_12 : decode jdk_52_method_4_code 12 = .ok (.invokestatic 48, 3) := by decide +kernel
theorem d21_15 : decode jdk_52_method_4_code 15 = .ok (.if_icmp .lt 13, 3) := by decide +kernel
theorem d21_18 : decode jdk_52_method_4_code 18 = .ok (.new 52, 3) := by decide +kernel
theorem d21_21 : decode jdk_52_method_4_code 21 = .ok (.dup, 1) := by decide +kernel
theorem d21_22 : decode jdk_52_method_4_code 22 = .ok (.ldc 54, 2) := by decide +kernel
theorem d21_24 : decode jdk_52_method_4_code 24 = .ok (.invokespecial 56, 3) := by decide +kernel
theorem d21_27 : decode jdk_52_method_4_code 27 = .ok (.athrow, 1) := by decide +kernel
theorem d21_28 : decode jdk_52_method_4_code 28 = .ok (.iload_n 1, 1) := by decide +kernel
theorem d21_29 : decode jdk_52_method_4_code 29 = .ok (.iconst 1, 1) := by decide +kernel
theorem d21_30 : decode jdk_52_method_4_code 30 = .ok (.ishl, 1) := by decide +kernel
theorem d21_31 : decode jdk_52_method_4_code 31 = .ok (.istore_n 1, 1) := by decide +kernel
theorem d21_32 : decode jdk_52_method_4_code 32 = .ok (.aload_n 0, 1) := by decide +kernel
theorem d21_33 : decode jdk_52_method_4_code 33 = .ok (.iload_n 1, 1) := by decide +kernel
theorem d21_34 : decode jdk_52_method_4_code 34 = .ok (.iinc 1 1, 3) := by decide +kernel
theorem d21_37 : decode jdk_52_method_4_code 37 = .ok (.iload_n 2, 1) := by decide +kernel
theorem d21_38 : decode jdk_52_method_4_code 38 = .ok (.getstatic 59, 3) := by decide +kernel
theorem d21_41 : decode jdk_52_method_4_code 41 = .ok (.ishr, 1) := by decide +kernel
theorem d21_42 : decode jdk_52_method_4_code 42 = .ok (.i2b, 1) := by decide +kernel
theorem d21_43 : decode jdk_52_method_4_code 43 = .ok (.bastore, 1) := by decide +kernel
theorem d21_44 : decode jdk_52_method_4_code 44 = .ok (.aload_n 0, 1) := by decide +kernel
theorem d21_45 : decode jdk_52_method_4_code 45 = .ok (.iload_n 1, 1) := by decide +kernel
theorem d21_46 : decode jdk_52_method_4_code 46 = .ok (.iload_n 2, 1) := by decide +kernel
theorem d21_47 : decode jdk_52_method_4_code 47 = .ok (.getstatic 63, 3) := by decide +kernel
theorem d21_50 : decode jdk_52_method_4_code 50 = .ok (.ishr, 1) := by decide +kernel
theorem d21_51 : decode jdk_52_method_4_code 51 = .ok (.i2b, 1) := by decide +kernel
theorem d21_52 : decode jdk_52_method_4_code 52 = .ok (.bastore, 1) := by decide +kernel
theorem d21_53 : decode jdk_52_method_4_code 53 = .ok (.return_, 1) := by decide +kernel
theorem pn_21 : plainFor (⟨"java/lang/StringUTF16", "putChar", "([BII)V"⟩ : MethodName) = true := plainFor_of_name (by first | (simp [plainName, overriddenIn]; done) | decide +kernel)
theorem pd_21 : parseMethodDescriptor "([BII)V" = some ⟨[(.array .byte), .int, .int], none⟩ := by decide +kernel
set_option maxRecDepth 65536 in
set_option maxHeartbeats 40000000 in
theorem rm_put1_0 {l : Launch} {Z : State} {a0 : Array Value} (hw : ∀ d ∈ tables_1, d.before a0 Z = true) {n0 : Nat} {h0 : Heap} (Z0 : n0 ≤ h0.size) (a1 : Addr) (p3 : Int32) {zc : Int32} (S_c : Sta Z h0 "java/lang/String" "COMPACT_STRINGS" "Z" (.int zc)) (hzc : ¬ zc = (0 : Int32)) {fm : Value} (S_f : Sta Z h0 "jdk/internal/util/Preconditions" "SIOOBE_FORMATTER" "Ljava/util/function/BiFunction;" fm) (hfm : fm.isRef = true) (S_a : Sta Z h0 "java/lang/StringUTF16" "$assertionsDisabled" "Z" (.int 1)) (S_h : Sta Z h0 "java/lang/StringUTF16" "HI_BYTE_SHIFT" "I" (.int 0)) (S_l : Sta Z h0 "java/lang/StringUTF16" "LO_BYTE_SHIFT" "I" (.int 8)) {f : Nat → Value} (A_1 : Ary Z h0 a1 .byte 2 f) (g_1 : n0 ≤ a1) :
    Con l Z n0 (⟨"java/lang/StringUTF16", "putChar", "([BII)V"⟩ : MethodName) jdk_52_method_4_code 3 none ({ frames := 0, cells := 0, slots := 0, locals := 0 } : Room) #[(.ref a1), (.int (0 : Int32)), (.int p3)] h0 (Non (fun h => Keep h0 h [a1] ∧ Ary Z h a1 .byte 2 (upd (upd f 0 (.int p3.toInt8.toInt32)) 1 (.int (p3 >>> ((8 : Int32) &&& 31)).toInt8.toInt32)))) := by
  refine con_intro pn_21 Z0 (fr := fun m => mkF m 0 #[.val (.ref a1), .val (.int (0 : Int32)), .val (.int p3)] []) (fun m => by first | (simp [entryFrame, mkF, argsToLocals, Value.category]; done) | rfl) ?_
  intro p e s m below s₁ hs0 X0
  refine w_getstatic X0 (pc' := 3) d21_0 (host := "") (Or.inl (hw _ (List.mem_of_getElem? (i := 92) rfl))) Via.refl S_a rfl fun T1 X1 => ?_
  refine w_if_ne X1 28 6 d21_3 (by decide) rfl rfl (fun hc3 => ?_) (fun hc3 => by exfalso; revert hc3; decide)
  refine w_iloadN X1 (pc' := 29) d21_28 rfl rfl ?_
  refine w_iconst X1 (pc' := 30) (1 : Int32) d21_29 rfl rfl ?_
  refine w_ishl X1 (pc' := 31) d21_30 rfl ?_
  rw [show ((0 : Int32) <<< ((1 : Int32) &&& 31)) = (0 : Int32) from by decide]
  show Go p e below _ (T1.setTop (mkF m 31 #[.val (.ref a1), .val (.int (0 : Int32)), .val (.int p3)] [(.int (0 : Int32))]))
  refine w_istoreN X1 (pc' := 32) (l' := #[.val (.ref a1), .val (.int (0 : Int32)), .val (.int p3)]) d21_31 rfl rfl ?_
  refine w_aloadN X1 (pc' := 33) d21_32 rfl rfl rfl ?_
  refine w_iloadN X1 (pc' := 34) d21_33 rfl rfl ?_
  refine w_iinc X1 (pc' := 37) ((0 : Int32) + (1 : Int32)) (l' := #[.val (.ref a1), .val (.int ((0 : Int32) + (1 : Int32))), .val (.int p3)]) d21_34 rfl rfl rfl rfl ?_
  refine w_iloadN X1 (pc' := 38) d21_37 rfl rfl ?_
  refine w_getstatic X1 (pc' := 41) d21_38 (host := "") (Or.inl (hw _ (List.mem_of_getElem? (i := 93) rfl))) Via.refl S_h rfl fun T2 X2 => ?_
  refine w_ishr X2 (pc' := 42) d21_41 rfl ?_
  refine w_i2b X2 (pc' := 43) d21_42 rfl ?_
  refine w_bastore X2 (pc' := 44) 0 d21_43 A_1 (by decide) (by decide) g_1 rfl fun T3 h3 X3 W3 A3 => ?_
  have S_a_4 := Sta.wr W3 S_a
  have S_h_4 := Sta.wr W3 S_h
  have S_l_4 := Sta.wr W3 S_l
  have K_5r : Keep h0 _ [a1] := (Keep.refl h0 [a1])
  have K_5 : Keep h0 h3 [a1] := K_5r.wr W3 (Or.inl (List.mem_of_getElem? (i := 0) rfl))
  refine w_aloadN X3 (pc' := 45) d21_44 rfl rfl rfl ?_
  refine w_iloadN X3 (pc' := 46) d21_45 rfl rfl ?_
  refine w_iloadN X3 (pc' := 47) d21_46 rfl rfl ?_
  refine w_getstatic X3 (pc' := 50) d21_47 (host := "") (Or.inl (hw _ (List.mem_of_getElem? (i := 94) rfl))) Via.refl S_l_4 rfl fun T6 X6 => ?_
  refine w_ishr X6 (pc' := 51) d21_50 rfl ?_
  refine w_i2b X6 (pc' := 52) d21_51 rfl ?_
  refine w_bastore X6 (pc' := 53) 1 d21_52 A3 (by decide) (by decide) g_1 rfl fun T7 h7 X7 W7 A7 => ?_
  have S_a_8 := Sta.wr W7 S_a_4
  have S_h_8 := Sta.wr W7 S_h_4
  have S_l_8 := Sta.wr W7 S_l_4
  have K_9 : Keep h0 h7 [a1] := K_5.wr W7 (Or.inl (List.mem_of_getElem? (i := 0) rfl))
  have Ap := A7
  rw [own_pc1, own_pc2] at Ap
  exact w_return X7 d21_53 ⟨K_9, Ap⟩ (by decide) (by decide)
theorem d18_0 : decode jdk_52_method_14_code 0 = .ok (.iload_n 2, 1) := by decide +kernel
theorem d18_1 : decode jdk_52_method_14_code 1 = .ok (.invokestatic 107, 3) := by decide +kernel
theorem d18_4 : decode jdk_52_method_14_code 4 = .ok (.astore_n 3, 1) := by decide +kernel
theorem d18_5 : decode jdk_52_method_14_code 5 = .ok (.iconst 0, 1) := by decide +kernel
theorem d18_6 : decode jdk_52_method_14_code 6 = .ok (.istore 4, 2) := by decide +kernel
theorem d18_8 : decode jdk_52_method_14_code 8 = .ok (.iload 4, 2) := by decide +kernel
theorem d18_10 : decode jdk_52_method_14_code 10 = .ok (.iload_n 2, 1) := by decide +kernel
theorem d18_11 : decode jdk_52_method_14_code 11 = .ok (.if_icmp .ge 21, 3) := by decide +kernel
theorem d18_14 : decode jdk_52_method_14_code 14 = .ok (.aload_n 3, 1) := by decide +kernel
theorem d18_15 : decode jdk_52_method_14_code 15 = .ok (.iload 4, 2) := by decide +kernel
theorem d18_17 : decode jdk_52_method_14_code 17 = .ok (.aload_n 0, 1) := by decide +kernel
theorem d18_18 : decode jdk_52_method_14_code 18 = .ok (.iload_n 1, 1) := by decide +kernel
theorem d18_19 : decode jdk_52_method_14_code 19 = .ok (.caload, 1) := by decide +kernel
theorem d18_20 : decode jdk_52_method_14_code 20 = .ok (.invokestatic 111, 3) := by decide +kernel
theorem d18_23 : decode jdk_52_method_14_code 23 = .ok (.iinc 1 1, 3) := by decide +kernel
theorem d18_26 : decode jdk_52_method_14_code 26 = .ok (.iinc 4 1, 3) := by decide +kernel
theorem d18_29 : decode jdk_52_method_14_code 29 = .ok (.goto (-21), 3) := by decide +kernel
theorem d18_32 : decode jdk_52_method_14_code 32 = .ok (.aload_n 3, 1) := by decide +kernel
theorem d18_33 : decode jdk_52_method_14_code 33 = .ok (.areturn, 1) := by decide +kernel
theorem pn_18 : plainFor (⟨"java/lang/StringUTF16", "toBytes", "([CII)[B"⟩ : MethodName) = true := plainFor_of_name (by first | (simp [plainName, overriddenIn]; done) | decide +kernel)
theorem pd_18 : parseMethodDescriptor "([CII)[B" = some ⟨[(.array .char), .int, .int], some (.array .byte)⟩ := by decide +kernel
set_option maxRecDepth 65536 in
set_option maxHeartbeats 40000000 in
theorem rm_tb1 {l : Launch} {Z : State} {a0 : Array Value} (hw : ∀ d ∈ tables_1, d.before a0 Z = true) {n0 : Nat} {h0 : Heap} (Z0 : n0 ≤ h0.size) (a1 : Addr) {zc : Int32} (S_c : Sta Z h0 "java/lang/String" "COMPACT_STRINGS" "Z" (.int zc)) (hzc : ¬ zc = (0 : Int32)) {fm : Value} (S_f : Sta Z h0 "jdk/internal/util/Preconditions" "SIOOBE_FORMATTER" "Ljava/util/function/BiFunction;" fm) (hfm : fm.isRef = true) (S_a : Sta Z h0 "java/lang/StringUTF16" "$assertionsDisabled" "Z" (.int 1)) (S_h : Sta Z h0 "java/lang/StringUTF16" "HI_BYTE_SHIFT" "I" (.int 0)) (S_l : Sta Z h0 "java/lang/StringUTF16" "LO_BYTE_SHIFT" "I" (.int 8)) {c0 : Int32} {f : Nat → Value} (A_1 : Ary Z h0 a1 .char 1 f) (hf0 : f 0 = .int c0)  :
    Con l Z n0 (⟨"java/lang/StringUTF16", "toBytes", "([CII)[B"⟩ : MethodName) jdk_52_method_14_code 5 (some (.array .byte)) ({ frames := 2, cells := 1, slots := 2, locals := 24 } : Room) #[(.ref a1), (.int (0 : Int32)), (.int (1 : Int32))] h0 (Val (fun v h => ∃ b : Addr, v = .ref b ∧ b = h0.size ∧ n0 ≤ b ∧ Keep h0 h [] ∧ Ary Z h b .byte 2 (own_u16 [c0]))) := by
  refine con_intro pn_18 Z0 (fr := fun m => mkF m 0 #[.val (.ref a1), .val (.int (0 : Int32)), .val (.int (1 : Int32)), .unset, .unset] []) (fun m => by first | (simp [entryFrame, mkF, argsToLocals, Value.category]; done) | rfl) ?_
  intro p e s m below s₁ hs0 X0
  refine w_iloadN X0 (pc' := 1) d18_0 rfl rfl ?_
  refine w_staticV X0 (pc' := 4) d18_1 (rm_nbf1 hw (h0 := h0) (sd_size X0)) (hw _ (List.mem_of_getElem? (i := 82) rfl)) (hw _ (List.mem_of_getElem? (i := 83) rfl)) (hw _ (List.mem_of_getElem? (i := 49) rfl)) (hw _ (List.mem_of_getElem? (i := 84) rfl)) (by decide) [(.int (1 : Int32))] [] pd_19 rfl rfl rfl rfl 0 (Nat.le_refl _) (by decide) (by decide) (by decide) (by decide) rfl fun T1 h1 v1 X1 q1 => ?_
  obtain ⟨b1, rfl, g1, gn1, E1, A1⟩ := q1
  have ne_a1_b1 : a1 ≠ b1 := ne_new g1 A_1.lt
  have K_b1 : Keep h0 _ [] := (Keep.refl h0 [])
  have sz_b1 : h0.size ≤ b1 := sz_fresh g1 K_b1
  have A_2 := A_1.ext E1
  have K_3 : Keep h0 h1 [] := K_b1.ext E1
  refine w_astoreN X1 (pc' := 5) (l' := #[.val (.ref a1), .val (.int (0 : Int32)), .val (.int (1 : Int32)), .val (.ref b1), .unset]) d18_4 rfl rfl rfl ?_
  refine w_iconst X1 (pc' := 6) (0 : Int32) d18_5 rfl rfl ?_
  refine w_istore X1 (pc' := 8) (l' := #[.val (.ref a1), .val (.int (0 : Int32)), .val (.int (1 : Int32)), .val (.ref b1), .val (.int (0 : Int32))]) d18_6 rfl rfl ?_
  refine w_iload X1 (pc' := 10) d18_8 rfl rfl ?_
  refine w_iloadN X1 (pc' := 11) d18_10 rfl rfl ?_
  refine w_icmp_ge X1 32 14 d18_11 (by decide) rfl rfl (fun hc11 => by exfalso; revert hc11; decide) (fun hc11 => ?_)
  refine w_aloadN X1 (pc' := 15) d18_14 rfl rfl rfl ?_
  refine w_iload X1 (pc' := 17) d18_15 rfl rfl ?_
  refine w_aloadN X1 (pc' := 18) d18_17 rfl rfl rfl ?_
  refine w_iloadN X1 (pc' := 19) d18_18 rfl rfl ?_
  refine w_caload X1 (pc' := 20) 0 (v := (.int c0)) d18_19 A_2 (by decide) (by decide) hf0 rfl ?_
  refine w_staticN X1 (pc' := 23) d18_20 (rm_put1_0 hw (h0 := h1) (sd_size X1) b1 c0 (Sta.ext (kext K_3) S_c) hzc (Sta.ext (kext K_3) S_f) hfm (Sta.ext (kext K_3) S_a) (Sta.ext (kext K_3) S_h) (Sta.ext (kext K_3) S_l) A1 gn1) (hw _ (List.mem_of_getElem? (i := 89) rfl)) (hw _ (List.mem_of_getElem? (i := 90) rfl)) (hw _ (List.mem_of_getElem? (i := 49) rfl)) (hw _ (List.mem_of_getElem? (i := 91) rfl)) (by decide) [(.ref b1), (.int (0 : Int32)), (.int c0)] [] pd_21 rfl rfl rfl rfl 0 (Nat.le_refl _) (by decide) (by decide) (by decide) (by decide) rfl fun T4 h4 X4 q4 => ?_
  obtain ⟨K4, A4⟩ := q4
  have A_5 := A_2.keep K4 (ninS ne_a1_b1 nin0)
  have K_6 : Keep h0 h4 [] := K_3.trans K4 (allS (Or.inr sz_b1) all0)
  refine w_iinc X4 (pc' := 26) ((0 : Int32) + (1 : Int32)) (l' := #[.val (.ref a1), .val (.int ((0 : Int32) + (1 : Int32))), .val (.int (1 : Int32)), .val (.ref b1), .val (.int (0 : Int32))]) d18_23 rfl rfl rfl rfl ?_
  refine w_iinc X4 (pc' := 29) ((0 : Int32) + (1 : Int32)) (l' := #[.val (.ref a1), .val (.int ((0 : Int32) + (1 : Int32))), .val (.int (1 : Int32)), .val (.ref b1), .val (.int ((0 : Int32) + (1 : Int32)))]) d18_26 rfl rfl rfl rfl ?_
  refine w_goto X4 (pc' := 8) d18_29 (by decide) rfl ?_
  rw [show ((0 : Int32) + (1 : Int32)) = (1 : Int32) from by decide]
  show Go p e below _ (T4.setTop (mkF m 8 #[.val (.ref a1), .val (.int (1 : Int32)), .val (.int (1 : Int32)), .val (.ref b1), .val (.int (1 : Int32))] []))
  refine w_iload X4 (pc' := 10) d18_8 rfl rfl ?_
  refine w_iloadN X4 (pc' := 11) d18_10 rfl rfl ?_
  refine w_icmp_ge X4 32 14 d18_11 (by decide) rfl rfl (fun hc11 => ?_) (fun hc11 => by exfalso; revert hc11; decide)
  refine w_aloadN X4 (pc' := 33) d18_32 rfl rfl rfl ?_
  have Au : Ary Z h4 b1 .byte 2 (own_u16 [c0]) := A4.congr (fun i hi => by
    have : i = 0 ∨ i = 1 := by omega
    rcases this with rfl | rfl <;> rfl)
  exact w_areturn X4 d18_33 rfl rfl rfl ⟨_, rfl, g1, gn1, K_6, Au⟩ (by decide) (by decide)
theorem d10_0 : decode jdk_52_method_16_code 0 = .ok (.iload_n 2, 1) := by decide +kernel
theorem d10_1 : decode jdk_52_method_16_code 1 = .ok (.newarray .byte, 2) := by decide +kernel
theorem d10_3 : decode jdk_52_method_16_code 3 = .ok (.astore_n 3, 1) := by decide +kernel
theorem d10_4 : decode jdk_52_method_16_code 4 = .ok (.aload_n 0, 1) := by decide +kernel
theorem d10_5 : decode jdk_52_method_16_code 5 = .ok (.iload_n 1, 1) := by decide +kernel
theorem d10_6 : decode jdk_52_method_16_code 6 = .ok (.aload_n 3, 1) := by decide +kernel
theorem d10_7 : decode jdk_52_method_16_code 7 = .ok (.iconst 0, 1) := by decide +kernel
theorem d10_8 : decode jdk_52_method_16_code 8 = .ok (.iload_n 2, 1) := by decide +kernel
theorem d10_9 : decode jdk_52_method_16_code 9 = .ok (.invokestatic 115, 3) := by decide +kernel
theorem d10_12 : decode jdk_52_method_16_code 12 = .ok (.istore 4, 2) := by decide +kernel
theorem d10_14 : decode jdk_52_method_16_code 14 = .ok (.iload 4, 2) := by decide +kernel
theorem d10_16 : decode jdk_52_method_16_code 16 = .ok (.iload_n 2, 1) := by decide +kernel
theorem d10_17 : decode jdk_52_method_16_code 17 = .ok (.if_icmp .eq 40, 3) := by decide +kernel
theorem d10_20 : decode jdk_52_method_16_code 20 = .ok (.aload_n 0, 1) := by decide +kernel
theorem d10_21 : decode jdk_52_method_16_code 21 = .ok (.iload_n 1, 1) := by decide +kernel
theorem d10_22 : decode jdk_52_method_16_code 22 = .ok (.iload_n 2, 1) := by decide +kernel
theorem d10_23 : decode jdk_52_method_16_code 23 = .ok (.invokestatic 119, 3) := by decide +kernel
theorem d10_26 : decode jdk_52_method_16_code 26 = .ok (.astore 5, 2) := by decide +kernel
theorem d10_28 : decode jdk_52_method_16_code 28 = .ok (.aload 5, 2) := by decide +kernel
theorem d10_30 : decode jdk_52_method_16_code 30 = .ok (.iload 4, 2) := by decide +kernel
theorem d10_32 : decode jdk_52_method_16_code 32 = .ok (.invokestatic 71, 3) := by decide +kernel
theorem d10_35 : decode jdk_52_method_16_code 35 = .ok (.sipush 255, 3) := by decide +kernel
theorem d10_38 : decode jdk_52_method_16_code 38 = .ok (.if_icmp .gt 16, 3) := by decide +kernel
theorem d10_41 : decode jdk_52_method_16_code 41 = .ok (.aload 5, 2) := by decide +kernel
theorem d10_43 : decode jdk_52_method_16_code 43 = .ok (.iconst 0, 1) := by decide +kernel
theorem d10_44 : decode jdk_52_method_16_code 44 = .ok (.aload_n 3, 1) := by decide +kernel
theorem d10_45 : decode jdk_52_method_16_code 45 = .ok (.iconst 0, 1) := by decide +kernel
theorem d10_46 : decode jdk_52_method_16_code 46 = .ok (.iload_n 2, 1) := by decide +kernel
theorem d10_47 : decode jdk_52_method_16_code 47 = .ok (.invokestatic 123, 3) := by decide +kernel
theorem d10_50 : decode jdk_52_method_16_code 50 = .ok (.iload_n 2, 1) := by decide +kernel
theorem d10_51 : decode jdk_52_method_16_code 51 = .ok (.if_icmp .eq 6, 3) := by decide +kernel
theorem d10_54 : decode jdk_52_method_16_code 54 = .ok (.aload 5, 2) := by decide +kernel
theorem d10_56 : decode jdk_52_method_16_code 56 = .ok (.areturn, 1) := by decide +kernel
theorem d10_57 : decode jdk_52_method_16_code 57 = .ok (.aload_n 3, 1) := by decide +kernel
theorem d10_58 : decode jdk_52_method_16_code 58 = .ok (.areturn, 1) := by decide +kernel
theorem pn_10 : plainFor (⟨"java/lang/StringUTF16", "compress", "([CII)[B"⟩ : MethodName) = true := plainFor_of_name (by first | (simp [plainName, overriddenIn]; done) | decide +kernel)
theorem pd_10 : parseMethodDescriptor "([CII)[B" = some ⟨[(.array .char), .int, .int], some (.array .byte)⟩ := by decide +kernel
set_option maxRecDepth 65536 in
set_option maxHeartbeats 40000000 in
theorem rm_cmB1 {l : Launch} {Z : State} {a0 : Array Value} (hw : ∀ d ∈ tables_1, d.before a0 Z = true) {n0 : Nat} {h0 : Heap} (Z0 : n0 ≤ h0.size) (a1 : Addr) {zc : Int32} (S_c : Sta Z h0 "java/lang/String" "COMPACT_STRINGS" "Z" (.int zc)) (hzc : ¬ zc = (0 : Int32)) {fm : Value} (S_f : Sta Z h0 "jdk/internal/util/Preconditions" "SIOOBE_FORMATTER" "Ljava/util/function/BiFunction;" fm) (hfm : fm.isRef = true) (S_a : Sta Z h0 "java/lang/StringUTF16" "$assertionsDisabled" "Z" (.int 1)) (S_h : Sta Z h0 "java/lang/StringUTF16" "HI_BYTE_SHIFT" "I" (.int 0)) (S_l : Sta Z h0 "java/lang/StringUTF16" "LO_BYTE_SHIFT" "I" (.int 8)) {c0 : Int32} (R0 : own_R c0) {f : Nat → Value} (A_1 : Ary Z h0 a1 .char 1 f) (hf0 : f 0 = .int c0)  :
    Con l Z n0 (⟨"java/lang/StringUTF16", "compress", "([CII)[B"⟩ : MethodName) jdk_52_method_16_code 6 (some (.array .byte)) ({ frames := 3, cells := 2, slots := 3, locals := 40 } : Room) #[(.ref a1), (.int (0 : Int32)), (.int (1 : Int32))] h0 (Val (fun v h => ∃ b : Addr, v = .ref b ∧ h0.size ≤ b ∧ n0 ≤ b ∧ Keep h0 h [] ∧ (((∀ i, i < 1 → ¬ (255 : Int32) < [c0].getD i 0) ∧ Ary Z h b .byte 1 (fun i => .int ([c0].getD i 0).toInt8.toInt32)) ∨ Ary Z h b .byte 2 (own_u16 [c0])))) := by
  refine con_intro pn_10 Z0 (fr := fun m => mkF m 0 #[.val (.ref a1), .val (.int (0 : Int32)), .val (.int (1 : Int32)), .unset, .unset, .unset] []) (fun m => by first | (simp [entryFrame, mkF, argsToLocals, Value.category]; done) | rfl) ?_
  intro p e s m below s₁ hs0 X0
  refine w_iloadN X0 (pc' := 1) d10_0 rfl rfl ?_
  refine w_newarray X0 (pc' := 3) 1 1 d10_1 (hw _ (List.mem_of_getElem? (i := 19) rfl)) (by decide) (by decide) (by decide) (by decide) (by decide) rfl fun T1 h1 b1 g1 gn1 X1 E1 A1 => ?_
  have ne_a1_b1 : a1 ≠ b1 := ne_new g1 A_1.lt
  have K_b1 : Keep h0 _ [] := (Keep.refl h0 [])
  have sz_b1 : h0.size ≤ b1 := sz_fresh g1 K_b1
  have A_2 := A_1.ext E1
  have K_3 : Keep h0 h1 [] := K_b1.ext E1
  replace A1 : Ary Z h1 b1 .byte 1 (fun _ => (.int (0 : Int32))) := A1
  refine w_astoreN X1 (pc' := 4) (l' := #[.val (.ref a1), .val (.int (0 : Int32)), .val (.int (1 : Int32)), .val (.ref b1), .unset, .unset]) d10_3 rfl rfl rfl ?_
  refine w_aloadN X1 (pc' := 5) d10_4 rfl rfl rfl ?_
  refine w_iloadN X1 (pc' := 6) d10_5 rfl rfl ?_
  refine w_aloadN X1 (pc' := 7) d10_6 rfl rfl rfl ?_
  refine w_iconst X1 (pc' := 8) (0 : Int32) d10_7 rfl rfl ?_
  refine w_iloadN X1 (pc' := 9) d10_8 rfl rfl ?_
  refine w_staticV X1 (pc' := 12) d10_9 (rm_cmI1 hw (h0 := h1) (sd_size X1) a1 b1 A_2 A1 ne_a1_b1 gn1 hf0) (hw _ (List.mem_of_getElem? (i := 51) rfl)) (hw _ (List.mem_of_getElem? (i := 52) rfl)) (hw _ (List.mem_of_getElem? (i := 49) rfl)) (hw _ (List.mem_of_getElem? (i := 53) rfl)) (by decide) [(.ref a1), (.int (0 : Int32)), (.ref b1), (.int (0 : Int32)), (.int (1 : Int32))] [] pd_11 rfl rfl rfl rfl 0 (Nat.le_refl _) (by decide) (by decide) (by decide) (by decide) rfl fun T4 h4 v4 X4 q4 => ?_
  obtain ⟨K4, D4⟩ := q4
  have A_5 := A_2.keep K4 (ninS ne_a1_b1 nin0)
  have K_6 : Keep h0 h4 [] := K_3.trans K4 (allS (Or.inr sz_b1) all0)
  rcases D4 with ⟨rfl, hall, AL⟩ | ⟨rfl, hbig⟩
  · skip
    show Go p e below _ (T4.setTop (mkF m 12 #[.val (.ref a1), .val (.int (0 : Int32)), .val (.int (1 : Int32)), .val (.ref b1), .unset, .unset] [(.int (1 : Int32))]))
    refine w_istore X4 (pc' := 14) (l' := #[.val (.ref a1), .val (.int (0 : Int32)), .val (.int (1 : Int32)), .val (.ref b1), .val (.int (1 : Int32)), .unset]) d10_12 rfl rfl ?_
    refine w_iload X4 (pc' := 16) d10_14 rfl rfl ?_
    refine w_iloadN X4 (pc' := 17) d10_16 rfl rfl ?_
    refine w_icmp_eq X4 57 20 d10_17 (by decide) rfl rfl (fun hc17 => ?_) (fun hc17 => by exfalso; revert hc17; decide)
    refine w_aloadN X4 (pc' := 58) d10_57 rfl rfl rfl ?_
    exact w_areturn X4 d10_58 rfl rfl rfl ⟨_, rfl, sz_b1, gn1, K_6, Or.inl ⟨hall, AL⟩⟩ (by decide) (by decide)
  · skip
    show Go p e below _ (T4.setTop (mkF m 12 #[.val (.ref a1), .val (.int (0 : Int32)), .val (.int (1 : Int32)), .val (.ref b1), .unset, .unset] [(.int (0 : Int32))]))
    refine w_istore X4 (pc' := 14) (l' := #[.val (.ref a1), .val (.int (0 : Int32)), .val (.int (1 : Int32)), .val (.ref b1), .val (.int (0 : Int32)), .unset]) d10_12 rfl rfl ?_
    refine w_iload X4 (pc' := 16) d10_14 rfl rfl ?_
    refine w_iloadN X4 (pc' := 17) d10_16 rfl rfl ?_
    refine w_icmp_eq X4 57 20 d10_17 (by decide) rfl rfl (fun hc17 => by exfalso; revert hc17; decide) (fun hc17 => ?_)
    refine w_aloadN X4 (pc' := 21) d10_20 rfl rfl rfl ?_
    refine w_iloadN X4 (pc' := 22) d10_21 rfl rfl ?_
    refine w_iloadN X4 (pc' := 23) d10_22 rfl rfl ?_
    refine w_staticV X4 (pc' := 26) d10_23 (rm_tb1 hw (h0 := h4) (sd_size X4) a1 (Sta.ext (kext K_6) S_c) hzc (Sta.ext (kext K_6) S_f) hfm (Sta.ext (kext K_6) S_a) (Sta.ext (kext K_6) S_h) (Sta.ext (kext K_6) S_l) A_5 hf0) (hw _ (List.mem_of_getElem? (i := 79) rfl)) (hw _ (List.mem_of_getElem? (i := 80) rfl)) (hw _ (List.mem_of_getElem? (i := 49) rfl)) (hw _ (List.mem_of_getElem? (i := 81) rfl)) (by decide) [(.ref a1), (.int (0 : Int32)), (.int (1 : Int32))] [] pd_18 rfl rfl rfl rfl 0 (Nat.le_refl _) (by decide) (by decide) (by decide) (by decide) rfl fun T7 h7 v7 X7 q7 => ?_
    obtain ⟨b7, rfl, g7, gn7, K7, A7⟩ := q7
    have ne_a1_b7 : a1 ≠ b7 := ne_new g7 A_5.lt
    have sz_b7 : h0.size ≤ b7 := sz_fresh g7 K_6
    have A_8 := A_5.keep K7 nin0
    have K_9 : Keep h0 h7 [] := K_6.trans K7 all0
    refine w_astore X7 (pc' := 28) (l' := #[.val (.ref a1), .val (.int (0 : Int32)), .val (.int (1 : Int32)), .val (.ref b1), .val (.int (0 : Int32)), .val (.ref b7)]) d10_26 rfl rfl rfl ?_
    refine w_aload X7 (pc' := 30) d10_28 rfl rfl rfl ?_
    refine w_iload X7 (pc' := 32) d10_30 rfl rfl ?_
    refine w_staticV X7 (pc' := 35) d10_32 (rm_gc1_0 hw (h0 := h7) (sd_size X7) b7 (Sta.ext (kext K_9) S_c) hzc (Sta.ext (kext K_9) S_f) hfm (Sta.ext (kext K_9) S_a) (Sta.ext (kext K_9) S_h) (Sta.ext (kext K_9) S_l) R0 A7) (hw _ (List.mem_of_getElem? (i := 95) rfl)) (hw _ (List.mem_of_getElem? (i := 96) rfl)) (hw _ (List.mem_of_getElem? (i := 49) rfl)) (hw _ (List.mem_of_getElem? (i := 97) rfl)) (by decide) [(.ref b7), (.int (0 : Int32))] [] pd_22 rfl rfl rfl rfl 0 (Nat.le_refl _) (by decide) (by decide) (by decide) (by decide) rfl fun T10 h10 v10 X10 q10 => ?_
    obtain ⟨rfl, rfl⟩ := q10
    refine w_sipush X10 (pc' := 38) (255 : Int32) d10_35 rfl rfl ?_
    refine w_icmp_gt X10 54 41 d10_38 (by decide) rfl rfl (fun hc38 => ?_) (fun hc38 => by exfalso; exact hc38 hbig)
    refine w_aload X10 (pc' := 56) d10_54 rfl rfl rfl ?_
    exact w_areturn X10 d10_56 rfl rfl rfl ⟨_, rfl, sz_b7, gn7, K_9, Or.inr A7⟩ (by decide) (by decide)
theorem d12_0 : decode jdk_52_method_15_code 0 = .ok (.iload_n 1, 1) := by decide +kernel
theorem d12_1 : decode jdk_52_method_15_code 1 = .ok (.aload_n 0, 1) := by decide +kernel
theorem d12_2 : decode jdk_52_method_15_code 2 = .ok (.arraylength, 1) := by decide +kernel
theorem d12_3 : decode jdk_52_method_15_code 3 = .ok (.isub, 1) := by decide +kernel
theorem d12_4 : decode jdk_52_method_15_code 4 = .ok (.bipush 31, 2) := by decide +kernel
theorem d12_6 : decode jdk_52_method_15_code 6 = .ok (.iushr, 1) := by decide +kernel
theorem d12_7 : decode jdk_52_method_15_code 7 = .ok (.i2b, 1) := by decide +kernel
theorem d12_8 : decode jdk_52_method_15_code 8 = .ok (.ireturn, 1) := by decide +kernel
theorem pn_12 : plainFor (⟨"java/lang/StringUTF16", "coderFromArrayLen", "([BI)B"⟩ : MethodName) = true := plainFor_of_name (by first | (simp [plainName, overriddenIn]; done) | decide +kernel)
theorem pd_12 : parseMethodDescriptor "([BI)B" = some ⟨[(.array .byte), .int], some .byte⟩ := by decide +kernel
set_option maxRecDepth 65536 in
set_option maxHeartbeats 40000000 in
theorem rm_cfl1_0 {l : Launch} {Z : State} {a0 : Array Value} (hw : ∀ d ∈ tables_1, d.before a0 Z = true) {n0 : Nat} {h0 : Heap} (Z0 : n0 ≤ h0.size) (a1 : Addr) {f : Nat → Value} (A_1 : Ary Z h0 a1 .byte 1 f) :
    Con l Z n0 (⟨"java/lang/StringUTF16", "coderFromArrayLen", "([BI)B"⟩ : MethodName) jdk_52_method_15_code 2 (some .byte) ({ frames := 0, cells := 0, slots := 0, locals := 0 } : Room) #[(.ref a1), (.int (1 : Int32))] h0 (Val (fun v h => v = .int 0 ∧ h0 = h)) := by
  refine con_intro pn_12 Z0 (fr := fun m => mkF m 0 #[.val (.ref a1), .val (.int (1 : Int32))] []) (fun m => by first | (simp [entryFrame, mkF, argsToLocals, Value.category]; done) | rfl) ?_
  intro p e s m below s₁ hs0 X0
  refine w_iloadN X0 (pc' := 1) d12_0 rfl rfl ?_
  refine w_aloadN X0 (pc' := 2) d12_1 rfl rfl rfl ?_
  refine w_arraylength X0 (pc' := 3) (1 : Int32) d12_2 A_1 (by decide) rfl ?_
  refine w_isub X0 (pc' := 4) d12_3 rfl ?_
  refine w_bipush X0 (pc' := 6) (31 : Int32) d12_4 rfl rfl ?_
  refine w_iushr X0 (pc' := 7) d12_6 rfl ?_
  refine w_i2b X0 (pc' := 8) d12_7 rfl ?_
  exact w_breturn X0 d12_8 ⟨by decide, rfl⟩ (by decide) (by decide)
set_option maxRecDepth 65536 in
set_option maxHeartbeats 40000000 in
theorem rm_cfl1_1 {l : Launch} {Z : State} {a0 : Array Value} (hw : ∀ d ∈ tables_1, d.before a0 Z = true) {n0 : Nat} {h0 : Heap} (Z0 : n0 ≤ h0.size) (a1 : Addr) {f : Nat → Value} (A_1 : Ary Z h0 a1 .byte 2 f) :
    Con l Z n0 (⟨"java/lang/StringUTF16", "coderFromArrayLen", "([BI)B"⟩ : MethodName) jdk_52_method_15_code 2 (some .byte) ({ frames := 0, cells := 0, slots := 0, locals := 0 } : Room) #[(.ref a1), (.int (1 : Int32))] h0 (Val (fun v h => v = .int 1 ∧ h0 = h)) := by
  refine con_intro pn_12 Z0 (fr := fun m => mkF m 0 #[.val (.ref a1), .val (.int (1 : Int32))] []) (fun m => by first | (simp [entryFrame, mkF, argsToLocals, Value.category]; done) | rfl) ?_
  intro p e s m below s₁ hs0 X0
  refine w_iloadN X0 (pc' := 1) d12_0 rfl rfl ?_
  refine w_aloadN X0 (pc' := 2) d12_1 rfl rfl rfl ?_
  refine w_arraylength X0 (pc' := 3) (2 : Int32) d12_2 A_1 (by decide) rfl ?_
  refine w_isub X0 (pc' := 4) d12_3 rfl ?_
  refine w_bipush X0 (pc' := 6) (31 : Int32) d12_4 rfl rfl ?_
  refine w_iushr X0 (pc' := 7) d12_6 rfl ?_
  refine w_i2b X0 (pc' := 8) d12_7 rfl ?_
  exact w_breturn X0 d12_8 ⟨by decide, rfl⟩ (by decide) (by decide)
theorem d3_0 : decode jdk_42_method_149_code 0 = .ok (.aload_n 0, 1) := by decide +kernel
theorem d3_1 : decode jdk_42_method_149_code 1 = .ok (.invokespecial 1, 3) := by decide +kernel
theorem d3_4 : decode jdk_42_method_149_code 4 = .ok (.iload_n 3, 1) := by decide +kernel
theorem d3_5 : decode jdk_42_method_149_code 5 = .ok (.ifCond .ne 22, 3) := by decide +kernel
theorem d3_8 : decode jdk_42_method_149_code 8 = .ok (.aload_n 0, 1) := by decide +kernel
theorem d3_9 : decode jdk_42_method_149_code 9 = .ok (.ldc 7, 2) := by decide +kernel
theorem d3_11 : decode jdk_42_method_149_code 11 = .ok (.getfield 9, 3) := by decide +kernel
theorem d3_14 : decode jdk_42_method_149_code 14 = .ok (.putfield 9, 3) := by decide +kernel
theorem d3_17 : decode jdk_42_method_149_code 17 = .ok (.aload_n 0, 1) := by decide +kernel
theorem d3_18 : decode jdk_42_method_149_code 18 = .ok (.ldc 7, 2) := by decide +kernel
theorem d3_20 : decode jdk_42_method_149_code 20 = .ok (.getfield 15, 3) := by decide +kernel
theorem d3_23 : decode jdk_42_method_149_code 23 = .ok (.putfield 15, 3) := by decide +kernel
theorem d3_26 : decode jdk_42_method_149_code 26 = .ok (.return_, 1) := by decide +kernel
theorem d3_27 : decode jdk_42_method_149_code 27 = .ok (.getstatic 38, 3) := by decide +kernel
theorem d3_30 : decode jdk_42_method_149_code 30 = .ok (.ifCond .eq 28, 3) := by decide +kernel
theorem d3_33 : decode jdk_42_method_149_code 33 = .ok (.aload_n 1, 1) := by decide +kernel
theorem d3_34 : decode jdk_42_method_149_code 34 = .ok (.iload_n 2, 1) := by decide +kernel
theorem d3_35 : decode jdk_42_method_149_code 35 = .ok (.iload_n 3, 1) := by decide +kernel
theorem d3_36 : decode jdk_42_method_149_code 36 = .ok (.invokestatic 177, 3) := by decide +kernel
theorem d3_39 : decode jdk_42_method_149_code 39 = .ok (.astore 5, 2) := by decide +kernel
theorem d3_41 : decode jdk_42_method_149_code 41 = .ok (.aload_n 0, 1) := by decide +kernel
theorem d3_42 : decode jdk_42_method_149_code 42 = .ok (.aload 5, 2) := by decide +kernel
theorem d3_44 : decode jdk_42_method_149_code 44 = .ok (.iload_n 3, 1) := by decide +kernel
theorem d3_45 : decode jdk_42_method_149_code 45 = .ok (.invokestatic 47, 3) := by decide +kernel
theorem d3_48 : decode jdk_42_method_149_code 48 = .ok (.putfield 15, 3) := by decide +kernel
theorem d3_51 : decode jdk_42_method_149_code 51 = .ok (.aload_n 0, 1) := by decide +kernel
theorem d3_52 : decode jdk_42_method_149_code 52 = .ok (.aload 5, 2) := by decide +kernel
theorem d3_54 : decode jdk_42_method_149_code 54 = .ok (.putfield 9, 3) := by decide +kernel
theorem d3_57 : decode jdk_42_method_149_code 57 = .ok (.return_, 1) := by decide +kernel
theorem d3_58 : decode jdk_42_method_149_code 58 = .ok (.aload_n 0, 1) := by decide +kernel
theorem d3_59 : decode jdk_42_method_149_code 59 = .ok (.iconst 1, 1) := by decide +kernel
theorem d3_60 : decode jdk_42_method_149_code 60 = .ok (.putfield 15, 3) := by decide +kernel
theorem d3_63 : decode jdk_42_method_149_code 63 = .ok (.aload_n 0, 1) := by decide +kernel
theorem d3_64 : decode jdk_42_method_149_code 64 = .ok (.aload_n 1, 1) := by decide +kernel
theorem d3_65 : decode jdk_42_method_149_code 65 = .ok (.iload_n 2, 1) := by decide +kernel
theorem d3_66 : decode jdk_42_method_149_code 66 = .ok (.iload_n 3, 1) := by decide +kernel
theorem d3_67 : decode jdk_42_method_149_code 67 = .ok (.invokestatic 180, 3) := by decide +kernel
theorem d3_70 : decode jdk_42_method_149_code 70 = .ok (.putfield 9, 3) := by decide +kernel
theorem d3_73 : decode jdk_42_method_149_code 73 = .ok (.return_, 1) := by decide +kernel
theorem pn_3 : plainFor (⟨"java/lang/String", "<init>", "([CIILjava/lang/Void;)V"⟩ : MethodName) = true := plainFor_of_name (by first | (simp [plainName, overriddenIn]; done) | decide +kernel)
theorem pd_3 : parseMethodDescriptor "([CIILjava/lang/Void;)V" = some ⟨[(.array .char), .int, .int, (.object "java/lang/Void")], none⟩ := by decide +kernel
set_option maxRecDepth 65536 in
set_option maxHeartbeats 40000000 in
theorem rm_sv1 {l : Launch} {Z : State} {a0 : Array Value} (hw : ∀ d ∈ tables_1, d.before a0 Z = true) {n0 : Nat} {h0 : Heap} (Z0 : n0 ≤ h0.size) (a1 a2 : Addr) {zc : Int32} (S_c : Sta Z h0 "java/lang/String" "COMPACT_STRINGS" "Z" (.int zc)) (hzc : ¬ zc = (0 : Int32)) {fm : Value} (S_f : Sta Z h0 "jdk/internal/util/Preconditions" "SIOOBE_FORMATTER" "Ljava/util/function/BiFunction;" fm) (hfm : fm.isRef = true) (S_a : Sta Z h0 "java/lang/StringUTF16" "$assertionsDisabled" "Z" (.int 1)) (S_h : Sta Z h0 "java/lang/StringUTF16" "HI_BYTE_SHIFT" "I" (.int 0)) (S_l : Sta Z h0 "java/lang/StringUTF16" "LO_BYTE_SHIFT" "I" (.int 8)) {c0 : Int32} (R0 : own_R c0) {f : Nat → Value} {u1 u2 : Value} (E_1 : Exa Z h0 a1 "java/lang/String") (F_v : Fld Z h0 a1 "java/lang/String" "value" "[B" u1) (F_c : Fld Z h0 a1 "java/lang/String" "coder" "B" u2) (g_1 : n0 ≤ a1) (A_2 : Ary Z h0 a2 .char 1 f) (ne12 : a1 ≠ a2) (hf0 : f 0 = .int c0)  :
    Con l Z n0 (⟨"java/lang/String", "<init>", "([CIILjava/lang/Void;)V"⟩ : MethodName) jdk_42_method_149_code 6 none ({ frames := 4, cells := 2, slots := 3, locals := 57 } : Room) #[(.ref a1), (.ref a2), (.int (0 : Int32)), (.int (1 : Int32)), .null] h0 (Non (fun h => Keep h0 h [a1] ∧ StrU Z h a1 [c0])) := by
  refine con_intro pn_3 Z0 (fr := fun m => mkF m 0 #[.val (.ref a1), .val (.ref a2), .val (.int (0 : Int32)), .val (.int (1 : Int32)), .val .null, .unset] []) (fun m => by first | (simp [entryFrame, mkF, argsToLocals, Value.category]; done) | rfl) ?_
  intro p e s m below s₁ hs0 X0
  refine w_aloadN X0 (pc' := 1) d3_0 rfl rfl rfl ?_
  refine w_initO X0 (pc' := 4) d3_1 (hw _ (List.mem_of_getElem? (i := 15) rfl)) (hw _ (List.mem_of_getElem? (i := 16) rfl)) (hw _ (List.mem_of_getElem? (i := 17) rfl)) rfl (by decide) 0 (Nat.le_refl _) (by decide) rfl fun T1 X1 => ?_
  refine w_iloadN X1 (pc' := 5) d3_4 rfl rfl ?_
  refine w_if_ne X1 27 8 d3_5 (by decide) rfl rfl (fun hc5 => ?_) (fun hc5 => by exfalso; revert hc5; decide)
  refine w_getstatic X1 (pc' := 30) d3_27 (host := "") (Or.inl (hw _ (List.mem_of_getElem? (i := 40) rfl))) Via.refl S_c rfl fun T2 X2 => ?_
  refine w_if_eq X2 58 33 d3_30 (by decide) rfl rfl (fun hc30 => by exfalso; exact hzc hc30) (fun hc30 => ?_)
  refine w_aloadN X2 (pc' := 34) d3_33 rfl rfl rfl ?_
  refine w_iloadN X2 (pc' := 35) d3_34 rfl rfl ?_
  refine w_iloadN X2 (pc' := 36) d3_35 rfl rfl ?_
  refine w_staticV X2 (pc' := 39) d3_36 (rm_cmB1 hw (h0 := h0) (sd_size X2) a2 S_c hzc S_f hfm S_a S_h S_l R0 A_2 hf0) (hw _ (List.mem_of_getElem? (i := 47) rfl)) (hw _ (List.mem_of_getElem? (i := 48) rfl)) (hw _ (List.mem_of_getElem? (i := 49) rfl)) (hw _ (List.mem_of_getElem? (i := 50) rfl)) (by decide) [(.ref a2), (.int (0 : Int32)), (.int (1 : Int32))] [] pd_10 rfl rfl rfl rfl 0 (Nat.le_refl _) (by decide) (by decide) (by decide) (by decide) rfl fun T3 h3 v3 X3 q3 => ?_
  obtain ⟨b3, rfl, g3, gn3, K3, D3⟩ := q3
  have ne_a1_b3 : a1 ≠ b3 := ne_new2 g3 F_v.lt
  have ne_a2_b3 : a2 ≠ b3 := ne_new2 g3 A_2.lt
  have K_b3 : Keep h0 _ [a1] := (Keep.refl h0 [a1])
  have sz_b3 : h0.size ≤ b3 := Nat.le_trans K_b3.1 g3
  have F_v_4 := F_v.keep K3 nin0
  have F_c_4 := F_c.keep K3 nin0
  have E_4 := E_1.keep K3
  have A_4 := A_2.keep K3 nin0
  have K_5 : Keep h0 h3 [a1] := K_b3.trans K3 all0
  rcases D3 with ⟨hall, AL⟩ | AU
  · skip
    refine w_astore X3 (pc' := 41) (l' := #[.val (.ref a1), .val (.ref a2), .val (.int (0 : Int32)), .val (.int (1 : Int32)), .val .null, .val (.ref b3)]) d3_39 rfl rfl rfl ?_
    refine w_aloadN X3 (pc' := 42) d3_41 rfl rfl rfl ?_
    refine w_aload X3 (pc' := 44) d3_42 rfl rfl rfl ?_
    refine w_iloadN X3 (pc' := 45) d3_44 rfl rfl ?_
    refine w_staticV X3 (pc' := 48) d3_45 (rm_cfl1_0 hw (h0 := h3) (sd_size X3) b3 AL) (hw _ (List.mem_of_getElem? (i := 54) rfl)) (hw _ (List.mem_of_getElem? (i := 55) rfl)) (hw _ (List.mem_of_getElem? (i := 49) rfl)) (hw _ (List.mem_of_getElem? (i := 56) rfl)) (by decide) [(.ref b3), (.int (1 : Int32))] [(.ref a1)] pd_12 rfl rfl rfl rfl 1 (Nat.le_refl _) (by decide) (by decide) (by decide) (by decide) rfl fun T6 h6 v6 X6 q6 => ?_
    obtain ⟨rfl, rfl⟩ := q6
    refine w_putfieldN X6 (pc' := 51) d3_48 (hw _ (List.mem_of_getElem? (i := 25) rfl)) Via.refl F_c_4 E_4 (Or.inr ⟨(hw _ (List.mem_of_getElem? (i := 21) rfl)), rfl, rfl⟩) (hw _ (List.mem_of_getElem? (i := 5) rfl)) (ty := .byte) (v' := (.int (nar .byte (0 : Int32)))) (by decide) rfl (fits_nar_byte _) g_1 rfl fun T7 h7 X7 W7 F7 => ?_
    have F_v_8 := Fld.other W7 F_v_4 (Or.inr (slot_ne (C := "java/lang/String") (Or.inr (hw _ (List.mem_of_getElem? (i := 20) rfl))) (Or.inr (hw _ (List.mem_of_getElem? (i := 21) rfl))) (by decide) (t := (.array .byte)) (t' := .byte) (by decide) (by decide)))
    have E_8 := Exa.wr W7 E_4
    have A_8 := A_4.other W7 (Ne.symm ne12)
    have AL_8 := AL.other W7 (Ne.symm ne_a1_b3)
    have K_9 : Keep h0 h7 [a1] := K_5.wr W7 (Or.inl (List.mem_of_getElem? (i := 0) rfl))
    refine w_aloadN X7 (pc' := 52) d3_51 rfl rfl rfl ?_
    refine w_aload X7 (pc' := 54) d3_52 rfl rfl rfl ?_
    refine w_putfield X7 (pc' := 57) d3_54 (host := "") (Or.inl (hw _ (List.mem_of_getElem? (i := 24) rfl))) Via.refl F_v_8 E_8 (Or.inr ⟨(hw _ (List.mem_of_getElem? (i := 20) rfl)), rfl, rfl⟩) (hw _ (List.mem_of_getElem? (i := 5) rfl)) (ty := (.array .byte)) (by decide) rfl rfl g_1 rfl fun T10 h10 X10 W10 F10 => ?_
    have F7_11 := Fld.other W10 F7 (Or.inr (slot_ne (C := "java/lang/String") (Or.inr (hw _ (List.mem_of_getElem? (i := 21) rfl))) (Or.inr (hw _ (List.mem_of_getElem? (i := 20) rfl))) (by decide) (t := .byte) (t' := (.array .byte)) (by decide) (by decide)))
    have E_11 := Exa.wr W10 E_8
    have A_11 := A_8.other W10 (Ne.symm ne12)
    have AL_11 := AL_8.other W10 (Ne.symm ne_a1_b3)
    have K_12 : Keep h0 h10 [a1] := K_9.wr W10 (Or.inl (List.mem_of_getElem? (i := 0) rfl))
    exact w_return X10 d3_57 ⟨K_12, Or.inl ⟨b3, E_11, F7_11, F10, AL_11, hall⟩⟩ (by decide) (by decide)
  · skip
    refine w_astore X3 (pc' := 41) (l' := #[.val (.ref a1), .val (.ref a2), .val (.int (0 : Int32)), .val (.int (1 : Int32)), .val .null, .val (.ref b3)]) d3_39 rfl rfl rfl ?_
    refine w_aloadN X3 (pc' := 42) d3_41 rfl rfl rfl ?_
    refine w_aload X3 (pc' := 44) d3_42 rfl rfl rfl ?_
    refine w_iloadN X3 (pc' := 45) d3_44 rfl rfl ?_
    refine w_staticV X3 (pc' := 48) d3_45 (rm_cfl1_1 hw (h0 := h3) (sd_size X3) b3 AU) (hw _ (List.mem_of_getElem? (i := 54) rfl)) (hw _ (List.mem_of_getElem? (i := 55) rfl)) (hw _ (List.mem_of_getElem? (i := 49) rfl)) (hw _ (List.mem_of_getElem? (i := 56) rfl)) (by decide) [(.ref b3), (.int (1 : Int32))] [(.ref a1)] pd_12 rfl rfl rfl rfl 1 (Nat.le_refl _) (by decide) (by decide) (by decide) (by decide) rfl fun T13 h13 v13 X13 q13 => ?_
    obtain ⟨rfl, rfl⟩ := q13
    refine w_putfieldN X13 (pc' := 51) d3_48 (hw _ (List.mem_of_getElem? (i := 25) rfl)) Via.refl F_c_4 E_4 (Or.inr ⟨(hw _ (List.mem_of_getElem? (i := 21) rfl)), rfl, rfl⟩) (hw _ (List.mem_of_getElem? (i := 5) rfl)) (ty := .byte) (v' := (.int (nar .byte (1 : Int32)))) (by decide) rfl (fits_nar_byte _) g_1 rfl fun T14 h14 X14 W14 F14 => ?_
    have F_v_15 := Fld.other W14 F_v_4 (Or.inr (slot_ne (C := "java/lang/String") (Or.inr (hw _ (List.mem_of_getElem? (i := 20) rfl))) (Or.inr (hw _ (List.mem_of_getElem? (i := 21) rfl))) (by decide) (t := (.array .byte)) (t' := .byte) (by decide) (by decide)))
    have E_15 := Exa.wr W14 E_4
    have A_15 := A_4.other W14 (Ne.symm ne12)
    have AU_15 := AU.other W14 (Ne.symm ne_a1_b3)
    have K_16 : Keep h0 h14 [a1] := K_5.wr W14 (Or.inl (List.mem_of_getElem? (i := 0) rfl))
    refine w_aloadN X14 (pc' := 52) d3_51 rfl rfl rfl ?_
    refine w_aload X14 (pc' := 54) d3_52 rfl rfl rfl ?_
    refine w_putfield X14 (pc' := 57) d3_54 (host := "") (Or.inl (hw _ (List.mem_of_getElem? (i := 24) rfl))) Via.refl F_v_15 E_15 (Or.inr ⟨(hw _ (List.mem_of_getElem? (i := 20) rfl)), rfl, rfl⟩) (hw _ (List.mem_of_getElem? (i := 5) rfl)) (ty := (.array .byte)) (by decide) rfl rfl g_1 rfl fun T17 h17 X17 W17 F17 => ?_
    have F14_18 := Fld.other W17 F14 (Or.inr (slot_ne (C := "java/lang/String") (Or.inr (hw _ (List.mem_of_getElem? (i := 21) rfl))) (Or.inr (hw _ (List.mem_of_getElem? (i := 20) rfl))) (by decide) (t := .byte) (t' := (.array .byte)) (by decide) (by decide)))
    have E_18 := Exa.wr W17 E_15
    have A_18 := A_15.other W17 (Ne.symm ne12)
    have AU_18 := AU_15.other W17 (Ne.symm ne_a1_b3)
    have K_19 : Keep h0 h17 [a1] := K_16.wr W17 (Or.inl (List.mem_of_getElem? (i := 0) rfl))
    exact w_return X17 d3_57 ⟨K_19, Or.inr ⟨b3, E_18, F14_18, F17, AU_18⟩⟩ (by decide) (by decide)
theorem d2_0 : decode jdk_42_method_3_code 0 = .ok (.aload_n 0, 1) := by decide +kernel
theorem d2_1 : decode jdk_42_method_3_code 1 = .ok (.aload_n 1, 1) := by decide +kernel
theorem d2_2 : decode jdk_42_method_3_code 2 = .ok (.iconst 0, 1) := by decide +kernel
theorem d2_3 : decode jdk_42_method_3_code 3 = .ok (.aload_n 1, 1) := by decide +kernel
theorem d2_4 : decode jdk_42_method_3_code 4 = .ok (.arraylength, 1) := by decide +kernel
theorem d2_5 : decode jdk_42_method_3_code 5 = .ok (.aconst_null, 1) := by decide +kernel
theorem d2_6 : decode jdk_42_method_3_code 6 = .ok (.invokespecial 27, 3) := by decide +kernel
theorem d2_9 : decode jdk_42_method_3_code 9 = .ok (.return_, 1) := by decide +kernel
theorem pn_2 : plainFor (⟨"java/lang/String", "<init>", "([C)V"⟩ : MethodName) = true := plainFor_of_name (by first | (simp [plainName, overriddenIn]; done) | decide +kernel)
theorem pd_2 : parseMethodDescriptor "([C)V" = some ⟨[(.array .char)], none⟩ := by decide +kernel
set_option maxRecDepth 65536 in
set_option maxHeartbeats 40000000 in
theorem rm_sc1 {l : Launch} {Z : State} {a0 : Array Value} (hw : ∀ d ∈ tables_1, d.before a0 Z = true) {n0 : Nat} {h0 : Heap} (Z0 : n0 ≤ h0.size) (a1 a2 : Addr) {zc : Int32} (S_c : Sta Z h0 "java/lang/String" "COMPACT_STRINGS" "Z" (.int zc)) (hzc : ¬ zc = (0 : Int32)) {fm : Value} (S_f : Sta Z h0 "jdk/internal/util/Preconditions" "SIOOBE_FORMATTER" "Ljava/util/function/BiFunction;" fm) (hfm : fm.isRef = true) (S_a : Sta Z h0 "java/lang/StringUTF16" "$assertionsDisabled" "Z" (.int 1)) (S_h : Sta Z h0 "java/lang/StringUTF16" "HI_BYTE_SHIFT" "I" (.int 0)) (S_l : Sta Z h0 "java/lang/StringUTF16" "LO_BYTE_SHIFT" "I" (.int 8)) {c0 : Int32} (R0 : own_R c0) {f : Nat → Value} {u1 u2 : Value} (E_1 : Exa Z h0 a1 "java/lang/String") (F_v : Fld Z h0 a1 "java/lang/String" "value" "[B" u1) (F_c : Fld Z h0 a1 "java/lang/String" "coder" "B" u2) (g_1 : n0 ≤ a1) (A_2 : Ary Z h0 a2 .char 1 f) (ne12 : a1 ≠ a2) (hf0 : f 0 = .int c0)  :
    Con l Z n0 (⟨"java/lang/String", "<init>", "([C)V"⟩ : MethodName) jdk_42_method_3_code 2 none ({ frames := 5, cells := 2, slots := 3, locals := 74 } : Room) #[(.ref a1), (.ref a2)] h0 (Non (fun h => Keep h0 h [a1] ∧ StrU Z h a1 [c0])) := by
  refine con_intro pn_2 Z0 (fr := fun m => mkF m 0 #[.val (.ref a1), .val (.ref a2)] []) (fun m => by first | (simp [entryFrame, mkF, argsToLocals, Value.category]; done) | rfl) ?_
  intro p e s m below s₁ hs0 X0
  refine w_aloadN X0 (pc' := 1) d2_0 rfl rfl rfl ?_
  refine w_aloadN X0 (pc' := 2) d2_1 rfl rfl rfl ?_
  refine w_iconst X0 (pc' := 3) (0 : Int32) d2_2 rfl rfl ?_
  refine w_aloadN X0 (pc' := 4) d2_3 rfl rfl rfl ?_
  refine w_arraylength X0 (pc' := 5) (1 : Int32) d2_4 A_2 (by decide) rfl ?_
  refine w_aconst_null X0 (pc' := 6) d2_5 rfl ?_
  refine w_specialN X0 (pc' := 9) d2_6 (rm_sv1 hw (h0 := h0) (sd_size X0) a1 a2 S_c hzc S_f hfm S_a S_h S_l R0 E_1 F_v F_c g_1 A_2 ne12 hf0) (hw _ (List.mem_of_getElem? (i := 11) rfl)) (hw _ (List.mem_of_getElem? (i := 12) rfl)) (hw _ (List.mem_of_getElem? (i := 6) rfl)) (hw _ (List.mem_of_getElem? (i := 14) rfl)) rfl (by decide) [(.ref a2), (.int (0 : Int32)), (.int (1 : Int32)), .null] [] pd_3 rfl rfl rfl rfl 0 (Nat.le_refl _) (by decide) (by decide) (by decide) (by decide) rfl fun T1 h1 X1 q1 => ?_
  obtain ⟨K1, U1⟩ := q1
  have E_2 := E_1.keep K1
  have A_2 := A_2.keep K1 (ninS (Ne.symm ne12) nin0)
  have K_3r : Keep h0 _ [a1] := (Keep.refl h0 [a1])
  have K_3 : Keep h0 h1 [a1] := K_3r.trans K1 (allS (Or.inl (List.mem_of_getElem? (i := 0) rfl)) all0)
  exact w_return X1 d2_9 ⟨K_3, U1⟩ (by decide) (by decide)
theorem d1_0 : decode method_3_code 0 = .ok (.iload_n 0, 1) := by decide +kernel
theorem d1_1 : decode method_3_code 1 = .ok (.ifCond .ne 14, 3) := by decide +kernel
theorem d1_4 : decode method_3_code 4 = .ok (.new 23, 3) := by decide +kernel
theorem d1_7 : decode method_3_code 7 = .ok (.dup, 1) := by decide +kernel
theorem d1_8 : decode method_3_code 8 = .ok (.iconst 0, 1) := by decide +kernel
theorem d1_9 : decode method_3_code 9 = .ok (.newarray .char, 2) := by decide +kernel
theorem d1_11 : decode method_3_code 11 = .ok (.invokespecial 25, 3) := by decide +kernel
theorem d1_14 : decode method_3_code 14 = .ok (.areturn, 1) := by decide +kernel
theorem d1_15 : decode method_3_code 15 = .ok (.iload_n 0, 1) := by decide +kernel
theorem d1_16 : decode method_3_code 16 = .ok (.iconst 1, 1) := by decide +kernel
theorem d1_17 : decode method_3_code 17 = .ok (.if_icmp .ne 18, 3) := by decide +kernel
theorem d1_20 : decode method_3_code 20 = .ok (.new 23, 3) := by decide +kernel
theorem d1_23 : decode method_3_code 23 = .ok (.dup, 1) := by decide +kernel
theorem d1_24 : decode method_3_code 24 = .ok (.iconst 1, 1) := by decide +kernel
theorem d1_25 : decode method_3_code 25 = .ok (.newarray .char, 2) := by decide +kernel
theorem d1_27 : decode method_3_code 27 = .ok (.dup, 1) := by decide +kernel
theorem d1_28 : decode method_3_code 28 = .ok (.iconst 0, 1) := by decide +kernel
theorem d1_29 : decode method_3_code 29 = .ok (.iload_n 1, 1) := by decide +kernel
theorem d1_30 : decode method_3_code 30 = .ok (.castore, 1) := by decide +kernel
theorem d1_31 : decode method_3_code 31 = .ok (.invokespecial 25, 3) := by decide +kernel
theorem d1_34 : decode method_3_code 34 = .ok (.areturn, 1) := by decide +kernel
theorem d1_35 : decode method_3_code 35 = .ok (.iload_n 0, 1) := by decide +kernel
theorem d1_36 : decode method_3_code 36 = .ok (.iconst 2, 1) := by decide +kernel
theorem d1_37 : decode method_3_code 37 = .ok (.if_icmp .ne 22, 3) := by decide +kernel
theorem d1_40 : decode method_3_code 40 = .ok (.new 23, 3) := by decide +kernel
theorem d1_43 : decode method_3_code 43 = .ok (.dup, 1) := by decide +kernel
theorem d1_44 : decode method_3_code 44 = .ok (.iconst 2, 1) := by decide +kernel
theorem d1_45 : decode method_3_code 45 = .ok (.newarray .char, 2) := by decide +kernel
theorem d1_47 : decode method_3_code 47 = .ok (.dup, 1) := by decide +kernel
theorem d1_48 : decode method_3_code 48 = .ok (.iconst 0, 1) := by decide +kernel
theorem d1_49 : decode method_3_code 49 = .ok (.iload_n 1, 1) := by decide +kernel
theorem d1_50 : decode method_3_code 50 = .ok (.castore, 1) := by decide +kernel
theorem d1_51 : decode method_3_code 51 = .ok (.dup, 1) := by decide +kernel
theorem d1_52 : decode method_3_code 52 = .ok (.iconst 1, 1) := by decide +kernel
theorem d1_53 : decode method_3_code 53 = .ok (.iload_n 2, 1) := by decide +kernel
theorem d1_54 : decode method_3_code 54 = .ok (.castore, 1) := by decide +kernel
theorem d1_55 : decode method_3_code 55 = .ok (.invokespecial 25, 3) := by decide +kernel
theorem d1_58 : decode method_3_code 58 = .ok (.areturn, 1) := by decide +kernel
theorem d1_59 : decode method_3_code 59 = .ok (.iload_n 0, 1) := by decide +kernel
theorem d1_60 : decode method_3_code 60 = .ok (.iconst 3, 1) := by decide +kernel
theorem d1_61 : decode method_3_code 61 = .ok (.if_icmp .ne 26, 3) := by decide +kernel
theorem d1_64 : decode method_3_code 64 = .ok (.new 23, 3) := by decide +kernel
theorem d1_67 : decode method_3_code 67 = .ok (.dup, 1) := by decide +kernel
theorem d1_68 : decode method_3_code 68 = .ok (.iconst 3, 1) := by decide +kernel
theorem d1_69 : decode method_3_code 69 = .ok (.newarray .char, 2) := by decide +kernel
theorem d1_71 : decode method_3_code 71 = .ok (.dup, 1) := by decide +kernel
theorem d1_72 : decode method_3_code 72 = .ok (.iconst 0, 1) := by decide +kernel
theorem d1_73 : decode method_3_code 73 = .ok (.iload_n 1, 1) := by decide +kernel
theorem d1_74 : decode method_3_code 74 = .ok (.castore, 1) := by decide +kernel
theorem d1_75 : decode method_3_code 75 = .ok (.dup, 1) := by decide +kernel
theorem d1_76 : decode method_3_code 76 = .ok (.iconst 1, 1) := by decide +kernel
theorem d1_77 : decode method_3_code 77 = .ok (.iload_n 2, 1) := by decide +kernel
theorem d1_78 : decode method_3_code 78 = .ok (.castore, 1) := by decide +kernel
theorem d1_79 : decode method_3_code 79 = .ok (.dup, 1) := by decide +kernel
theorem d1_80 : decode method_3_code 80 = .ok (.iconst 2, 1) := by decide +kernel
theorem d1_81 : decode method_3_code 81 = .ok (.iload_n 3, 1) := by decide +kernel
theorem d1_82 : decode method_3_code 82 = .ok (.castore, 1) := by decide +kernel
theorem d1_83 : decode method_3_code 83 = .ok (.invokespecial 25, 3) := by decide +kernel
theorem d1_86 : decode method_3_code 86 = .ok (.areturn, 1) := by decide +kernel
theorem d1_87 : decode method_3_code 87 = .ok (.new 23, 3) := by decide +kernel
theorem d1_90 : decode method_3_code 90 = .ok (.dup, 1) := by decide +kernel
theorem d1_91 : decode method_3_code 91 = .ok (.iconst 4, 1) := by decide +kernel
theorem d1_92 : decode method_3_code 92 = .ok (.newarray .char, 2) := by decide +kernel
theorem d1_94 : decode method_3_code 94 = .ok (.dup, 1) := by decide +kernel
theorem d1_95 : decode method_3_code 95 = .ok (.iconst 0, 1) := by decide +kernel
theorem d1_96 : decode method_3_code 96 = .ok (.iload_n 1, 1) := by decide +kernel
theorem d1_97 : decode method_3_code 97 = .ok (.castore, 1) := by decide +kernel
theorem d1_98 : decode method_3_code 98 = .ok (.dup, 1) := by decide +kernel
theorem d1_99 : decode method_3_code 99 = .ok (.iconst 1, 1) := by decide +kernel
theorem d1_100 : decode method_3_code 100 = .ok (.iload_n 2, 1) := by decide +kernel
theorem d1_101 : decode method_3_code 101 = .ok (.castore, 1) := by decide +kernel
theorem d1_102 : decode method_3_code 102 = .ok (.dup, 1) := by decide +kernel
theorem d1_103 : decode method_3_code 103 = .ok (.iconst 2, 1) := by decide +kernel
theorem d1_104 : decode method_3_code 104 = .ok (.iload_n 3, 1) := by decide +kernel
theorem d1_105 : decode method_3_code 105 = .ok (.castore, 1) := by decide +kernel
theorem d1_106 : decode method_3_code 106 = .ok (.dup, 1) := by decide +kernel
theorem d1_107 : decode method_3_code 107 = .ok (.iconst 3, 1) := by decide +kernel
theorem d1_108 : decode method_3_code 108 = .ok (.iload 4, 2) := by decide +kernel
theorem d1_110 : decode method_3_code 110 = .ok (.castore, 1) := by decide +kernel
theorem d1_111 : decode method_3_code 111 = .ok (.invokespecial 25, 3) := by decide +kernel
theorem d1_114 : decode method_3_code 114 = .ok (.areturn, 1) := by decide +kernel
theorem pn_1 : plainFor (⟨"com/example/admitwire/admitwire/core/TimestampDigitsPinLaw", "make", "(ICCCC)Ljava/lang/String;"⟩ : MethodName) = true := plainFor_of_name (by first | (simp [plainName, overriddenIn]; done) | decide +kernel)
theorem pd_1 : parseMethodDescriptor "(ICCCC)Ljava/lang/String;" = some ⟨[.int, .char, .char, .char, .char], some (.object "java/lang/String")⟩ := by decide +kernel
set_option maxRecDepth 65536 in
set_option maxHeartbeats 40000000 in
theorem rm_mk1 {l : Launch} {Z : State} {a0 : Array Value} (hw : ∀ d ∈ tables_1, d.before a0 Z = true) {n0 : Nat} {h0 : Heap} (Z0 : n0 ≤ h0.size) (c0 c1 c2 c3 : Int32) {zc : Int32} (S_c : Sta Z h0 "java/lang/String" "COMPACT_STRINGS" "Z" (.int zc)) (hzc : ¬ zc = (0 : Int32)) {fm : Value} (S_f : Sta Z h0 "jdk/internal/util/Preconditions" "SIOOBE_FORMATTER" "Ljava/util/function/BiFunction;" fm) (hfm : fm.isRef = true) (S_a : Sta Z h0 "java/lang/StringUTF16" "$assertionsDisabled" "Z" (.int 1)) (S_h : Sta Z h0 "java/lang/StringUTF16" "HI_BYTE_SHIFT" "I" (.int 0)) (S_l : Sta Z h0 "java/lang/StringUTF16" "LO_BYTE_SHIFT" "I" (.int 8)) (R0 : own_R c0) (R1 : own_R c1) (R2 : own_R c2) (R3 : own_R c3) :
    Con l Z n0 (⟨"com/example/admitwire/admitwire/core/TimestampDigitsPinLaw", "make", "(ICCCC)Ljava/lang/String;"⟩ : MethodName) method_3_code 5 (some (.object "java/lang/String")) ({ frames := 6, cells := 4, slots := 8, locals := 88 } : Room) #[(.int (1 : Int32)), (.int c0), (.int c1), (.int c2), (.int c3)] h0 (Val (fun v h => ∃ b : Addr, v = .ref b ∧ Ext h0 h ∧ StrU Z h b [c0])) := by
  refine con_intro pn_1 Z0 (fr := fun m => mkF m 0 #[.val (.int (1 : Int32)), .val (.int c0), .val (.int c1), .val (.int c2), .val (.int c3)] []) (fun m => by first | (simp [entryFrame, mkF, argsToLocals, Value.category]; done) | rfl) ?_
  intro p e s m below s₁ hs0 X0
  refine w_iloadN X0 (pc' := 1) d1_0 rfl rfl ?_
  refine w_if_ne X0 15 4 d1_1 (by decide) rfl rfl (fun hc1 => ?_) (fun hc1 => by exfalso; revert hc1; decide)
  refine w_iloadN X0 (pc' := 16) d1_15 rfl rfl ?_
  refine w_iconst X0 (pc' := 17) (1 : Int32) d1_16 rfl rfl ?_
  refine w_icmp_ne X0 35 20 d1_17 (by decide) rfl rfl (fun hc17 => by exfalso; revert hc17; decide) (fun hc17 => ?_)
  refine w_new X0 (pc' := 23) d1_20 (hw _ (List.mem_of_getElem? (i := 4) rfl)) (hw _ (List.mem_of_getElem? (i := 5) rfl)) (hw _ (List.mem_of_getElem? (i := 6) rfl)) (by decide) (by decide) rfl fun T1 h1 b1 g1 gn1 X1 E1 A1 D1 => ?_
  have K_b1 : Keep h0 _ [] := (Keep.refl h0 [])
  have sz_b1 : h0.size ≤ b1 := sz_fresh g1 K_b1
  have K_3 : Keep h0 h1 [] := K_b1.ext E1
  have Fvalue_1 : Fld Z h1 b1 "java/lang/String" "value" "[B" .null := D1 (Or.inr (hw _ (List.mem_of_getElem? (i := 20) rfl))) (ty := (.array .byte)) (by decide)
  have Fcoder_1 : Fld Z h1 b1 "java/lang/String" "coder" "B" (.int (0 : Int32)) := D1 (Or.inr (hw _ (List.mem_of_getElem? (i := 21) rfl))) (ty := .byte) (by decide)
  refine w_dup X1 (pc' := 24) d1_23 rfl rfl ?_
  refine w_iconst X1 (pc' := 25) (1 : Int32) d1_24 rfl rfl ?_
  refine w_newarray X1 (pc' := 27) 1 1 d1_25 (hw _ (List.mem_of_getElem? (i := 7) rfl)) (by decide) (by decide) (by decide) (by decide) (by decide) rfl fun T4 h4 b4 g4 gn4 X4 E4 A4 => ?_
  have ne_b1_b4 : b1 ≠ b4 := ne_new g4 Fvalue_1.lt
  have sz_b4 : h0.size ≤ b4 := sz_fresh g4 K_3
  have Fvalue_5 := Fld.ext E4 Fvalue_1
  have Fcoder_5 := Fld.ext E4 Fcoder_1
  have A1_5 := Exa.ext E4 A1
  have K_6 : Keep h0 h4 [] := K_3.ext E4
  replace A4 : Ary Z h4 b4 .char 1 (fun _ => (.int (0 : Int32))) := A4
  refine w_dup X4 (pc' := 28) d1_27 rfl rfl ?_
  refine w_iconst X4 (pc' := 29) (0 : Int32) d1_28 rfl rfl ?_
  refine w_iloadN X4 (pc' := 30) d1_29 rfl rfl ?_
  refine w_castore X4 (pc' := 31) 0 d1_30 A4 (by decide) (by decide) gn4 rfl fun T7 h7 X7 W7 A7 => ?_
  have Fvalue_8 := Fld.other W7 Fvalue_5 (Or.inl ne_b1_b4)
  have Fcoder_8 := Fld.other W7 Fcoder_5 (Or.inl ne_b1_b4)
  have A1_8 := Exa.wr W7 A1_5
  have K_9 : Keep h0 h7 [] := K_6.wr W7 (Or.inr sz_b4)
  have hf0 : (upd (fun _ => (.int (0 : Int32))) 0 (.int (nar .char c0))) 0 = .int c0 := by show Value.int (nar .char c0) = _; exact congrArg Value.int (own_i2c R0)
  refine w_specialN X7 (pc' := 34) d1_31 (rm_sc1 hw (h0 := h7) (sd_size X7) b1 b4 (Sta.ext (kext K_9) S_c) hzc (Sta.ext (kext K_9) S_f) hfm (Sta.ext (kext K_9) S_a) (Sta.ext (kext K_9) S_h) (Sta.ext (kext K_9) S_l) R0 A1_8 Fvalue_8 Fcoder_8 gn1 A7 ne_b1_b4 hf0) (hw _ (List.mem_of_getElem? (i := 8) rfl)) (hw _ (List.mem_of_getElem? (i := 9) rfl)) (hw _ (List.mem_of_getElem? (i := 6) rfl)) (hw _ (List.mem_of_getElem? (i := 10) rfl)) rfl (by decide) [(.ref b4)] [(.ref b1)] pd_2 rfl rfl rfl rfl 1 (Nat.le_refl _) (by decide) (by decide) (by decide) (by decide) rfl fun T10 h10 X10 q10 => ?_
  obtain ⟨K10, U10⟩ := q10
  have A1_11 := A1_8.keep K10
  have A7_11 := A7.keep K10 (ninS (Ne.symm ne_b1_b4) nin0)
  have K_12 : Keep h0 h10 [] := K_9.trans K10 (allS (Or.inr sz_b1) all0)
  exact w_areturn X10 d1_34 rfl rfl rfl ⟨_, rfl, kext K_12, U10⟩ (by decide) (by decide)
theorem own_lu2 (f : Nat → Value) (c0 c1 : Int32) (i : Nat) (hi : i < 2) : (upd (upd f 0 (.int (nar .byte c0.toInt8.toInt32))) 1 (.int (nar .byte c1.toInt8.toInt32))) i = .int ([c0, c1].getD i 0).toInt8.toInt32 := by
  have : i = 0 ∨ i = 1 := by omega
  rcases this with rfl | rfl
  · rw [upd_other _ _ (by decide)]; exact (upd_same _ _ _).trans (congrArg Value.int (own_i8 c0))
  · exact (upd_same _ _ _).trans (congrArg Value.int (own_i8 c1))
theorem own_all2 {c0 c1 : Int32} (hk0 : ¬ (255 : Int32) < c0) (hk1 : ¬ (255 : Int32) < c1) : ∀ i, i < 2 → ¬ (255 : Int32) < [c0, c1].getD i 0 := fun i hi => by
  have : i = 0 ∨ i = 1 := by omega
  rcases this with rfl | rfl
  · exact hk0
  · exact hk1
set_option maxRecDepth 65536 in
set_option maxHeartbeats 40000000 in
theorem rm_cmI2 {l : Launch} {Z : State} {a0 : Array Value} (hw : ∀ d ∈ tables_1, d.before a0 Z = true) {n0 : Nat} {h0 : Heap} (Z0 : n0 ≤ h0.size) (a1 a3 : Addr) {f f3 : Nat → Value} {c0 c1 : Int32} (A_1 : Ary Z h0 a1 .char 2 f) (A_3 : Ary Z h0 a3 .byte 2 f3) (ne13 : a1 ≠ a3) (g_3 : n0 ≤ a3) (hf0 : f 0 = .int c0) (hf1 : f 1 = .int c1)  :
    Con l Z n0 (⟨"java/lang/StringUTF16", "compress", "([CI[BII)I"⟩ : MethodName) jdk_52_method_21_code 7 (some .int) ({ frames := 0, cells := 0, slots := 0, locals := 0 } : Room) #[(.ref a1), (.int (0 : Int32)), (.ref a3), (.int (0 : Int32)), (.int (2 : Int32))] h0 (Val (fun v h => Keep h0 h [a3] ∧ ((v = .int 2 ∧ (∀ i, i < 2 → ¬ (255 : Int32) < [c0, c1].getD i 0) ∧ Ary Z h a3 .byte 2 (fun i => .int ([c0, c1].getD i 0).toInt8.toInt32)) ∨ (v = .int 0 ∧ (255 : Int32) < c0) ∨ (v = .int 1 ∧ (255 : Int32) < c1)))) := by
  refine con_intro pn_11 Z0 (fr := fun m => mkF m 0 #[.val (.ref a1), .val (.int (0 : Int32)), .val (.ref a3), .val (.int (0 : Int32)), .val (.int (2 : Int32)), .unset, .unset] []) (fun m => by first | (simp [entryFrame, mkF, argsToLocals, Value.category]; done) | rfl) ?_
  intro p e s m below s₁ hs0 X0
  refine w_iconst X0 (pc' := 1) (0 : Int32) d11_0 rfl rfl ?_
  refine w_istore X0 (pc' := 3) (l' := #[.val (.ref a1), .val (.int (0 : Int32)), .val (.ref a3), .val (.int (0 : Int32)), .val (.int (2 : Int32)), .val (.int (0 : Int32)), .unset]) d11_1 rfl rfl ?_
  refine w_iload X0 (pc' := 5) d11_3 rfl rfl ?_
  refine w_iload X0 (pc' := 7) d11_5 rfl rfl ?_
  refine w_icmp_ge X0 44 10 d11_7 (by decide) rfl rfl (fun hc7 => by exfalso; revert hc7; decide) (fun hc7 => ?_)
  refine w_aloadN X0 (pc' := 11) d11_10 rfl rfl rfl ?_
  refine w_iloadN X0 (pc' := 12) d11_11 rfl rfl ?_
  refine w_caload X0 (pc' := 13) 0 (v := (.int c0)) d11_12 A_1 (by decide) (by decide) hf0 rfl ?_
  refine w_istore X0 (pc' := 15) (l' := #[.val (.ref a1), .val (.int (0 : Int32)), .val (.ref a3), .val (.int (0 : Int32)), .val (.int (2 : Int32)), .val (.int (0 : Int32)), .val (.int c0)]) d11_13 rfl rfl ?_
  refine w_iload X0 (pc' := 17) d11_15 rfl rfl ?_
  refine w_sipush X0 (pc' := 20) (255 : Int32) d11_17 rfl rfl ?_
  refine w_icmp_le X0 26 23 d11_20 (by decide) rfl rfl (fun hc20 => ?_) (fun hc20 => ?_)
  · skip
    have hk0 := hc20
    refine w_aloadN X0 (pc' := 27) d11_26 rfl rfl rfl ?_
    refine w_iloadN X0 (pc' := 28) d11_27 rfl rfl ?_
    refine w_iload X0 (pc' := 30) d11_28 rfl rfl ?_
    refine w_i2b X0 (pc' := 31) d11_30 rfl ?_
    refine w_bastore X0 (pc' := 32) 0 d11_31 A_3 (by decide) (by decide) g_3 rfl fun T1 h1 X1 W1 A1 => ?_
    have A_2 := A_1.other W1 ne13
    have K_3r : Keep h0 _ [a3] := (Keep.refl h0 [a3])
    have K_3 : Keep h0 h1 [a3] := K_3r.wr W1 (Or.inl (List.mem_of_getElem? (i := 0) rfl))
    refine w_iinc X1 (pc' := 35) ((0 : Int32) + (1 : Int32)) (l' := #[.val (.ref a1), .val (.int ((0 : Int32) + (1 : Int32))), .val (.ref a3), .val (.int (0 : Int32)), .val (.int (2 : Int32)), .val (.int (0 : Int32)), .val (.int c0)]) d11_32 rfl rfl rfl rfl ?_
    refine w_iinc X1 (pc' := 38) ((0 : Int32) + (1 : Int32)) (l' := #[.val (.ref a1), .val (.int ((0 : Int32) + (1 : Int32))), .val (.ref a3), .val (.int ((0 : Int32) + (1 : Int32))), .val (.int (2 : Int32)), .val (.int (0 : Int32)), .val (.int c0)]) d11_35 rfl rfl rfl rfl ?_
    refine w_iinc X1 (pc' := 41) ((0 : Int32) + (1 : Int32)) (l' := #[.val (.ref a1), .val (.int ((0 : Int32) + (1 : Int32))), .val (.ref a3), .val (.int ((0 : Int32) + (1 : Int32))), .val (.int (2 : Int32)), .val (.int ((0 : Int32) + (1 : Int32))), .val (.int c0)]) d11_38 rfl rfl rfl rfl ?_
    refine w_goto X1 (pc' := 3) d11_41 (by decide) rfl ?_
    refine w_iload X1 (pc' := 5) d11_3 rfl rfl ?_
    refine w_iload X1 (pc' := 7) d11_5 rfl rfl ?_
    refine w_icmp_ge X1 44 10 d11_7 (by decide) rfl rfl (fun hc7 => by exfalso; revert hc7; decide) (fun hc7 => ?_)
    refine w_aloadN X1 (pc' := 11) d11_10 rfl rfl rfl ?_
    refine w_iloadN X1 (pc' := 12) d11_11 rfl rfl ?_
    refine w_caload X1 (pc' := 13) 1 (v := (.int c1)) d11_12 A_2 (by decide) (by decide) hf1 rfl ?_
    refine w_istore X1 (pc' := 15) (l' := #[.val (.ref a1), .val (.int ((0 : Int32) + (1 : Int32))), .val (.ref a3), .val (.int ((0 : Int32) + (1 : Int32))), .val (.int (2 : Int32)), .val (.int ((0 : Int32) + (1 : Int32))), .val (.int c1)]) d11_13 rfl rfl ?_
    refine w_iload X1 (pc' := 17) d11_15 rfl rfl ?_
    refine w_sipush X1 (pc' := 20) (255 : Int32) d11_17 rfl rfl ?_
    refine w_icmp_le X1 26 23 d11_20 (by decide) rfl rfl (fun hc20 => ?_) (fun hc20 => ?_)
    · skip
      have hk1 := hc20
      refine w_aloadN X1 (pc' := 27) d11_26 rfl rfl rfl ?_
      refine w_iloadN X1 (pc' := 28) d11_27 rfl rfl ?_
      refine w_iload X1 (pc' := 30) d11_28 rfl rfl ?_
      refine w_i2b X1 (pc' := 31) d11_30 rfl ?_
      refine w_bastore X1 (pc' := 32) 1 d11_31 A1 (by decide) (by decide) g_3 rfl fun T4 h4 X4 W4 A4 => ?_
      have A_5 := A_2.other W4 ne13
      have K_6 : Keep h0 h4 [a3] := K_3.wr W4 (Or.inl (List.mem_of_getElem? (i := 0) rfl))
      refine w_iinc X4 (pc' := 35) (((0 : Int32) + (1 : Int32)) + (1 : Int32)) (l' := #[.val (.ref a1), .val (.int (((0 : Int32) + (1 : Int32)) + (1 : Int32))), .val (.ref a3), .val (.int ((0 : Int32) + (1 : Int32))), .val (.int (2 : Int32)), .val (.int ((0 : Int32) + (1 : Int32))), .val (.int c1)]) d11_32 rfl rfl rfl rfl ?_
      refine w_iinc X4 (pc' := 38) (((0 : Int32) + (1 : Int32)) + (1 : Int32)) (l' := #[.val (.ref a1), .val (.int (((0 : Int32) + (1 : Int32)) + (1 : Int32))), .val (.ref a3), .val (.int (((0 : Int32) + (1 : Int32)) + (1 : Int32))), .val (.int (2 : Int32)), .val (.int ((0 : Int32) + (1 : Int32))), .val (.int c1)]) d11_35 rfl rfl rfl rfl ?_
      refine w_iinc X4 (pc' := 41) (((0 : Int32) + (1 : Int32)) + (1 : Int32)) (l' := #[.val (.ref a1), .val (.int (((0 : Int32) + (1 : Int32)) + (1 : Int32))), .val (.ref a3), .val (.int (((0 : Int32) + (1 : Int32)) + (1 : Int32))), .val (.int (2 : Int32)), .val (.int (((0 : Int32) + (1 : Int32)) + (1 : Int32))), .val (.int c1)]) d11_38 rfl rfl rfl rfl ?_
      refine w_goto X4 (pc' := 3) d11_41 (by decide) rfl ?_
      refine w_iload X4 (pc' := 5) d11_3 rfl rfl ?_
      refine w_iload X4 (pc' := 7) d11_5 rfl rfl ?_
      refine w_icmp_ge X4 44 10 d11_7 (by decide) rfl rfl (fun hc7 => ?_) (fun hc7 => by exfalso; revert hc7; decide)
      refine w_iload X4 (pc' := 46) d11_44 rfl rfl ?_
      exact w_ireturn X4 d11_46 ⟨K_6, Or.inl ⟨rfl, own_all2 hk0 hk1, A4.congr (own_lu2 f3 c0 c1)⟩⟩ (by decide) (by decide)
    · skip
      refine w_iload X1 (pc' := 25) d11_23 rfl rfl ?_
      exact w_ireturn X1 d11_25 ⟨K_3, Or.inr (Or.inr (⟨rfl, hc20⟩))⟩ (by decide) (by decide)
  · skip
    refine w_iload X0 (pc' := 25) d11_23 rfl rfl ?_
    have Kr : Keep h0 h0 [a3] := (Keep.refl h0 [a3])
    exact w_ireturn X0 d11_25 ⟨Kr, Or.inr (Or.inl ⟨rfl, hc20⟩)⟩ (by decide) (by decide)
set_option maxRecDepth 65536 in
set_option maxHeartbeats 40000000 in
theorem rm_nbl2 {l : Launch} {Z : State} {a0 : Array Value} (hw : ∀ d ∈ tables_1, d.before a0 Z = true) {n0 : Nat} {h0 : Heap} (Z0 : n0 ≤ h0.size)   :
    Con l Z n0 (⟨"java/lang/StringUTF16", "newBytesLength", "(I)I"⟩ : MethodName) jdk_52_method_3_code 1 (some .int) ({ frames := 0, cells := 0, slots := 0, locals := 0 } : Room) #[(.int (2 : Int32))] h0 (Val (fun v h => v = .int 4 ∧ h0 = h)) := by
  refine con_intro pn_20 Z0 (fr := fun m => mkF m 0 #[.val (.int (2 : Int32))] []) (fun m => by first | (simp [entryFrame, mkF, argsToLocals, Value.category]; done) | rfl) ?_
  intro p e s m below s₁ hs0 X0
  refine w_iloadN X0 (pc' := 1) d20_0 rfl rfl ?_
  refine w_if_ge X0 12 4 d20_1 (by decide) rfl rfl (fun hc1 => ?_) (fun hc1 => by exfalso; revert hc1; decide)
  refine w_iloadN X0 (pc' := 13) d20_12 rfl rfl ?_
  refine w_ldc X0 (pc' := 15) d20_13 (hw _ (List.mem_of_getElem? (i := 88) rfl)) rfl ?_
  refine w_icmp_lt X0 55 18 d20_15 (by decide) rfl rfl (fun hc15 => ?_) (fun hc15 => by exfalso; revert hc15; decide)
  refine w_iloadN X0 (pc' := 56) d20_55 rfl rfl ?_
  refine w_iconst X0 (pc' := 57) (1 : Int32) d20_56 rfl rfl ?_
  refine w_ishl X0 (pc' := 58) d20_57 rfl ?_
  exact w_ireturn X0 d20_58 ⟨by decide, rfl⟩ (by decide) (by decide)
set_option maxRecDepth 65536 in
set_option maxHeartbeats 40000000 in
theorem rm_nbf2 {l : Launch} {Z : State} {a0 : Array Value} (hw : ∀ d ∈ tables_1, d.before a0 Z = true) {n0 : Nat} {h0 : Heap} (Z0 : n0 ≤ h0.size)   :
    Con l Z n0 (⟨"java/lang/StringUTF16", "newBytesFor", "(I)[B"⟩ : MethodName) jdk_52_method_2_code 1 (some (.array .byte)) ({ frames := 1, cells := 1, slots := 4, locals := 12 } : Room) #[(.int (2 : Int32))] h0 (Val (fun v h => ∃ b : Addr, v = .ref b ∧ b = h0.size ∧ n0 ≤ b ∧ Ext h0 h ∧ Ary Z h b .byte 4 (fun _ => .int (0 : Int32)))) := by
  refine con_intro pn_19 Z0 (fr := fun m => mkF m 0 #[.val (.int (2 : Int32))] []) (fun m => by first | (simp [entryFrame, mkF, argsToLocals, Value.category]; done) | rfl) ?_
  intro p e s m below s₁ hs0 X0
  refine w_iloadN X0 (pc' := 1) d19_0 rfl rfl ?_
  refine w_staticV X0 (pc' := 4) d19_1 (rm_nbl2 hw (h0 := h0) (sd_size X0)) (hw _ (List.mem_of_getElem? (i := 85) rfl)) (hw _ (List.mem_of_getElem? (i := 86) rfl)) (hw _ (List.mem_of_getElem? (i := 49) rfl)) (hw _ (List.mem_of_getElem? (i := 87) rfl)) (by decide) [(.int (2 : Int32))] [] pd_20 rfl rfl rfl rfl 0 (Nat.le_refl _) (by decide) (by decide) (by decide) (by decide) rfl fun T1 h1 v1 X1 q1 => ?_
  obtain ⟨rfl, rfl⟩ := q1
  refine w_newarray X1 (pc' := 6) 4 4 d19_4 (hw _ (List.mem_of_getElem? (i := 19) rfl)) (by decide) (by decide) (by decide) (by decide) (by decide) rfl fun T2 h2 b2 g2 gn2 X2 E2 A2 => ?_
  have K_b2 : Keep h0 _ [] := (Keep.refl h0 [])
  have sz_b2 : h0.size ≤ b2 := sz_fresh g2 K_b2
  have K_4 : Keep h0 h2 [] := K_b2.ext E2
  replace A2 : Ary Z h2 b2 .byte 4 (fun _ => (.int (0 : Int32))) := A2
  exact w_areturn X2 d19_6 rfl rfl rfl ⟨_, rfl, g2, gn2, kext K_4, A2⟩ (by decide) (by decide)
set_option maxRecDepth 65536 in
set_option maxHeartbeats 40000000 in
theorem rm_put2_0 {l : Launch} {Z : State} {a0 : Array Value} (hw : ∀ d ∈ tables_1, d.before a0 Z = true) {n0 : Nat} {h0 : Heap} (Z0 : n0 ≤ h0.size) (a1 : Addr) (p3 : Int32) {zc : Int32} (S_c : Sta Z h0 "java/lang/String" "COMPACT_STRINGS" "Z" (.int zc)) (hzc : ¬ zc = (0 : Int32)) {fm : Value} (S_f : Sta Z h0 "jdk/internal/util/Preconditions" "SIOOBE_FORMATTER" "Ljava/util/function/BiFunction;" fm) (hfm : fm.isRef = true) (S_a : Sta Z h0 "java/lang/StringUTF16" "$assertionsDisabled" "Z" (.int 1)) (S_h : Sta Z h0 "java/lang/StringUTF16" "HI_BYTE_SHIFT" "I" (.int 0)) (S_l : Sta Z h0 "java/lang/StringUTF16" "LO_BYTE_SHIFT" "I" (.int 8)) {f : Nat → Value} (A_1 : Ary Z h0 a1 .byte 4 f) (g_1 : n0 ≤ a1) :
    Con l Z n0 (⟨"java/lang/StringUTF16", "putChar", "([BII)V"⟩ : MethodName) jdk_52_method_4_code 3 none ({ frames := 0, cells := 0, slots := 0, locals := 0 } : Room) #[(.ref a1), (.int (0 : Int32)), (.int p3)] h0 (Non (fun h => Keep h0 h [a1] ∧ Ary Z h a1 .byte 4 (upd (upd f 0 (.int p3.toInt8.toInt32)) 1 (.int (p3 >>> ((8 : Int32) &&& 31)).toInt8.toInt32)))) := by
  refine con_intro pn_21 Z0 (fr := fun m => mkF m 0 #[.val (.ref a1), .val (.int (0 : Int32)), .val (.int p3)] []) (fun m => by first | (simp [entryFrame, mkF, argsToLocals, Value.category]; done) | rfl) ?_
  intro p e s m below s₁ hs0 X0
  refine w_getstatic X0 (pc' := 3) d21_0 (host := "") (Or.inl (hw _ (List.mem_of_getElem? (i := 92) rfl))) Via.refl S_a rfl fun T1 X1 => ?_
  refine w_if_ne X1 28 6 d21_3 (by decide) rfl rfl (fun hc3 => ?_) (fun hc3 => by exfalso; revert hc3; decide)
  refine w_iloadN X1 (pc' := 29) d21_28 rfl rfl ?_
  refine w_iconst X1 (pc' := 30) (1 : Int32) d21_29 rfl rfl ?_
  refine w_ishl X1 (pc' := 31) d21_30 rfl ?_
  rw [show ((0 : Int32) <<< ((1 : Int32) &&& 31)) = (0 : Int32) from by decide]
  show Go p e below _ (T1.setTop (mkF m 31 #[.val (.ref a1), .val (.int (0 : Int32)), .val (.int p3)] [(.int (0 : Int32))]))
  refine w_istoreN X1 (pc' := 32) (l' := #[.val (.ref a1), .val (.int (0 : Int32)), .val (.int p3)]) d21_31 rfl rfl ?_
  refine w_aloadN X1 (pc' := 33) d21_32 rfl rfl rfl ?_
  refine w_iloadN X1 (pc' := 34) d21_33 rfl rfl ?_
  refine w_iinc X1 (pc' := 37) ((0 : Int32) + (1 : Int32)) (l' := #[.val (.ref a1), .val (.int ((0 : Int32) + (1 : Int32))), .val (.int p3)]) d21_34 rfl rfl rfl rfl ?_
  refine w_iloadN X1 (pc' := 38) d21_37 rfl rfl ?_
  refine w_getstatic X1 (pc' := 41) d21_38 (host := "") (Or.inl (hw _ (List.mem_of_getElem? (i := 93) rfl))) Via.refl S_h rfl fun T2 X2 => ?_
  refine w_ishr X2 (pc' := 42) d21_41 rfl ?_
  refine w_i2b X2 (pc' := 43) d21_42 rfl ?_
  refine w_bastore X2 (pc' := 44) 0 d21_43 A_1 (by decide) (by decide) g_1 rfl fun T3 h3 X3 W3 A3 => ?_
  have S_a_4 := Sta.wr W3 S_a
  have S_h_4 := Sta.wr W3 S_h
  have S_l_4 := Sta.wr W3 S_l
  have K_5r : Keep h0 _ [a1] := (Keep.refl h0 [a1])
  have K_5 : Keep h0 h3 [a1] := K_5r.wr W3 (Or.inl (List.mem_of_getElem? (i := 0) rfl))
  refine w_aloadN X3 (pc' := 45) d21_44 rfl rfl rfl ?_
  refine w_iloadN X3 (pc' := 46) d21_45 rfl rfl ?_
  refine w_iloadN X3 (pc' := 47) d21_46 rfl rfl ?_
  refine w_getstatic X3 (pc' := 50) d21_47 (host := "") (Or.inl (hw _ (List.mem_of_getElem? (i := 94) rfl))) Via.refl S_l_4 rfl fun T6 X6 => ?_
  refine w_ishr X6 (pc' := 51) d21_50 rfl ?_
  refine w_i2b X6 (pc' := 52) d21_51 rfl ?_
  refine w_bastore X6 (pc' := 53) 1 d21_52 A3 (by decide) (by decide) g_1 rfl fun T7 h7 X7 W7 A7 => ?_
  have S_a_8 := Sta.wr W7 S_a_4
  have S_h_8 := Sta.wr W7 S_h_4
  have S_l_8 := Sta.wr W7 S_l_4
  have K_9 : Keep h0 h7 [a1] := K_5.wr W7 (Or.inl (List.mem_of_getElem? (i := 0) rfl))
  have Ap := A7
  rw [own_pc1, own_pc2] at Ap
  exact w_return X7 d21_53 ⟨K_9, Ap⟩ (by decide) (by decide)
set_option maxRecDepth 65536 in
set_option maxHeartbeats 40000000 in
theorem rm_put2_1 {l : Launch} {Z : State} {a0 : Array Value} (hw : ∀ d ∈ tables_1, d.before a0 Z = true) {n0 : Nat} {h0 : Heap} (Z0 : n0 ≤ h0.size) (a1 : Addr) (p3 : Int32) {zc : Int32} (S_c : Sta Z h0 "java/lang/String" "COMPACT_STRINGS" "Z" (.int zc)) (hzc : ¬ zc = (0 : Int32)) {fm : Value} (S_f : Sta Z h0 "jdk/internal/util/Preconditions" "SIOOBE_FORMATTER" "Ljava/util/function/BiFunction;" fm) (hfm : fm.isRef = true) (S_a : Sta Z h0 "java/lang/StringUTF16" "$assertionsDisabled" "Z" (.int 1)) (S_h : Sta Z h0 "java/lang/StringUTF16" "HI_BYTE_SHIFT" "I" (.int 0)) (S_l : Sta Z h0 "java/lang/StringUTF16" "LO_BYTE_SHIFT" "I" (.int 8)) {f : Nat → Value} (A_1 : Ary Z h0 a1 .byte 4 f) (g_1 : n0 ≤ a1) :
    Con l Z n0 (⟨"java/lang/StringUTF16", "putChar", "([BII)V"⟩ : MethodName) jdk_52_method_4_code 3 none ({ frames := 0, cells := 0, slots := 0, locals := 0 } : Room) #[(.ref a1), (.int (1 : Int32)), (.int p3)] h0 (Non (fun h => Keep h0 h [a1] ∧ Ary Z h a1 .byte 4 (upd (upd f 2 (.int p3.toInt8.toInt32)) 3 (.int (p3 >>> ((8 : Int32) &&& 31)).toInt8.toInt32)))) := by
  refine con_intro pn_21 Z0 (fr := fun m => mkF m 0 #[.val (.ref a1), .val (.int (1 : Int32)), .val (.int p3)] []) (fun m => by first | (simp [entryFrame, mkF, argsToLocals, Value.category]; done) | rfl) ?_
  intro p e s m below s₁ hs0 X0
  refine w_getstatic X0 (pc' := 3) d21_0 (host := "") (Or.inl (hw _ (List.mem_of_getElem? (i := 92) rfl))) Via.refl S_a rfl fun T1 X1 => ?_
  refine w_if_ne X1 28 6 d21_3 (by decide) rfl rfl (fun hc3 => ?_) (fun hc3 => by exfalso; revert hc3; decide)
  refine w_iloadN X1 (pc' := 29) d21_28 rfl rfl ?_
  refine w_iconst X1 (pc' := 30) (1 : Int32) d21_29 rfl rfl ?_
  refine w_ishl X1 (pc' := 31) d21_30 rfl ?_
  rw [show ((1 : Int32) <<< ((1 : Int32) &&& 31)) = (2 : Int32) from by decide]
  show Go p e below _ (T1.setTop (mkF m 31 #[.val (.ref a1), .val (.int (1 : Int32)), .val (.int p3)] [(.int (2 : Int32))]))
  refine w_istoreN X1 (pc' := 32) (l' := #[.val (.ref a1), .val (.int (2 : Int32)), .val (.int p3)]) d21_31 rfl rfl ?_
  refine w_aloadN X1 (pc' := 33) d21_32 rfl rfl rfl ?_
  refine w_iloadN X1 (pc' := 34) d21_33 rfl rfl ?_
  refine w_iinc X1 (pc' := 37) ((2 : Int32) + (1 : Int32)) (l' := #[.val (.ref a1), .val (.int ((2 : Int32) + (1 : Int32))), .val (.int p3)]) d21_34 rfl rfl rfl rfl ?_
  refine w_iloadN X1 (pc' := 38) d21_37 rfl rfl ?_
  refine w_getstatic X1 (pc' := 41) d21_38 (host := "") (Or.inl (hw _ (List.mem_of_getElem? (i := 93) rfl))) Via.refl S_h rfl fun T2 X2 => ?_
  refine w_ishr X2 (pc' := 42) d21_41 rfl ?_
  refine w_i2b X2 (pc' := 43) d21_42 rfl ?_
  refine w_bastore X2 (pc' := 44) 2 d21_43 A_1 (by decide) (by decide) g_1 rfl fun T3 h3 X3 W3 A3 => ?_
  have S_a_4 := Sta.wr W3 S_a
  have S_h_4 := Sta.wr W3 S_h
  have S_l_4 := Sta.wr W3 S_l
  have K_5r : Keep h0 _ [a1] := (Keep.refl h0 [a1])
  have K_5 : Keep h0 h3 [a1] := K_5r.wr W3 (Or.inl (List.mem_of_getElem? (i := 0) rfl))
  refine w_aloadN X3 (pc' := 45) d21_44 rfl rfl rfl ?_
  refine w_iloadN X3 (pc' := 46) d21_45 rfl rfl ?_
  refine w_iloadN X3 (pc' := 47) d21_46 rfl rfl ?_
  refine w_getstatic X3 (pc' := 50) d21_47 (host := "") (Or.inl (hw _ (List.mem_of_getElem? (i := 94) rfl))) Via.refl S_l_4 rfl fun T6 X6 => ?_
  refine w_ishr X6 (pc' := 51) d21_50 rfl ?_
  refine w_i2b X6 (pc' := 52) d21_51 rfl ?_
  refine w_bastore X6 (pc' := 53) 3 d21_52 A3 (by decide) (by decide) g_1 rfl fun T7 h7 X7 W7 A7 => ?_
  have S_a_8 := Sta.wr W7 S_a_4
  have S_h_8 := Sta.wr W7 S_h_4
  have S_l_8 := Sta.wr W7 S_l_4
  have K_9 : Keep h0 h7 [a1] := K_5.wr W7 (Or.inl (List.mem_of_getElem? (i := 0) rfl))
  have Ap := A7
  rw [own_pc1, own_pc2] at Ap
  exact w_return X7 d21_53 ⟨K_9, Ap⟩ (by decide) (by decide)
set_option maxRecDepth 65536 in
set_option maxHeartbeats 40000000 in
theorem rm_tb2 {l : Launch} {Z : State} {a0 : Array Value} (hw : ∀ d ∈ tables_1, d.before a0 Z = true) {n0 : Nat} {h0 : Heap} (Z0 : n0 ≤ h0.size) (a1 : Addr) {zc : Int32} (S_c : Sta Z h0 "java/lang/String" "COMPACT_STRINGS" "Z" (.int zc)) (hzc : ¬ zc = (0 : Int32)) {fm : Value} (S_f : Sta Z h0 "jdk/internal/util/Preconditions" "SIOOBE_FORMATTER" "Ljava/util/function/BiFunction;" fm) (hfm : fm.isRef = true) (S_a : Sta Z h0 "java/lang/StringUTF16" "$assertionsDisabled" "Z" (.int 1)) (S_h : Sta Z h0 "java/lang/StringUTF16" "HI_BYTE_SHIFT" "I" (.int 0)) (S_l : Sta Z h0 "java/lang/StringUTF16" "LO_BYTE_SHIFT" "I" (.int 8)) {c0 c1 : Int32} {f : Nat → Value} (A_1 : Ary Z h0 a1 .char 2 f) (hf0 : f 0 = .int c0) (hf1 : f 1 = .int c1)  :
    Con l Z n0 (⟨"java/lang/StringUTF16", "toBytes", "([CII)[B"⟩ : MethodName) jdk_52_method_14_code 5 (some (.array .byte)) ({ frames := 2, cells := 1, slots := 4, locals := 24 } : Room) #[(.ref a1), (.int (0 : Int32)), (.int (2 : Int32))] h0 (Val (fun v h => ∃ b : Addr, v = .ref b ∧ b = h0.size ∧ n0 ≤ b ∧ Keep h0 h [] ∧ Ary Z h b .byte 4 (own_u16 [c0, c1]))) := by
  refine con_intro pn_18 Z0 (fr := fun m => mkF m 0 #[.val (.ref a1), .val (.int (0 : Int32)), .val (.int (2 : Int32)), .unset, .unset] []) (fun m => by first | (simp [entryFrame, mkF, argsToLocals, Value.category]; done) | rfl) ?_
  intro p e s m below s₁ hs0 X0
  refine w_iloadN X0 (pc' := 1) d18_0 rfl rfl ?_
  refine w_staticV X0 (pc' := 4) d18_1 (rm_nbf2 hw (h0 := h0) (sd_size X0)) (hw _ (List.mem_of_getElem? (i := 82) rfl)) (hw _ (List.mem_of_getElem? (i := 83) rfl)) (hw _ (List.mem_of_getElem? (i := 49) rfl)) (hw _ (List.mem_of_getElem? (i := 84) rfl)) (by decide) [(.int (2 : Int32))] [] pd_19 rfl rfl rfl rfl 0 (Nat.le_refl _) (by decide) (by decide) (by decide) (by decide) rfl fun T1 h1 v1 X1 q1 => ?_
  obtain ⟨b1, rfl, g1, gn1, E1, A1⟩ := q1
  have ne_a1_b1 : a1 ≠ b1 := ne_new g1 A_1.lt
  have K_b1 : Keep h0 _ [] := (Keep.refl h0 [])
  have sz_b1 : h0.size ≤ b1 := sz_fresh g1 K_b1
  have A_2 := A_1.ext E1
  have K_3 : Keep h0 h1 [] := K_b1.ext E1
  refine w_astoreN X1 (pc' := 5) (l' := #[.val (.ref a1), .val (.int (0 : Int32)), .val (.int (2 : Int32)), .val (.ref b1), .unset]) d18_4 rfl rfl rfl ?_
  refine w_iconst X1 (pc' := 6) (0 : Int32) d18_5 rfl rfl ?_
  refine w_istore X1 (pc' := 8) (l' := #[.val (.ref a1), .val (.int (0 : Int32)), .val (.int (2 : Int32)), .val (.ref b1), .val (.int (0 : Int32))]) d18_6 rfl rfl ?_
  refine w_iload X1 (pc' := 10) d18_8 rfl rfl ?_
  refine w_iloadN X1 (pc' := 11) d18_10 rfl rfl ?_
  refine w_icmp_ge X1 32 14 d18_11 (by decide) rfl rfl (fun hc11 => by exfalso; revert hc11; decide) (fun hc11 => ?_)
  refine w_aloadN X1 (pc' := 15) d18_14 rfl rfl rfl ?_
  refine w_iload X1 (pc' := 17) d18_15 rfl rfl ?_
  refine w_aloadN X1 (pc' := 18) d18_17 rfl rfl rfl ?_
  refine w_iloadN X1 (pc' := 19) d18_18 rfl rfl ?_
  refine w_caload X1 (pc' := 20) 0 (v := (.int c0)) d18_19 A_2 (by decide) (by decide) hf0 rfl ?_
  refine w_staticN X1 (pc' := 23) d18_20 (rm_put2_0 hw (h0 := h1) (sd_size X1) b1 c0 (Sta.ext (kext K_3) S_c) hzc (Sta.ext (kext K_3) S_f) hfm (Sta.ext (kext K_3) S_a) (Sta.ext (kext K_3) S_h) (Sta.ext (kext K_3) S_l) A1 gn1) (hw _ (List.mem_of_getElem? (i := 89) rfl)) (hw _ (List.mem_of_getElem? (i := 90) rfl)) (hw _ (List.mem_of_getElem? (i := 49) rfl)) (hw _ (List.mem_of_getElem? (i := 91) rfl)) (by decide) [(.ref b1), (.int (0 : Int32)), (.int c0)] [] pd_21 rfl rfl rfl rfl 0 (Nat.le_refl _) (by decide) (by decide) (by decide) (by decide) rfl fun T4 h4 X4 q4 => ?_
  obtain ⟨K4, A4⟩ := q4
  have A_5 := A_2.keep K4 (ninS ne_a1_b1 nin0)
  have K_6 : Keep h0 h4 [] := K_3.trans K4 (allS (Or.inr sz_b1) all0)
  refine w_iinc X4 (pc' := 26) ((0 : Int32) + (1 : Int32)) (l' := #[.val (.ref a1), .val (.int ((0 : Int32) + (1 : Int32))), .val (.int (2 : Int32)), .val (.ref b1), .val (.int (0 : Int32))]) d18_23 rfl rfl rfl rfl ?_
  refine w_iinc X4 (pc' := 29) ((0 : Int32) + (1 : Int32)) (l' := #[.val (.ref a1), .val (.int ((0 : Int32) + (1 : Int32))), .val (.int (2 : Int32)), .val (.ref b1), .val (.int ((0 : Int32) + (1 : Int32)))]) d18_26 rfl rfl rfl rfl ?_
  refine w_goto X4 (pc' := 8) d18_29 (by decide) rfl ?_
  rw [show ((0 : Int32) + (1 : Int32)) = (1 : Int32) from by decide]
  show Go p e below _ (T4.setTop (mkF m 8 #[.val (.ref a1), .val (.int (1 : Int32)), .val (.int (2 : Int32)), .val (.ref b1), .val (.int (1 : Int32))] []))
  refine w_iload X4 (pc' := 10) d18_8 rfl rfl ?_
  refine w_iloadN X4 (pc' := 11) d18_10 rfl rfl ?_
  refine w_icmp_ge X4 32 14 d18_11 (by decide) rfl rfl (fun hc11 => by exfalso; revert hc11; decide) (fun hc11 => ?_)
  refine w_aloadN X4 (pc' := 15) d18_14 rfl rfl rfl ?_
  refine w_iload X4 (pc' := 17) d18_15 rfl rfl ?_
  refine w_aloadN X4 (pc' := 18) d18_17 rfl rfl rfl ?_
  refine w_iloadN X4 (pc' := 19) d18_18 rfl rfl ?_
  refine w_caload X4 (pc' := 20) 1 (v := (.int c1)) d18_19 A_5 (by decide) (by decide) hf1 rfl ?_
  refine w_staticN X4 (pc' := 23) d18_20 (rm_put2_1 hw (h0 := h4) (sd_size X4) b1 c1 (Sta.ext (kext K_6) S_c) hzc (Sta.ext (kext K_6) S_f) hfm (Sta.ext (kext K_6) S_a) (Sta.ext (kext K_6) S_h) (Sta.ext (kext K_6) S_l) A4 gn1) (hw _ (List.mem_of_getElem? (i := 89) rfl)) (hw _ (List.mem_of_getElem? (i := 90) rfl)) (hw _ (List.mem_of_getElem? (i := 49) rfl)) (hw _ (List.mem_of_getElem? (i := 91) rfl)) (by decide) [(.ref b1), (.int (1 : Int32)), (.int c1)] [] pd_21 rfl rfl rfl rfl 0 (Nat.le_refl _) (by decide) (by decide) (by decide) (by decide) rfl fun T7 h7 X7 q7 => ?_
  obtain ⟨K7, A7⟩ := q7
  have A_8 := A_5.keep K7 (ninS ne_a1_b1 nin0)
  have K_9 : Keep h0 h7 [] := K_6.trans K7 (allS (Or.inr sz_b1) all0)
  refine w_iinc X7 (pc' := 26) ((1 : Int32) + (1 : Int32)) (l' := #[.val (.ref a1), .val (.int ((1 : Int32) + (1 : Int32))), .val (.int (2 : Int32)), .val (.ref b1), .val (.int (1 : Int32))]) d18_23 rfl rfl rfl rfl ?_
  refine w_iinc X7 (pc' := 29) ((1 : Int32) + (1 : Int32)) (l' := #[.val (.ref a1), .val (.int ((1 : Int32) + (1 : Int32))), .val (.int (2 : Int32)), .val (.ref b1), .val (.int ((1 : Int32) + (1 : Int32)))]) d18_26 rfl rfl rfl rfl ?_
  refine w_goto X7 (pc' := 8) d18_29 (by decide) rfl ?_
  rw [show ((1 : Int32) + (1 : Int32)) = (2 : Int32) from by decide]
  show Go p e below _ (T7.setTop (mkF m 8 #[.val (.ref a1), .val (.int (2 : Int32)), .val (.int (2 : Int32)), .val (.ref b1), .val (.int (2 : Int32))] []))
  refine w_iload X7 (pc' := 10) d18_8 rfl rfl ?_
  refine w_iloadN X7 (pc' := 11) d18_10 rfl rfl ?_
  refine w_icmp_ge X7 32 14 d18_11 (by decide) rfl rfl (fun hc11 => ?_) (fun hc11 => by exfalso; revert hc11; decide)
  refine w_aloadN X7 (pc' := 33) d18_32 rfl rfl rfl ?_
  have Au : Ary Z h7 b1 .byte 4 (own_u16 [c0, c1]) := A7.congr (fun i hi => by
    have : i = 0 ∨ i = 1 ∨ i = 2 ∨ i = 3 := by omega
    rcases this with rfl | rfl | rfl | rfl <;> rfl)
  exact w_areturn X7 d18_33 rfl rfl rfl ⟨_, rfl, g1, gn1, K_9, Au⟩ (by decide) (by decide)
set_option maxRecDepth 65536 in
set_option maxHeartbeats 40000000 in
theorem rm_cmB2 {l : Launch} {Z : State} {a0 : Array Value} (hw : ∀ d ∈ tables_1, d.before a0 Z = true) {n0 : Nat} {h0 : Heap} (Z0 : n0 ≤ h0.size) (a1 : Addr) {zc : Int32} (S_c : Sta Z h0 "java/lang/String" "COMPACT_STRINGS" "Z" (.int zc)) (hzc : ¬ zc = (0 : Int32)) {fm : Value} (S_f : Sta Z h0 "jdk/internal/util/Preconditions" "SIOOBE_FORMATTER" "Ljava/util/function/BiFunction;" fm) (hfm : fm.isRef = true) (S_a : Sta Z h0 "java/lang/StringUTF16" "$assertionsDisabled" "Z" (.int 1)) (S_h : Sta Z h0 "java/lang/StringUTF16" "HI_BYTE_SHIFT" "I" (.int 0)) (S_l : Sta Z h0 "java/lang/StringUTF16" "LO_BYTE_SHIFT" "I" (.int 8)) {c0 c1 : Int32} (R0 : own_R c0) (R1 : own_R c1) {f : Nat → Value} (A_1 : Ary Z h0 a1 .char 2 f) (hf0 : f 0 = .int c0) (hf1 : f 1 = .int c1)  :
    Con l Z n0 (⟨"java/lang/StringUTF16", "compress", "([CII)[B"⟩ : MethodName) jdk_52_method_16_code 6 (some (.array .byte)) ({ frames := 3, cells := 2, slots := 6, locals := 40 } : Room) #[(.ref a1), (.int (0 : Int32)), (.int (2 : Int32))] h0 (Val (fun v h => ∃ b : Addr, v = .ref b ∧ h0.size ≤ b ∧ n0 ≤ b ∧ Keep h0 h [] ∧ (((∀ i, i < 2 → ¬ (255 : Int32) < [c0, c1].getD i 0) ∧ Ary Z h b .byte 2 (fun i => .int ([c0, c1].getD i 0).toInt8.toInt32)) ∨ Ary Z h b .byte 4 (own_u16 [c0, c1])))) := by
  refine con_intro pn_10 Z0 (fr := fun m => mkF m 0 #[.val (.ref a1), .val (.int (0 : Int32)), .val (.int (2 : Int32)), .unset, .unset, .unset] []) (fun m => by first | (simp [entryFrame, mkF, argsToLocals, Value.category]; done) | rfl) ?_
  intro p e s m below s₁ hs0 X0
  refine w_iloadN X0 (pc' := 1) d10_0 rfl rfl ?_
  refine w_newarray X0 (pc' := 3) 2 2 d10_1 (hw _ (List.mem_of_getElem? (i := 19) rfl)) (by decide) (by decide) (by decide) (by decide) (by decide) rfl fun T1 h1 b1 g1 gn1 X1 E1 A1 => ?_
  have ne_a1_b1 : a1 ≠ b1 := ne_new g1 A_1.lt
  have K_b1 : Keep h0 _ [] := (Keep.refl h0 [])
  have sz_b1 : h0.size ≤ b1 := sz_fresh g1 K_b1
  have A_2 := A_1.ext E1
  have K_3 : Keep h0 h1 [] := K_b1.ext E1
  replace A1 : Ary Z h1 b1 .byte 2 (fun _ => (.int (0 : Int32))) := A1
  refine w_astoreN X1 (pc' := 4) (l' := #[.val (.ref a1), .val (.int (0 : Int32)), .val (.int (2 : Int32)), .val (.ref b1), .unset, .unset]) d10_3 rfl rfl rfl ?_
  refine w_aloadN X1 (pc' := 5) d10_4 rfl rfl rfl ?_
  refine w_iloadN X1 (pc' := 6) d10_5 rfl rfl ?_
  refine w_aloadN X1 (pc' := 7) d10_6 rfl rfl rfl ?_
  refine w_iconst X1 (pc' := 8) (0 : Int32) d10_7 rfl rfl ?_
  refine w_iloadN X1 (pc' := 9) d10_8 rfl rfl ?_
  refine w_staticV X1 (pc' := 12) d10_9 (rm_cmI2 hw (h0 := h1) (sd_size X1) a1 b1 A_2 A1 ne_a1_b1 gn1 hf0 hf1) (hw _ (List.mem_of_getElem? (i := 51) rfl)) (hw _ (List.mem_of_getElem? (i := 52) rfl)) (hw _ (List.mem_of_getElem? (i := 49) rfl)) (hw _ (List.mem_of_getElem? (i := 53) rfl)) (by decide) [(.ref a1), (.int (0 : Int32)), (.ref b1), (.int (0 : Int32)), (.int (2 : Int32))] [] pd_11 rfl rfl rfl rfl 0 (Nat.le_refl _) (by decide) (by decide) (by decide) (by decide) rfl fun T4 h4 v4 X4 q4 => ?_
  obtain ⟨K4, D4⟩ := q4
  have A_5 := A_2.keep K4 (ninS ne_a1_b1 nin0)
  have K_6 : Keep h0 h4 [] := K_3.trans K4 (allS (Or.inr sz_b1) all0)
  rcases D4 with ⟨rfl, hall, AL⟩ | ⟨rfl, hbig⟩ | ⟨rfl, hbig⟩
  · skip
    show Go p e below _ (T4.setTop (mkF m 12 #[.val (.ref a1), .val (.int (0 : Int32)), .val (.int (2 : Int32)), .val (.ref b1), .unset, .unset] [(.int (2 : Int32))]))
    refine w_istore X4 (pc' := 14) (l' := #[.val (.ref a1), .val (.int (0 : Int32)), .val (.int (2 : Int32)), .val (.ref b1), .val (.int (2 : Int32)), .unset]) d10_12 rfl rfl ?_
    refine w_iload X4 (pc' := 16) d10_14 rfl rfl ?_
    refine w_iloadN X4 (pc' := 17) d10_16 rfl rfl ?_
    refine w_icmp_eq X4 57 20 d10_17 (by decide) rfl rfl (fun hc17 => ?_) (fun hc17 => by exfalso; revert hc17; decide)
    refine w_aloadN X4 (pc' := 58) d10_57 rfl rfl rfl ?_
    exact w_areturn X4 d10_58 rfl rfl rfl ⟨_, rfl, sz_b1, gn1, K_6, Or.inl ⟨hall, AL⟩⟩ (by decide) (by decide)
  · skip
    show Go p e below _ (T4.setTop (mkF m 12 #[.val (.ref a1), .val (.int (0 : Int32)), .val (.int (2 : Int32)), .val (.ref b1), .unset, .unset] [(.int (0 : Int32))]))
    refine w_istore X4 (pc' := 14) (l' := #[.val (.ref a1), .val (.int (0 : Int32)), .val (.int (2 : Int32)), .val (.ref b1), .val (.int (0 : Int32)), .unset]) d10_12 rfl rfl ?_
    refine w_iload X4 (pc' := 16) d10_14 rfl rfl ?_
    refine w_iloadN X4 (pc' := 17) d10_16 rfl rfl ?_
    refine w_icmp_eq X4 57 20 d10_17 (by decide) rfl rfl (fun hc17 => by exfalso; revert hc17; decide) (fun hc17 => ?_)
    refine w_aloadN X4 (pc' := 21) d10_20 rfl rfl rfl ?_
    refine w_iloadN X4 (pc' := 22) d10_21 rfl rfl ?_
    refine w_iloadN X4 (pc' := 23) d10_22 rfl rfl ?_
    refine w_staticV X4 (pc' := 26) d10_23 (rm_tb2 hw (h0 := h4) (sd_size X4) a1 (Sta.ext (kext K_6) S_c) hzc (Sta.ext (kext K_6) S_f) hfm (Sta.ext (kext K_6) S_a) (Sta.ext (kext K_6) S_h) (Sta.ext (kext K_6) S_l) A_5 hf0 hf1) (hw _ (List.mem_of_getElem? (i := 79) rfl)) (hw _ (List.mem_of_getElem? (i := 80) rfl)) (hw _ (List.mem_of_getElem? (i := 49) rfl)) (hw _ (List.mem_of_getElem? (i := 81) rfl)) (by decide) [(.ref a1), (.int (0 : Int32)), (.int (2 : Int32))] [] pd_18 rfl rfl rfl rfl 0 (Nat.le_refl _) (by decide) (by decide) (by decide) (by decide) rfl fun T7 h7 v7 X7 q7 => ?_
    obtain ⟨b7, rfl, g7, gn7, K7, A7⟩ := q7
    have ne_a1_b7 : a1 ≠ b7 := ne_new g7 A_5.lt
    have sz_b7 : h0.size ≤ b7 := sz_fresh g7 K_6
    have A_8 := A_5.keep K7 nin0
    have K_9 : Keep h0 h7 [] := K_6.trans K7 all0
    refine w_astore X7 (pc' := 28) (l' := #[.val (.ref a1), .val (.int (0 : Int32)), .val (.int (2 : Int32)), .val (.ref b1), .val (.int (0 : Int32)), .val (.ref b7)]) d10_26 rfl rfl rfl ?_
    refine w_aload X7 (pc' := 30) d10_28 rfl rfl rfl ?_
    refine w_iload X7 (pc' := 32) d10_30 rfl rfl ?_
    refine w_staticV X7 (pc' := 35) d10_32 (rm_gc2_0 hw (h0 := h7) (sd_size X7) b7 (Sta.ext (kext K_9) S_c) hzc (Sta.ext (kext K_9) S_f) hfm (Sta.ext (kext K_9) S_a) (Sta.ext (kext K_9) S_h) (Sta.ext (kext K_9) S_l) R0 R1 A7) (hw _ (List.mem_of_getElem? (i := 95) rfl)) (hw _ (List.mem_of_getElem? (i := 96) rfl)) (hw _ (List.mem_of_getElem? (i := 49) rfl)) (hw _ (List.mem_of_getElem? (i := 97) rfl)) (by decide) [(.ref b7), (.int (0 : Int32))] [] pd_22 rfl rfl rfl rfl 0 (Nat.le_refl _) (by decide) (by decide) (by decide) (by decide) rfl fun T10 h10 v10 X10 q10 => ?_
    obtain ⟨rfl, rfl⟩ := q10
    refine w_sipush X10 (pc' := 38) (255 : Int32) d10_35 rfl rfl ?_
    refine w_icmp_gt X10 54 41 d10_38 (by decide) rfl rfl (fun hc38 => ?_) (fun hc38 => by exfalso; exact hc38 hbig)
    refine w_aload X10 (pc' := 56) d10_54 rfl rfl rfl ?_
    exact w_areturn X10 d10_56 rfl rfl rfl ⟨_, rfl, sz_b7, gn7, K_9, Or.inr A7⟩ (by decide) (by decide)
  · skip
    show Go p e below _ (T4.setTop (mkF m 12 #[.val (.ref a1), .val (.int (0 : Int32)), .val (.int (2 : Int32)), .val (.ref b1), .unset, .unset] [(.int (1 : Int32))]))
    refine w_istore X4 (pc' := 14) (l' := #[.val (.ref a1), .val (.int (0 : Int32)), .val (.int (2 : Int32)), .val (.ref b1), .val (.int (1 : Int32)), .unset]) d10_12 rfl rfl ?_
    refine w_iload X4 (pc' := 16) d10_14 rfl rfl ?_
    refine w_iloadN X4 (pc' := 17) d10_16 rfl rfl ?_
    refine w_icmp_eq X4 57 20 d10_17 (by decide) rfl rfl (fun hc17 => by exfalso; revert hc17; decide) (fun hc17 => ?_)
    refine w_aloadN X4 (pc' := 21) d10_20 rfl rfl rfl ?_
    refine w_iloadN X4 (pc' := 22) d10_21 rfl rfl ?_
    refine w_iloadN X4 (pc' := 23) d10_22 rfl rfl ?_
    refine w_staticV X4 (pc' := 26) d10_23 (rm_tb2 hw (h0 := h4) (sd_size X4) a1 (Sta.ext (kext K_6) S_c) hzc (Sta.ext (kext K_6) S_f) hfm (Sta.ext (kext K_6) S_a) (Sta.ext (kext K_6) S_h) (Sta.ext (kext K_6) S_l) A_5 hf0 hf1) (hw _ (List.mem_of_getElem? (i := 79) rfl)) (hw _ (List.mem_of_getElem? (i := 80) rfl)) (hw _ (List.mem_of_getElem? (i := 49) rfl)) (hw _ (List.mem_of_getElem? (i := 81) rfl)) (by decide) [(.ref a1), (.int (0 : Int32)), (.int (2 : Int32))] [] pd_18 rfl rfl rfl rfl 0 (Nat.le_refl _) (by decide) (by decide) (by decide) (by decide) rfl fun T11 h11 v11 X11 q11 => ?_
    obtain ⟨b11, rfl, g11, gn11, K11, A11⟩ := q11
    have ne_a1_b11 : a1 ≠ b11 := ne_new g11 A_5.lt
    have sz_b11 : h0.size ≤ b11 := sz_fresh g11 K_6
    have A_12 := A_5.keep K11 nin0
    have K_13 : Keep h0 h11 [] := K_6.trans K11 all0
    refine w_astore X11 (pc' := 28) (l' := #[.val (.ref a1), .val (.int (0 : Int32)), .val (.int (2 : Int32)), .val (.ref b1), .val (.int (1 : Int32)), .val (.ref b11)]) d10_26 rfl rfl rfl ?_
    refine w_aload X11 (pc' := 30) d10_28 rfl rfl rfl ?_
    refine w_iload X11 (pc' := 32) d10_30 rfl rfl ?_
    refine w_staticV X11 (pc' := 35) d10_32 (rm_gc2_1 hw (h0 := h11) (sd_size X11) b11 (Sta.ext (kext K_13) S_c) hzc (Sta.ext (kext K_13) S_f) hfm (Sta.ext (kext K_13) S_a) (Sta.ext (kext K_13) S_h) (Sta.ext (kext K_13) S_l) R0 R1 A11) (hw _ (List.mem_of_getElem? (i := 95) rfl)) (hw _ (List.mem_of_getElem? (i := 96) rfl)) (hw _ (List.mem_of_getElem? (i := 49) rfl)) (hw _ (List.mem_of_getElem? (i := 97) rfl)) (by decide) [(.ref b11), (.int (1 : Int32))] [] pd_22 rfl rfl rfl rfl 0 (Nat.le_refl _) (by decide) (by decide) (by decide) (by decide) rfl fun T14 h14 v14 X14 q14 => ?_
    obtain ⟨rfl, rfl⟩ := q14
    refine w_sipush X14 (pc' := 38) (255 : Int32) d10_35 rfl rfl ?_
    refine w_icmp_gt X14 54 41 d10_38 (by decide) rfl rfl (fun hc38 => ?_) (fun hc38 => by exfalso; exact hc38 hbig)
    refine w_aload X14 (pc' := 56) d10_54 rfl rfl rfl ?_
    exact w_areturn X14 d10_56 rfl rfl rfl ⟨_, rfl, sz_b11, gn11, K_13, Or.inr A11⟩ (by decide) (by decide)
set_option maxRecDepth 65536 in
set_option maxHeartbeats 40000000 in
theorem rm_cfl2_0 {l : Launch} {Z : State} {a0 : Array Value} (hw : ∀ d ∈ tables_1, d.before a0 Z = true) {n0 : Nat} {h0 : Heap} (Z0 : n0 ≤ h0.size) (a1 : Addr) {f : Nat → Value} (A_1 : Ary Z h0 a1 .byte 2 f) :
    Con l Z n0 (⟨"java/lang/StringUTF16", "coderFromArrayLen", "([BI)B"⟩ : MethodName) jdk_52_method_15_code 2 (some .byte) ({ frames := 0, cells := 0, slots := 0, locals := 0 } : Room) #[(.ref a1), (.int (2 : Int32))] h0 (Val (fun v h => v = .int 0 ∧ h0 = h)) := by
  refine con_intro pn_12 Z0 (fr := fun m => mkF m 0 #[.val (.ref a1), .val (.int (2 : Int32))] []) (fun m => by first | (simp [entryFrame, mkF, argsToLocals, Value.category]; done) | rfl) ?_
  intro p e s m below s₁ hs0 X0
  refine w_iloadN X0 (pc' := 1) d12_0 rfl rfl ?_
  refine w_aloadN X0 (pc' := 2) d12_1 rfl rfl rfl ?_
  refine w_arraylength X0 (pc' := 3) (2 : Int32) d12_2 A_1 (by decide) rfl ?_
  refine w_isub X0 (pc' := 4) d12_3 rfl ?_
  refine w_bipush X0 (pc' := 6) (31 : Int32) d12_4 rfl rfl ?_
  refine w_iushr X0 (pc' := 7) d12_6 rfl ?_
  refine w_i2b X0 (pc' := 8) d12_7 rfl ?_
  exact w_breturn X0 d12_8 ⟨by decide, rfl⟩ (by decide) (by decide)
set_option maxRecDepth 65536 in
set_option maxHeartbeats 40000000 in
theorem rm_cfl2_1 {l : Launch} {Z : State} {a0 : Array Value} (hw : ∀ d ∈ tables_1, d.before a0 Z = true) {n0 : Nat} {h0 : Heap} (Z0 : n0 ≤ h0.size) (a1 : Addr) {f : Nat → Value} (A_1 : Ary Z h0 a1 .byte 4 f) :
    Con l Z n0 (⟨"java/lang/StringUTF16", "coderFromArrayLen", "([BI)B"⟩ : MethodName) jdk_52_method_15_code 2 (some .byte) ({ frames := 0, cells := 0, slots := 0, locals := 0 } : Room) #[(.ref a1), (.int (2 : Int32))] h0 (Val (fun v h => v = .int 1 ∧ h0 = h)) := by
  refine con_intro pn_12 Z0 (fr := fun m => mkF m 0 #[.val (.ref a1), .val (.int (2 : Int32))] []) (fun m => by first | (simp [entryFrame, mkF, argsToLocals, Value.category]; done) | rfl) ?_
  intro p e s m below s₁ hs0 X0
  refine w_iloadN X0 (pc' := 1) d12_0 rfl rfl ?_
  refine w_aloadN X0 (pc' := 2) d12_1 rfl rfl rfl ?_
  refine w_arraylength X0 (pc' := 3) (4 : Int32) d12_2 A_1 (by decide) rfl ?_
  refine w_isub X0 (pc' := 4) d12_3 rfl ?_
  refine w_bipush X0 (pc' := 6) (31 : Int32) d12_4 rfl rfl ?_
  refine w_iushr X0 (pc' := 7) d12_6 rfl ?_
  refine w_i2b X0 (pc' := 8) d12_7 rfl ?_
  exact w_breturn X0 d12_8 ⟨by decide, rfl⟩ (by decide) (by decide)
set_option maxRecDepth 65536 in
set_option maxHeartbeats 40000000 in
theorem rm_sv2 {l : Launch} {Z : State} {a0 : Array Value} (hw : ∀ d ∈ tables_1, d.before a0 Z = true) {n0 : Nat} {h0 : Heap} (Z0 : n0 ≤ h0.size) (a1 a2 : Addr) {zc : Int32} (S_c : Sta Z h0 "java/lang/String" "COMPACT_STRINGS" "Z" (.int zc)) (hzc : ¬ zc = (0 : Int32)) {fm : Value} (S_f : Sta Z h0 "jdk/internal/util/Preconditions" "SIOOBE_FORMATTER" "Ljava/util/function/BiFunction;" fm) (hfm : fm.isRef = true) (S_a : Sta Z h0 "java/lang/StringUTF16" "$assertionsDisabled" "Z" (.int 1)) (S_h : Sta Z h0 "java/lang/StringUTF16" "HI_BYTE_SHIFT" "I" (.int 0)) (S_l : Sta Z h0 "java/lang/StringUTF16" "LO_BYTE_SHIFT" "I" (.int 8)) {c0 c1 : Int32} (R0 : own_R c0) (R1 : own_R c1) {f : Nat → Value} {u1 u2 : Value} (E_1 : Exa Z h0 a1 "java/lang/String") (F_v : Fld Z h0 a1 "java/lang/String" "value" "[B" u1) (F_c : Fld Z h0 a1 "java/lang/String" "coder" "B" u2) (g_1 : n0 ≤ a1) (A_2 : Ary Z h0 a2 .char 2 f) (ne12 : a1 ≠ a2) (hf0 : f 0 = .int c0) (hf1 : f 1 = .int c1)  :
    Con l Z n0 (⟨"java/lang/String", "<init>", "([CIILjava/lang/Void;)V"⟩ : MethodName) jdk_42_method_149_code 6 none ({ frames := 4, cells := 2, slots := 6, locals := 57 } : Room) #[(.ref a1), (.ref a2), (.int (0 : Int32)), (.int (2 : Int32)), .null] h0 (Non (fun h => Keep h0 h [a1] ∧ StrU Z h a1 [c0, c1])) := by
  refine con_intro pn_3 Z0 (fr := fun m => mkF m 0 #[.val (.ref a1), .val (.ref a2), .val (.int (0 : Int32)), .val (.int (2 : Int32)), .val .null, .unset] []) (fun m => by first | (simp [entryFrame, mkF, argsToLocals, Value.category]; done) | rfl) ?_
  intro p e s m below s₁ hs0 X0
  refine w_aloadN X0 (pc' := 1) d3_0 rfl rfl rfl ?_
  refine w_initO X0 (pc' := 4) d3_1 (hw _ (List.mem_of_getElem? (i := 15) rfl)) (hw _ (List.mem_of_getElem? (i := 16) rfl)) (hw _ (List.mem_of_getElem? (i := 17) rfl)) rfl (by decide) 0 (Nat.le_refl _) (by decide) rfl fun T1 X1 => ?_
  refine w_iloadN X1 (pc' := 5) d3_4 rfl rfl ?_
  refine w_if_ne X1 27 8 d3_5 (by decide) rfl rfl (fun hc5 => ?_) (fun hc5 => by exfalso; revert hc5; decide)
  refine w_getstatic X1 (pc' := 30) d3_27 (host := "") (Or.inl (hw _ (List.mem_of_getElem? (i := 40) rfl))) Via.refl S_c rfl fun T2 X2 => ?_
  refine w_if_eq X2 58 33 d3_30 (by decide) rfl rfl (fun hc30 => by exfalso; exact hzc hc30) (fun hc30 => ?_)
  refine w_aloadN X2 (pc' := 34) d3_33 rfl rfl rfl ?_
  refine w_iloadN X2 (pc' := 35) d3_34 rfl rfl ?_
  refine w_iloadN X2 (pc' := 36) d3_35 rfl rfl ?_
  refine w_staticV X2 (pc' := 39) d3_36 (rm_cmB2 hw (h0 := h0) (sd_size X2) a2 S_c hzc S_f hfm S_a S_h S_l R0 R1 A_2 hf0 hf1) (hw _ (List.mem_of_getElem? (i := 47) rfl)) (hw _ (List.mem_of_getElem? (i := 48) rfl)) (hw _ (List.mem_of_getElem? (i := 49) rfl)) (hw _ (List.mem_of_getElem? (i := 50) rfl)) (by decide) [(.ref a2), (.int (0 : Int32)), (.int (2 : Int32))] [] pd_10 rfl rfl rfl rfl 0 (Nat.le_refl _) (by decide) (by decide) (by decide) (by decide) rfl fun T3 h3 v3 X3 q3 => ?_
  obtain ⟨b3, rfl, g3, gn3, K3, D3⟩ := q3
  have ne_a1_b3 : a1 ≠ b3 := ne_new2 g3 F_v.lt
  have ne_a2_b3 : a2 ≠ b3 := ne_new2 g3 A_2.lt
  have K_b3 : Keep h0 _ [a1] := (Keep.refl h0 [a1])
  have sz_b3 : h0.size ≤ b3 := Nat.le_trans K_b3.1 g3
  have F_v_4 := F_v.keep K3 nin0
  have F_c_4 := F_c.keep K3 nin0
  have E_4 := E_1.keep K3
  have A_4 := A_2.keep K3 nin0
  have K_5 : Keep h0 h3 [a1] := K_b3.trans K3 all0
  rcases D3 with ⟨hall, AL⟩ | AU
  · skip
    refine w_astore X3 (pc' := 41) (l' := #[.val (.ref a1), .val (.ref a2), .val (.int (0 : Int32)), .val (.int (2 : Int32)), .val .null, .val (.ref b3)]) d3_39 rfl rfl rfl ?_
    refine w_aloadN X3 (pc' := 42) d3_41 rfl rfl rfl ?_
    refine w_aload X3 (pc' := 44) d3_42 rfl rfl rfl ?_
    refine w_iloadN X3 (pc' := 45) d3_44 rfl rfl ?_
    refine w_staticV X3 (pc' := 48) d3_45 (rm_cfl2_0 hw (h0 := h3) (sd_size X3) b3 AL) (hw _ (List.mem_of_getElem? (i := 54) rfl)) (hw _ (List.mem_of_getElem? (i := 55) rfl)) (hw _ (List.mem_of_getElem? (i := 49) rfl)) (hw _ (List.mem_of_getElem? (i := 56) rfl)) (by decide) [(.ref b3), (.int (2 : Int32))] [(.ref a1)] pd_12 rfl rfl rfl rfl 1 (Nat.le_refl _) (by decide) (by decide) (by decide) (by decide) rfl fun T6 h6 v6 X6 q6 => ?_
    obtain ⟨rfl, rfl⟩ := q6
    refine w_putfieldN X6 (pc' := 51) d3_48 (hw _ (List.mem_of_getElem? (i := 25) rfl)) Via.refl F_c_4 E_4 (Or.inr ⟨(hw _ (List.mem_of_getElem? (i := 21) rfl)), rfl, rfl⟩) (hw _ (List.mem_of_getElem? (i := 5) rfl)) (ty := .byte) (v' := (.int (nar .byte (0 : Int32)))) (by decide) rfl (fits_nar_byte _) g_1 rfl fun T7 h7 X7 W7 F7 => ?_
    have F_v_8 := Fld.other W7 F_v_4 (Or.inr (slot_ne (C := "java/lang/String") (Or.inr (hw _ (List.mem_of_getElem? (i := 20) rfl))) (Or.inr (hw _ (List.mem_of_getElem? (i := 21) rfl))) (by decide) (t := (.array .byte)) (t' := .byte) (by decide) (by decide)))
    have E_8 := Exa.wr W7 E_4
    have A_8 := A_4.other W7 (Ne.symm ne12)
    have AL_8 := AL.other W7 (Ne.symm ne_a1_b3)
    have K_9 : Keep h0 h7 [a1] := K_5.wr W7 (Or.inl (List.mem_of_getElem? (i := 0) rfl))
    refine w_aloadN X7 (pc' := 52) d3_51 rfl rfl rfl ?_
    refine w_aload X7 (pc' := 54) d3_52 rfl rfl rfl ?_
    refine w_putfield X7 (pc' := 57) d3_54 (host := "") (Or.inl (hw _ (List.mem_of_getElem? (i := 24) rfl))) Via.refl F_v_8 E_8 (Or.inr ⟨(hw _ (List.mem_of_getElem? (i := 20) rfl)), rfl, rfl⟩) (hw _ (List.mem_of_getElem? (i := 5) rfl)) (ty := (.array .byte)) (by decide) rfl rfl g_1 rfl fun T10 h10 X10 W10 F10 => ?_
    have F7_11 := Fld.other W10 F7 (Or.inr (slot_ne (C := "java/lang/String") (Or.inr (hw _ (List.mem_of_getElem? (i := 21) rfl))) (Or.inr (hw _ (List.mem_of_getElem? (i := 20) rfl))) (by decide) (t := .byte) (t' := (.array .byte)) (by decide) (by decide)))
    have E_11 := Exa.wr W10 E_8
    have A_11 := A_8.other W10 (Ne.symm ne12)
    have AL_11 := AL_8.other W10 (Ne.symm ne_a1_b3)
    have K_12 : Keep h0 h10 [a1] := K_9.wr W10 (Or.inl (List.mem_of_getElem? (i := 0) rfl))
    exact w_return X10 d3_57 ⟨K_12, Or.inl ⟨b3, E_11, F7_11, F10, AL_11, hall⟩⟩ (by decide) (by decide)
  · skip
    refine w_astore X3 (pc' := 41) (l' := #[.val (.ref a1), .val (.ref a2), .val (.int (0 : Int32)), .val (.int (2 : Int32)), .val .null, .val (.ref b3)]) d3_39 rfl rfl rfl ?_
    refine w_aloadN X3 (pc' := 42) d3_41 rfl rfl rfl ?_
    refine w_aload X3 (pc' := 44) d3_42 rfl rfl rfl ?_
    refine w_iloadN X3 (pc' := 45) d3_44 rfl rfl ?_
    refine w_staticV X3 (pc' := 48) d3_45 (rm_cfl2_1 hw (h0 := h3) (sd_size X3) b3 AU) (hw _ (List.mem_of_getElem? (i := 54) rfl)) (hw _ (List.mem_of_getElem? (i := 55) rfl)) (hw _ (List.mem_of_getElem? (i := 49) rfl)) (hw _ (List.mem_of_getElem? (i := 56) rfl)) (by decide) [(.ref b3), (.int (2 : Int32))] [(.ref a1)] pd_12 rfl rfl rfl rfl 1 (Nat.le_refl _) (by decide) (by decide) (by decide) (by decide) rfl fun T13 h13 v13 X13 q13 => ?_
    obtain ⟨rfl, rfl⟩ := q13
    refine w_putfieldN X13 (pc' := 51) d3_48 (hw _ (List.mem_of_getElem? (i := 25) rfl)) Via.refl F_c_4 E_4 (Or.inr ⟨(hw _ (List.mem_of_getElem? (i := 21) rfl)), rfl, rfl⟩) (hw _ (List.mem_of_getElem? (i := 5) rfl)) (ty := .byte) (v' := (.int (nar .byte (1 : Int32)))) (by decide) rfl (fits_nar_byte _) g_1 rfl fun T14 h14 X14 W14 F14 => ?_
    have F_v_15 := Fld.other W14 F_v_4 (Or.inr (slot_ne (C := "java/lang/String") (Or.inr (hw _ (List.mem_of_getElem? (i := 20) rfl))) (Or.inr (hw _ (List.mem_of_getElem? (i := 21) rfl))) (by decide) (t := (.array .byte)) (t' := .byte) (by decide) (by decide)))
    have E_15 := Exa.wr W14 E_4
    have A_15 := A_4.other W14 (Ne.symm ne12)
    have AU_15 := AU.other W14 (Ne.symm ne_a1_b3)
    have K_16 : Keep h0 h14 [a1] := K_5.wr W14 (Or.inl (List.mem_of_getElem? (i := 0) rfl))
    refine w_aloadN X14 (pc' := 52) d3_51 rfl rfl rfl ?_
    refine w_aload X14 (pc' := 54) d3_52 rfl rfl rfl ?_
    refine w_putfield X14 (pc' := 57) d3_54 (host := "") (Or.inl (hw _ (List.mem_of_getElem? (i := 24) rfl))) Via.refl F_v_15 E_15 (Or.inr ⟨(hw _ (List.mem_of_getElem? (i := 20) rfl)), rfl, rfl⟩) (hw _ (List.mem_of_getElem? (i := 5) rfl)) (ty := (.array .byte)) (by decide) rfl rfl g_1 rfl fun T17 h17 X17 W17 F17 => ?_
    have F14_18 := Fld.other W17 F14 (Or.inr (slot_ne (C := "java/lang/String") (Or.inr (hw _ (List.mem_of_getElem? (i := 21) rfl))) (Or.inr (hw _ (List.mem_of_getElem? (i := 20) rfl))) (by decide) (t := .byte) (t' := (.array .byte)) (by decide) (by decide)))
    have E_18 := Exa.wr W17 E_15
    have A_18 := A_15.other W17 (Ne.symm ne12)
    have AU_18 := AU_15.other W17 (Ne.symm ne_a1_b3)
    have K_19 : Keep h0 h17 [a1] := K_16.wr W17 (Or.inl (List.mem_of_getElem? (i := 0) rfl))
    exact w_return X17 d3_57 ⟨K_19, Or.inr ⟨b3, E_18, F14_18, F17, AU_18⟩⟩ (by decide) (by decide)
set_option maxRecDepth 65536 in
set_option maxHeartbeats 40000000 in
theorem rm_sc2 {l : Launch} {Z : State} {a0 : Array Value} (hw : ∀ d ∈ tables_1, d.before a0 Z = true) {n0 : Nat} {h0 : Heap} (Z0 : n0 ≤ h0.size) (a1 a2 : Addr) {zc : Int32} (S_c : Sta Z h0 "java/lang/String" "COMPACT_STRINGS" "Z" (.int zc)) (hzc : ¬ zc = (0 : Int32)) {fm : Value} (S_f : Sta Z h0 "jdk/internal/util/Preconditions" "SIOOBE_FORMATTER" "Ljava/util/function/BiFunction;" fm) (hfm : fm.isRef = true) (S_a : Sta Z h0 "java/lang/StringUTF16" "$assertionsDisabled" "Z" (.int 1)) (S_h : Sta Z h0 "java/lang/StringUTF16" "HI_BYTE_SHIFT" "I" (.int 0)) (S_l : Sta Z h0 "java/lang/StringUTF16" "LO_BYTE_SHIFT" "I" (.int 8)) {c0 c1 : Int32} (R0 : own_R c0) (R1 : own_R c1) {f : Nat → Value} {u1 u2 : Value} (E_1 : Exa Z h0 a1 "java/lang/String") (F_v : Fld Z h0 a1 "java/lang/String" "value" "[B" u1) (F_c : Fld Z h0 a1 "java/lang/String" "coder" "B" u2) (g_1 : n0 ≤ a1) (A_2 : Ary Z h0 a2 .char 2 f) (ne12 : a1 ≠ a2) (hf0 : f 0 = .int c0) (hf1 : f 1 = .int c1)  :
    Con l Z n0 (⟨"java/lang/String", "<init>", "([C)V"⟩ : MethodName) jdk_42_method_3_code 2 none ({ frames := 5, cells := 2, slots := 6, locals := 74 } : Room) #[(.ref a1), (.ref a2)] h0 (Non (fun h => Keep h0 h [a1] ∧ StrU Z h a1 [c0, c1])) := by
  refine con_intro pn_2 Z0 (fr := fun m => mkF m 0 #[.val (.ref a1), .val (.ref a2)] []) (fun m => by first | (simp [entryFrame, mkF, argsToLocals, Value.category]; done) | rfl) ?_
  intro p e s m below s₁ hs0 X0
  refine w_aloadN X0 (pc' := 1) d2_0 rfl rfl rfl ?_
  refine w_aloadN X0 (pc' := 2) d2_1 rfl rfl rfl ?_
  refine w_iconst X0 (pc' := 3) (0 : Int32) d2_2 rfl rfl ?_
  refine w_aloadN X0 (pc' := 4) d2_3 rfl rfl rfl ?_
  refine w_arraylength X0 (pc' := 5) (2 : Int32) d2_4 A_2 (by decide) rfl ?_
  refine w_aconst_null X0 (pc' := 6) d2_5 rfl ?_
  refine w_specialN X0 (pc' := 9) d2_6 (rm_sv2 hw (h0 := h0) (sd_size X0) a1 a2 S_c hzc S_f hfm S_a S_h S_l R0 R1 E_1 F_v F_c g_1 A_2 ne12 hf0 hf1) (hw _ (List.mem_of_getElem? (i := 11) rfl)) (hw _ (List.mem_of_getElem? (i := 12) rfl)) (hw _ (List.mem_of_getElem? (i := 6) rfl)) (hw _ (List.mem_of_getElem? (i := 14) rfl)) rfl (by decide) [(.ref a2), (.int (0 : Int32)), (.int (2 : Int32)), .null] [] pd_3 rfl rfl rfl rfl 0 (Nat.le_refl _) (by decide) (by decide) (by decide) (by decide) rfl fun T1 h1 X1 q1 => ?_
  obtain ⟨K1, U1⟩ := q1
  have E_2 := E_1.keep K1
  have A_2 := A_2.keep K1 (ninS (Ne.symm ne12) nin0)
  have K_3r : Keep h0 _ [a1] := (Keep.refl h0 [a1])
  have K_3 : Keep h0 h1 [a1] := K_3r.trans K1 (allS (Or.inl (List.mem_of_getElem? (i := 0) rfl)) all0)
  exact w_return X1 d2_9 ⟨K_3, U1⟩ (by decide) (by decide)
set_option maxRecDepth 65536 in
set_option maxHeartbeats 40000000 in
theorem rm_mk2 {l : Launch} {Z : State} {a0 : Array Value} (hw : ∀ d ∈ tables_1, d.before a0 Z = true) {n0 : Nat} {h0 : Heap} (Z0 : n0 ≤ h0.size) (c0 c1 c2 c3 : Int32) {zc : Int32} (S_c : Sta Z h0 "java/lang/String" "COMPACT_STRINGS" "Z" (.int zc)) (hzc : ¬ zc = (0 : Int32)) {fm : Value} (S_f : Sta Z h0 "jdk/internal/util/Preconditions" "SIOOBE_FORMATTER" "Ljava/util/function/BiFunction;" fm) (hfm : fm.isRef = true) (S_a : Sta Z h0 "java/lang/StringUTF16" "$assertionsDisabled" "Z" (.int 1)) (S_h : Sta Z h0 "java/lang/StringUTF16" "HI_BYTE_SHIFT" "I" (.int 0)) (S_l : Sta Z h0 "java/lang/StringUTF16" "LO_BYTE_SHIFT" "I" (.int 8)) (R0 : own_R c0) (R1 : own_R c1) (R2 : own_R c2) (R3 : own_R c3) :
    Con l Z n0 (⟨"com/example/admitwire/admitwire/core/TimestampDigitsPinLaw", "make", "(ICCCC)Ljava/lang/String;"⟩ : MethodName) method_3_code 5 (some (.object "java/lang/String")) ({ frames := 6, cells := 4, slots := 12, locals := 88 } : Room) #[(.int (2 : Int32)), (.int c0), (.int c1), (.int c2), (.int c3)] h0 (Val (fun v h => ∃ b : Addr, v = .ref b ∧ Ext h0 h ∧ StrU Z h b [c0, c1])) := by
  refine con_intro pn_1 Z0 (fr := fun m => mkF m 0 #[.val (.int (2 : Int32)), .val (.int c0), .val (.int c1), .val (.int c2), .val (.int c3)] []) (fun m => by first | (simp [entryFrame, mkF, argsToLocals, Value.category]; done) | rfl) ?_
  intro p e s m below s₁ hs0 X0
  refine w_iloadN X0 (pc' := 1) d1_0 rfl rfl ?_
  refine w_if_ne X0 15 4 d1_1 (by decide) rfl rfl (fun hc1 => ?_) (fun hc1 => by exfalso; revert hc1; decide)
  refine w_iloadN X0 (pc' := 16) d1_15 rfl rfl ?_
  refine w_iconst X0 (pc' := 17) (1 : Int32) d1_16 rfl rfl ?_
  refine w_icmp_ne X0 35 20 d1_17 (by decide) rfl rfl (fun hc17 => ?_) (fun hc17 => by exfalso; revert hc17; decide)
  refine w_iloadN X0 (pc' := 36) d1_35 rfl rfl ?_
  refine w_iconst X0 (pc' := 37) (2 : Int32) d1_36 rfl rfl ?_
  refine w_icmp_ne X0 59 40 d1_37 (by decide) rfl rfl (fun hc37 => by exfalso; revert hc37; decide) (fun hc37 => ?_)
  refine w_new X0 (pc' := 43) d1_40 (hw _ (List.mem_of_getElem? (i := 4) rfl)) (hw _ (List.mem_of_getElem? (i := 5) rfl)) (hw _ (List.mem_of_getElem? (i := 6) rfl)) (by decide) (by decide) rfl fun T1 h1 b1 g1 gn1 X1 E1 A1 D1 => ?_
  have K_b1 : Keep h0 _ [] := (Keep.refl h0 [])
  have sz_b1 : h0.size ≤ b1 := sz_fresh g1 K_b1
  have K_3 : Keep h0 h1 [] := K_b1.ext E1
  have Fvalue_1 : Fld Z h1 b1 "java/lang/String" "value" "[B" .null := D1 (Or.inr (hw _ (List.mem_of_getElem? (i := 20) rfl))) (ty := (.array .byte)) (by decide)
  have Fcoder_1 : Fld Z h1 b1 "java/lang/String" "coder" "B" (.int (0 : Int32)) := D1 (Or.inr (hw _ (List.mem_of_getElem? (i := 21) rfl))) (ty := .byte) (by decide)
  refine w_dup X1 (pc' := 44) d1_43 rfl rfl ?_
  refine w_iconst X1 (pc' := 45) (2 : Int32) d1_44 rfl rfl ?_
  refine w_newarray X1 (pc' := 47) 2 2 d1_45 (hw _ (List.mem_of_getElem? (i := 7) rfl)) (by decide) (by decide) (by decide) (by decide) (by decide) rfl fun T4 h4 b4 g4 gn4 X4 E4 A4 => ?_
  have ne_b1_b4 : b1 ≠ b4 := ne_new g4 Fvalue_1.lt
  have sz_b4 : h0.size ≤ b4 := sz_fresh g4 K_3
  have Fvalue_5 := Fld.ext E4 Fvalue_1
  have Fcoder_5 := Fld.ext E4 Fcoder_1
  have A1_5 := Exa.ext E4 A1
  have K_6 : Keep h0 h4 [] := K_3.ext E4
  replace A4 : Ary Z h4 b4 .char 2 (fun _ => (.int (0 : Int32))) := A4
  refine w_dup X4 (pc' := 48) d1_47 rfl rfl ?_
  refine w_iconst X4 (pc' := 49) (0 : Int32) d1_48 rfl rfl ?_
  refine w_iloadN X4 (pc' := 50) d1_49 rfl rfl ?_
  refine w_castore X4 (pc' := 51) 0 d1_50 A4 (by decide) (by decide) gn4 rfl fun T7 h7 X7 W7 A7 => ?_
  have Fvalue_8 := Fld.other W7 Fvalue_5 (Or.inl ne_b1_b4)
  have Fcoder_8 := Fld.other W7 Fcoder_5 (Or.inl ne_b1_b4)
  have A1_8 := Exa.wr W7 A1_5
  have K_9 : Keep h0 h7 [] := K_6.wr W7 (Or.inr sz_b4)
  refine w_dup X7 (pc' := 52) d1_51 rfl rfl ?_
  refine w_iconst X7 (pc' := 53) (1 : Int32) d1_52 rfl rfl ?_
  refine w_iloadN X7 (pc' := 54) d1_53 rfl rfl ?_
  refine w_castore X7 (pc' := 55) 1 d1_54 A7 (by decide) (by decide) gn4 rfl fun T10 h10 X10 W10 A10 => ?_
  have Fvalue_11 := Fld.other W10 Fvalue_8 (Or.inl ne_b1_b4)
  have Fcoder_11 := Fld.other W10 Fcoder_8 (Or.inl ne_b1_b4)
  have A1_11 := Exa.wr W10 A1_8
  have K_12 : Keep h0 h10 [] := K_9.wr W10 (Or.inr sz_b4)
  have hf0 : (upd (upd (fun _ => (.int (0 : Int32))) 0 (.int (nar .char c0))) 1 (.int (nar .char c1))) 0 = .int c0 := by show Value.int (nar .char c0) = _; exact congrArg Value.int (own_i2c R0)
  have hf1 : (upd (upd (fun _ => (.int (0 : Int32))) 0 (.int (nar .char c0))) 1 (.int (nar .char c1))) 1 = .int c1 := by show Value.int (nar .char c1) = _; exact congrArg Value.int (own_i2c R1)
  refine w_specialN X10 (pc' := 58) d1_55 (rm_sc2 hw (h0 := h10) (sd_size X10) b1 b4 (Sta.ext (kext K_12) S_c) hzc (Sta.ext (kext K_12) S_f) hfm (Sta.ext (kext K_12) S_a) (Sta.ext (kext K_12) S_h) (Sta.ext (kext K_12) S_l) R0 R1 A1_11 Fvalue_11 Fcoder_11 gn1 A10 ne_b1_b4 hf0 hf1) (hw _ (List.mem_of_getElem? (i := 8) rfl)) (hw _ (List.mem_of_getElem? (i := 9) rfl)) (hw _ (List.mem_of_getElem? (i := 6) rfl)) (hw _ (List.mem_of_getElem? (i := 10) rfl)) rfl (by decide) [(.ref b4)] [(.ref b1)] pd_2 rfl rfl rfl rfl 1 (Nat.le_refl _) (by decide) (by decide) (by decide) (by decide) rfl fun T13 h13 X13 q13 => ?_
  obtain ⟨K13, U13⟩ := q13
  have A1_14 := A1_11.keep K13
  have A10_14 := A10.keep K13 (ninS (Ne.symm ne_b1_b4) nin0)
  have K_15 : Keep h0 h13 [] := K_12.trans K13 (allS (Or.inr sz_b1) all0)
  exact w_areturn X13 d1_58 rfl rfl rfl ⟨_, rfl, kext K_15, U13⟩ (by decide) (by decide)
theorem own_lu3 (f : Nat → Value) (c0 c1 c2 : Int32) (i : Nat) (hi : i < 3) : (upd (upd (upd f 0 (.int (nar .byte c0.toInt8.toInt32))) 1 (.int (nar .byte c1.toInt8.toInt32))) 2 (.int (nar .byte c2.toInt8.toInt32))) i = .int ([c0, c1, c2].getD i 0).toInt8.toInt32 := by
  have : i = 0 ∨ i = 1 ∨ i = 2 := by omega
  rcases this with rfl | rfl | rfl
  · rw [upd_other _ _ (by decide)]; rw [upd_other _ _ (by decide)]; exact (upd_same _ _ _).trans (congrArg Value.int (own_i8 c0))
  · rw [upd_other _ _ (by decide)]; exact (upd_same _ _ _).trans (congrArg Value.int (own_i8 c1))
  · exact (upd_same _ _ _).trans (congrArg Value.int (own_i8 c2))
theorem own_all3 {c0 c1 c2 : Int32} (hk0 : ¬ (255 : Int32) < c0) (hk1 : ¬ (255 : Int32) < c1) (hk2 : ¬ (255 : Int32) < c2) : ∀ i, i < 3 → ¬ (255 : Int32) < [c0, c1, c2].getD i 0 := fun i hi => by
  have : i = 0 ∨ i = 1 ∨ i = 2 := by omega
  rcases this with rfl | rfl | rfl
  · exact hk0
  · exact hk1
  · exact hk2
set_option maxRecDepth 65536 in
set_option maxHeartbeats 40000000 in
theorem rm_cmI3 {l : Launch} {Z : State} {a0 : Array Value} (hw : ∀ d ∈ tables_1, d.before a0 Z = true) {n0 : Nat} {h0 : Heap} (Z0 : n0 ≤ h0.size) (a1 a3 : Addr) {f f3 : Nat → Value} {c0 c1 c2 : Int32} (A_1 : Ary Z h0 a1 .char 3 f) (A_3 : Ary Z h0 a3 .byte 3 f3) (ne13 : a1 ≠ a3) (g_3 : n0 ≤ a3) (hf0 : f 0 = .int c0) (hf1 : f 1 = .int c1) (hf2 : f 2 = .int c2)  :
    Con l Z n0 (⟨"java/lang/StringUTF16", "compress", "([CI[BII)I"⟩ : MethodName) jdk_52_method_21_code 7 (some .int) ({ frames := 0, cells := 0, slots := 0, locals := 0 } : Room) #[(.ref a1), (.int (0 : Int32)), (.ref a3), (.int (0 : Int32)), (.int (3 : Int32))] h0 (Val (fun v h => Keep h0 h [a3] ∧ ((v = .int 3 ∧ (∀ i, i < 3 → ¬ (255 : Int32) < [c0, c1, c2].getD i 0) ∧ Ary Z h a3 .byte 3 (fun i => .int ([c0, c1, c2].getD i 0).toInt8.toInt32)) ∨ (v = .int 0 ∧ (255 : Int32) < c0) ∨ (v = .int 1 ∧ (255 : Int32) < c1) ∨ (v = .int 2 ∧ (255 : Int32) < c2)))) := by
  refine con_intro pn_11 Z0 (fr := fun m => mkF m 0 #[.val (.ref a1), .val (.int (0 : Int32)), .val (.ref a3), .val (.int (0 : Int32)), .val (.int (3 : Int32)), .unset, .unset] []) (fun m => by first | (simp [entryFrame, mkF, argsToLocals, Value.category]; done) | rfl) ?_
  intro p e s m below s₁ hs0 X0
  refine w_iconst X0 (pc' := 1) (0 : Int32) d11_0 rfl rfl ?_
  refine w_istore X0 (pc' := 3) (l' := #[.val (.ref a1), .val (.int (0 : Int32)), .val (.ref a3), .val (.int (0 : Int32)), .val (.int (3 : Int32)), .val (.int (0 : Int32)), .unset]) d11_1 rfl rfl ?_
  refine w_iload X0 (pc' := 5) d11_3 rfl rfl ?_
  refine w_iload X0 (pc' := 7) d11_5 rfl rfl ?_
  refine w_icmp_ge X0 44 10 d11_7 (by decide) rfl rfl (fun hc7 => by exfalso; revert hc7; decide) (fun hc7 => ?_)
  refine w_aloadN X0 (pc' := 11) d11_10 rfl rfl rfl ?_
  refine w_iloadN X0 (pc' := 12) d11_11 rfl rfl ?_
  refine w_caload X0 (pc' := 13) 0 (v := (.int c0)) d11_12 A_1 (by decide) (by decide) hf0 rfl ?_
  refine w_istore X0 (pc' := 15) (l' := #[.val (.ref a1), .val (.int (0 : Int32)), .val (.ref a3), .val (.int (0 : Int32)), .val (.int (3 : Int32)), .val (.int (0 : Int32)), .val (.int c0)]) d11_13 rfl rfl ?_
  refine w_iload X0 (pc' := 17) d11_15 rfl rfl ?_
  refine w_sipush X0 (pc' := 20) (255 : Int32) d11_17 rfl rfl ?_
  refine w_icmp_le X0 26 23 d11_20 (by decide) rfl rfl (fun hc20 => ?_) (fun hc20 => ?_)
  · skip
    have hk0 := hc20
    refine w_aloadN X0 (pc' := 27) d11_26 rfl rfl rfl ?_
    refine w_iloadN X0 (pc' := 28) d11_27 rfl rfl ?_
    refine w_iload X0 (pc' := 30) d11_28 rfl rfl ?_
    refine w_i2b X0 (pc' := 31) d11_30 rfl ?_
    refine w_bastore X0 (pc' := 32) 0 d11_31 A_3 (by decide) (by decide) g_3 rfl fun T1 h1 X1 W1 A1 => ?_
    have A_2 := A_1.other W1 ne13
    have K_3r : Keep h0 _ [a3] := (Keep.refl h0 [a3])
    have K_3 : Keep h0 h1 [a3] := K_3r.wr W1 (Or.inl (List.mem_of_getElem? (i := 0) rfl))
    refine w_iinc X1 (pc' := 35) ((0 : Int32) + (1 : Int32)) (l' := #[.val (.ref a1), .val (.int ((0 : Int32) + (1 : Int32))), .val (.ref a3), .val (.int (0 : Int32)), .val (.int (3 : Int32)), .val (.int (0 : Int32)), .val (.int c0)]) d11_32 rfl rfl rfl rfl ?_
    refine w_iinc X1 (pc' := 38) ((0 : Int32) + (1 : Int32)) (l' := #[.val (.ref a1), .val (.int ((0 : Int32) + (1 : Int32))), .val (.ref a3), .val (.int ((0 : Int32) + (1 : Int32))), .val (.int (3 : Int32)), .val (.int (0 : Int32)), .val (.int c0)]) d11_35 rfl rfl rfl rfl ?_
    refine w_iinc X1 (pc' := 41) ((0 : Int32) + (1 : Int32)) (l' := #[.val (.ref a1), .val (.int ((0 : Int32) + (1 : Int32))), .val (.ref a3), .val (.int ((0 : Int32) + (1 : Int32))), .val (.int (3 : Int32)), .val (.int ((0 : Int32) + (1 : Int32))), .val (.int c0)]) d11_38 rfl rfl rfl rfl ?_
    refine w_goto X1 (pc' := 3) d11_41 (by decide) rfl ?_
    refine w_iload X1 (pc' := 5) d11_3 rfl rfl ?_
    refine w_iload X1 (pc' := 7) d11_5 rfl rfl ?_
    refine w_icmp_ge X1 44 10 d11_7 (by decide) rfl rfl (fun hc7 => by exfalso; revert hc7; decide) (fun hc7 => ?_)
    refine w_aloadN X1 (pc' := 11) d11_10 rfl rfl rfl ?_
    refine w_iloadN X1 (pc' := 12) d11_11 rfl rfl ?_
    refine w_caload X1 (pc' := 13) 1 (v := (.int c1)) d11_12 A_2 (by decide) (by decide) hf1 rfl ?_
    refine w_istore X1 (pc' := 15) (l' := #[.val (.ref a1), .val (.int ((0 : Int32) + (1 : Int32))), .val (.ref a3), .val (.int ((0 : Int32) + (1 : Int32))), .val (.int (3 : Int32)), .val (.int ((0 : Int32) + (1 : Int32))), .val (.int c1)]) d11_13 rfl rfl ?_
    refine w_iload X1 (pc' := 17) d11_15 rfl rfl ?_
    refine w_sipush X1 (pc' := 20) (255 : Int32) d11_17 rfl rfl ?_
    refine w_icmp_le X1 26 23 d11_20 (by decide) rfl rfl (fun hc20 => ?_) (fun hc20 => ?_)
    · skip
      have hk1 := hc20
      refine w_aloadN X1 (pc' := 27) d11_26 rfl rfl rfl ?_
      refine w_iloadN X1 (pc' := 28) d11_27 rfl rfl ?_
      refine w_iload X1 (pc' := 30) d11_28 rfl rfl ?_
      refine w_i2b X1 (pc' := 31) d11_30 rfl ?_
      refine w_bastore X1 (pc' := 32) 1 d11_31 A1 (by decide) (by decide) g_3 rfl fun T4 h4 X4 W4 A4 => ?_
      have A_5 := A_2.other W4 ne13
      have K_6 : Keep h0 h4 [a3] := K_3.wr W4 (Or.inl (List.mem_of_getElem? (i := 0) rfl))
      refine w_iinc X4 (pc' := 35) (((0 : Int32) + (1 : Int32)) + (1 : Int32)) (l' := #[.val (.ref a1), .val (.int (((0 : Int32) + (1 : Int32)) + (1 : Int32))), .val (.ref a3), .val (.int ((0 : Int32) + (1 : Int32))), .val (.int (3 : Int32)), .val (.int ((0 : Int32) + (1 : Int32))), .val (.int c1)]) d11_32 rfl rfl rfl rfl ?_
      refine w_iinc X4 (pc' := 38) (((0 : Int32) + (1 : Int32)) + (1 : Int32)) (l' := #[.val (.ref a1), .val (.int (((0 : Int32) + (1 : Int32)) + (1 : Int32))), .val (.ref a3), .val (.int (((0 : Int32) + (1 : Int32)) + (1 : Int32))), .val (.int (3 : Int32)), .val (.int ((0 : Int32) + (1 : Int32))), .val (.int c1)]) d11_35 rfl rfl rfl rfl ?_
      refine w_iinc X4 (pc' := 41) (((0 : Int32) + (1 : Int32)) + (1 : Int32)) (l' := #[.val (.ref a1), .val (.int (((0 : Int32) + (1 : Int32)) + (1 : Int32))), .val (.ref a3), .val (.int (((0 : Int32) + (1 : Int32)) + (1 : Int32))), .val (.int (3 : Int32)), .val (.int (((0 : Int32) + (1 : Int32)) + (1 : Int32))), .val (.int c1)]) d11_38 rfl rfl rfl rfl ?_
      refine w_goto X4 (pc' := 3) d11_41 (by decide) rfl ?_
      refine w_iload X4 (pc' := 5) d11_3 rfl rfl ?_
      refine w_iload X4 (pc' := 7) d11_5 rfl rfl ?_
      refine w_icmp_ge X4 44 10 d11_7 (by decide) rfl rfl (fun hc7 => by exfalso; revert hc7; decide) (fun hc7 => ?_)
      refine w_aloadN X4 (pc' := 11) d11_10 rfl rfl rfl ?_
      refine w_iloadN X4 (pc' := 12) d11_11 rfl rfl ?_
      refine w_caload X4 (pc' := 13) 2 (v := (.int c2)) d11_12 A_5 (by decide) (by decide) hf2 rfl ?_
      refine w_istore X4 (pc' := 15) (l' := #[.val (.ref a1), .val (.int (((0 : Int32) + (1 : Int32)) + (1 : Int32))), .val (.ref a3), .val (.int (((0 : Int32) + (1 : Int32)) + (1 : Int32))), .val (.int (3 : Int32)), .val (.int (((0 : Int32) + (1 : Int32)) + (1 : Int32))), .val (.int c2)]) d11_13 rfl rfl ?_
      refine w_iload X4 (pc' := 17) d11_15 rfl rfl ?_
      refine w_sipush X4 (pc' := 20) (255 : Int32) d11_17 rfl rfl ?_
      refine w_icmp_le X4 26 23 d11_20 (by decide) rfl rfl (fun hc20 => ?_) (fun hc20 => ?_)
      · skip
        have hk2 := hc20
        refine w_aloadN X4 (pc' := 27) d11_26 rfl rfl rfl ?_
        refine w_iloadN X4 (pc' := 28) d11_27 rfl rfl ?_
        refine w_iload X4 (pc' := 30) d11_28 rfl rfl ?_
        refine w_i2b X4 (pc' := 31) d11_30 rfl ?_
        refine w_bastore X4 (pc' := 32) 2 d11_31 A4 (by decide) (by decide) g_3 rfl fun T7 h7 X7 W7 A7 => ?_
        have A_8 := A_5.other W7 ne13
        have K_9 : Keep h0 h7 [a3] := K_6.wr W7 (Or.inl (List.mem_of_getElem? (i := 0) rfl))
        refine w_iinc X7 (pc' := 35) ((((0 : Int32) + (1 : Int32)) + (1 : Int32)) + (1 : Int32)) (l' := #[.val (.ref a1), .val (.int ((((0 : Int32) + (1 : Int32)) + (1 : Int32)) + (1 : Int32))), .val (.ref a3), .val (.int (((0 : Int32) + (1 : Int32)) + (1 : Int32))), .val (.int (3 : Int32)), .val (.int (((0 : Int32) + (1 : Int32)) + (1 : Int32))), .val (.int c2)]) d11_32 rfl rfl rfl rfl ?_
        refine w_iinc X7 (pc' := 38) ((((0 : Int32) + (1 : Int32)) + (1 : Int32)) + (1 : Int32)) (l' := #[.val (.ref a1), .val (.int ((((0 : Int32) + (1 : Int32)) + (1 : Int32)) + (1 : Int32))), .val (.ref a3), .val (.int ((((0 : Int32) + (1 : Int32)) + (1 : Int32)) + (1 : Int32))), .val (.int (3 : Int32)), .val (.int (((0 : Int32) + (1 : Int32)) + (1 : Int32))), .val (.int c2)]) d11_35 rfl rfl rfl rfl ?_
        refine w_iinc X7 (pc' := 41) ((((0 : Int32) + (1 : Int32)) + (1 : Int32)) + (1 : Int32)) (l' := #[.val (.ref a1), .val (.int ((((0 : Int32) + (1 : Int32)) + (1 : Int32)) + (1 : Int32))), .val (.ref a3), .val (.int ((((0 : Int32) + (1 : Int32)) + (1 : Int32)) + (1 : Int32))), .val (.int (3 : Int32)), .val (.int ((((0 : Int32) + (1 : Int32)) + (1 : Int32)) + (1 : Int32))), .val (.int c2)]) d11_38 rfl rfl rfl rfl ?_
        refine w_goto X7 (pc' := 3) d11_41 (by decide) rfl ?_
        refine w_iload X7 (pc' := 5) d11_3 rfl rfl ?_
        refine w_iload X7 (pc' := 7) d11_5 rfl rfl ?_
        refine w_icmp_ge X7 44 10 d11_7 (by decide) rfl rfl (fun hc7 => ?_) (fun hc7 => by exfalso; revert hc7; decide)
        refine w_iload X7 (pc' := 46) d11_44 rfl rfl ?_
        exact w_ireturn X7 d11_46 ⟨K_9, Or.inl ⟨rfl, own_all3 hk0 hk1 hk2, A7.congr (own_lu3 f3 c0 c1 c2)⟩⟩ (by decide) (by decide)
      · skip
        refine w_iload X4 (pc' := 25) d11_23 rfl rfl ?_
        exact w_ireturn X4 d11_25 ⟨K_6, Or.inr (Or.inr (Or.inr (⟨rfl, hc20⟩)))⟩ (by decide) (by decide)
    · skip
      refine w_iload X1 (pc' := 25) d11_23 rfl rfl ?_
      exact w_ireturn X1 d11_25 ⟨K_3, Or.inr (Or.inr (Or.inl ⟨rfl, hc20⟩))⟩ (by decide) (by decide)
  · skip
    refine w_iload X0 (pc' := 25) d11_23 rfl rfl ?_
    have Kr : Keep h0 h0 [a3] := (Keep.refl h0 [a3])
    exact w_ireturn X0 d11_25 ⟨Kr, Or.inr (Or.inl ⟨rfl, hc20⟩)⟩ (by decide) (by decide)
set_option maxRecDepth 65536 in
set_option maxHeartbeats 40000000 in
theorem rm_nbl3 {l : Launch} {Z : State} {a0 : Array Value} (hw : ∀ d ∈ tables_1, d.before a0 Z = true) {n0 : Nat} {h0 : Heap} (Z0 : n0 ≤ h0.size)   :
    Con l Z n0 (⟨"java/lang/StringUTF16", "newBytesLength", "(I)I"⟩ : MethodName) jdk_52_method_3_code 1 (some .int) ({ frames := 0, cells := 0, slots := 0, locals := 0 } : Room) #[(.int (3 : Int32))] h0 (Val (fun v h => v = .int 6 ∧ h0 = h)) := by
  refine con_intro pn_20 Z0 (fr := fun m => mkF m 0 #[.val (.int (3 : Int32))] []) (fun m => by first | (simp [entryFrame, mkF, argsToLocals, Value.category]; done) | rfl) ?_
  intro p e s m below s₁ hs0 X0
  refine w_iloadN X0 (pc' := 1) d20_0 rfl rfl ?_
  refine w_if_ge X0 12 4 d20_1 (by decide) rfl rfl (fun hc1 => ?_) (fun hc1 => by exfalso; revert hc1; decide)
  refine w_iloadN X0 (pc' := 13) d20_12 rfl rfl ?_
  refine w_ldc X0 (pc' := 15) d20_13 (hw _ (List.mem_of_getElem? (i := 88) rfl)) rfl ?_
  refine w_icmp_lt X0 55 18 d20_15 (by decide) rfl rfl (fun hc15 => ?_) (fun hc15 => by exfalso; revert hc15; decide)
  refine w_iloadN X0 (pc' := 56) d20_55 rfl rfl ?_
  refine w_iconst X0 (pc' := 57) (1 : Int32) d20_56 rfl rfl ?_
  refine w_ishl X0 (pc' := 58) d20_57 rfl ?_
  exact w_ireturn X0 d20_58 ⟨by decide, rfl⟩ (by decide) (by decide)
set_option maxRecDepth 65536 in
set_option maxHeartbeats 40000000 in
theorem rm_nbf3 {l : Launch} {Z : State} {a0 : Array Value} (hw : ∀ d ∈ tables_1, d.before a0 Z = true) {n0 : Nat} {h0 : Heap} (Z0 : n0 ≤ h0.size)   :
    Con l Z n0 (⟨"java/lang/StringUTF16", "newBytesFor", "(I)[B"⟩ : MethodName) jdk_52_method_2_code 1 (some (.array .byte)) ({ frames := 1, cells := 1, slots := 6, locals := 12 } : Room) #[(.int (3 : Int32))] h0 (Val (fun v h => ∃ b : Addr, v = .ref b ∧ b = h0.size ∧ n0 ≤ b ∧ Ext h0 h ∧ Ary Z h b .byte 6 (fun _ => .int (0 : Int32)))) := by
  refine con_intro pn_19 Z0 (fr := fun m => mkF m 0 #[.val (.int (3 : Int32))] []) (fun m => by first | (simp [entryFrame, mkF, argsToLocals, Value.category]; done) | rfl) ?_
  intro p e s m below s₁ hs0 X0
  refine w_iloadN X0 (pc' := 1) d19_0 rfl rfl ?_
  refine w_staticV X0 (pc' := 4) d19_1 (rm_nbl3 hw (h0 := h0) (sd_size X0)) (hw _ (List.mem_of_getElem? (i := 85) rfl)) (hw _ (List.mem_of_getElem? (i := 86) rfl)) (hw _ (List.mem_of_getElem? (i := 49) rfl)) (hw _ (List.mem_of_getElem? (i := 87) rfl)) (by decide) [(.int (3 : Int32))] [] pd_20 rfl rfl rfl rfl 0 (Nat.le_refl _) (by decide) (by decide) (by decide) (by decide) rfl fun T1 h1 v1 X1 q1 => ?_
  obtain ⟨rfl, rfl⟩ := q1
  refine w_newarray X1 (pc' := 6) 6 6 d19_4 (hw _ (List.mem_of_getElem? (i := 19) rfl)) (by decide) (by decide) (by decide) (by decide) (by decide) rfl fun T2 h2 b2 g2 gn2 X2 E2 A2 => ?_
  have K_b2 : Keep h0 _ [] := (Keep.refl h0 [])
  have sz_b2 : h0.size ≤ b2 := sz_fresh g2 K_b2
  have K_4 : Keep h0 h2 [] := K_b2.ext E2
  replace A2 : Ary Z h2 b2 .byte 6 (fun _ => (.int (0 : Int32))) := A2
  exact w_areturn X2 d19_6 rfl rfl rfl ⟨_, rfl, g2, gn2, kext K_4, A2⟩ (by decide) (by decide)
set_option maxRecDepth 65536 in
set_option maxHeartbeats 40000000 in
theorem rm_put3_0 {l : Launch} {Z : State} {a0 : Array Value} (hw : ∀ d ∈ tables_1, d.before a0 Z = true) {n0 : Nat} {h0 : Heap} (Z0 : n0 ≤ h0.size) (a1 : Addr) (p3 : Int32) {zc : Int32} (S_c : Sta Z h0 "java/lang/String" "COMPACT_STRINGS" "Z" (.int zc)) (hzc : ¬ zc = (0 : Int32)) {fm : Value} (S_f : Sta Z h0 "jdk/internal/util/Preconditions" "SIOOBE_FORMATTER" "Ljava/util/function/BiFunction;" fm) (hfm : fm.isRef = true) (S_a : Sta Z h0 "java/lang/StringUTF16" "$assertionsDisabled" "Z" (.int 1)) (S_h : Sta Z h0 "java/lang/StringUTF16" "HI_BYTE_SHIFT" "I" (.int 0)) (S_l : Sta Z h0 "java/lang/StringUTF16" "LO_BYTE_SHIFT" "I" (.int 8)) {f : Nat → Value} (A_1 : Ary Z h0 a1 .byte 6 f) (g_1 : n0 ≤ a1) :
    Con l Z n0 (⟨"java/lang/StringUTF16", "putChar", "([BII)V"⟩ : MethodName) jdk_52_method_4_code 3 none ({ frames := 0, cells := 0, slots := 0, locals := 0 } : Room) #[(.ref a1), (.int (0 : Int32)), (.int p3)] h0 (Non (fun h => Keep h0 h [a1] ∧ Ary Z h a1 .byte 6 (upd (upd f 0 (.int p3.toInt8.toInt32)) 1 (.int (p3 >>> ((8 : Int32) &&& 31)).toInt8.toInt32)))) := by
  refine con_intro pn_21 Z0 (fr := fun m => mkF m 0 #[.val (.ref a1), .val (.int (0 : Int32)), .val (.int p3)] []) (fun m => by first | (simp [entryFrame, mkF, argsToLocals, Value.category]; done) | rfl) ?_
  intro p e s m below s₁ hs0 X0
  refine w_getstatic X0 (pc' := 3) d21_0 (host := "") (Or.inl (hw _ (List.mem_of_getElem? (i := 92) rfl))) Via.refl S_a rfl fun T1 X1 => ?_
  refine w_if_ne X1 28 6 d21_3 (by decide) rfl rfl (fun hc3 => ?_) (fun hc3 => by exfalso; revert hc3; decide)
  refine w_iloadN X1 (pc' := 29) d21_28 rfl rfl ?_
  refine w_iconst X1 (pc' := 30) (1 : Int32) d21_29 rfl rfl ?_
  refine w_ishl X1 (pc' := 31) d21_30 rfl ?_
  rw [show ((0 : Int32) <<< ((1 : Int32) &&& 31)) = (0 : Int32) from by decide]
  show Go p e below _ (T1.setTop (mkF m 31 #[.val (.ref a1), .val (.int (0 : Int32)), .val (.int p3)] [(.int (0 : Int32))]))
  refine w_istoreN X1 (pc' := 32) (l' := #[.val (.ref a1), .val (.int (0 : Int32)), .val (.int p3)]) d21_31 rfl rfl ?_
  refine w_aloadN X1 (pc' := 33) d21_32 rfl rfl rfl ?_
  refine w_iloadN X1 (pc' := 34) d21_33 rfl rfl ?_
  refine w_iinc X1 (pc' := 37) ((0 : Int32) + (1 : Int32)) (l' := #[.val (.ref a1), .val (.int ((0 : Int32) + (1 : Int32))), .val (.int p3)]) d21_34 rfl rfl rfl rfl ?_
  refine w_iloadN X1 (pc' := 38) d21_37 rfl rfl ?_
  refine w_getstatic X1 (pc' := 41) d21_38 (host := "") (Or.inl (hw _ (List.mem_of_getElem? (i := 93) rfl))) Via.refl S_h rfl fun T2 X2 => ?_
  refine w_ishr X2 (pc' := 42) d21_41 rfl ?_
  refine w_i2b X2 (pc' := 43) d21_42 rfl ?_
  refine w_bastore X2 (pc' := 44) 0 d21_43 A_1 (by decide) (by decide) g_1 rfl fun T3 h3 X3 W3 A3 => ?_
  have S_a_4 := Sta.wr W3 S_a
  have S_h_4 := Sta.wr W3 S_h
  have S_l_4 := Sta.wr W3 S_l
  have K_5r : Keep h0 _ [a1] := (Keep.refl h0 [a1])
  have K_5 : Keep h0 h3 [a1] := K_5r.wr W3 (Or.inl (List.mem_of_getElem? (i := 0) rfl))
  refine w_aloadN X3 (pc' := 45) d21_44 rfl rfl rfl ?_
  refine w_iloadN X3 (pc' := 46) d21_45 rfl rfl ?_
  refine w_iloadN X3 (pc' := 47) d21_46 rfl rfl ?_
  refine w_getstatic X3 (pc' := 50) d21_47 (host := "") (Or.inl (hw _ (List.mem_of_getElem? (i := 94) rfl))) Via.refl S_l_4 rfl fun T6 X6 => ?_
  refine w_ishr X6 (pc' := 51) d21_50 rfl ?_
  refine w_i2b X6 (pc' := 52) d21_51 rfl ?_
  refine w_bastore X6 (pc' := 53) 1 d21_52 A3 (by decide) (by decide) g_1 rfl fun T7 h7 X7 W7 A7 => ?_
  have S_a_8 := Sta.wr W7 S_a_4
  have S_h_8 := Sta.wr W7 S_h_4
  have S_l_8 := Sta.wr W7 S_l_4
  have K_9 : Keep h0 h7 [a1] := K_5.wr W7 (Or.inl (List.mem_of_getElem? (i := 0) rfl))
  have Ap := A7
  rw [own_pc1, own_pc2] at Ap
  exact w_return X7 d21_53 ⟨K_9, Ap⟩ (by decide) (by decide)
set_option maxRecDepth 65536 in
set_option maxHeartbeats 40000000 in
theorem rm_put3_1 {l : Launch} {Z : State} {a0 : Array Value} (hw : ∀ d ∈ tables_1, d.before a0 Z = true) {n0 : Nat} {h0 : Heap} (Z0 : n0 ≤ h0.size) (a1 : Addr) (p3 : Int32) {zc : Int32} (S_c : Sta Z h0 "java/lang/String" "COMPACT_STRINGS" "Z" (.int zc)) (hzc : ¬ zc = (0 : Int32)) {fm : Value} (S_f : Sta Z h0 "jdk/internal/util/Preconditions" "SIOOBE_FORMATTER" "Ljava/util/function/BiFunction;" fm) (hfm : fm.isRef = true) (S_a : Sta Z h0 "java/lang/StringUTF16" "$assertionsDisabled" "Z" (.int 1)) (S_h : Sta Z h0 "java/lang/StringUTF16" "HI_BYTE_SHIFT" "I" (.int 0)) (S_l : Sta Z h0 "java/lang/StringUTF16" "LO_BYTE_SHIFT" "I" (.int 8)) {f : Nat → Value} (A_1 : Ary Z h0 a1 .byte 6 f) (g_1 : n0 ≤ a1) :
    Con l Z n0 (⟨"java/lang/StringUTF16", "putChar", "([BII)V"⟩ : MethodName) jdk_52_method_4_code 3 none ({ frames := 0, cells := 0, slots := 0, locals := 0 } : Room) #[(.ref a1), (.int (1 : Int32)), (.int p3)] h0 (Non (fun h => Keep h0 h [a1] ∧ Ary Z h a1 .byte 6 (upd (upd f 2 (.int p3.toInt8.toInt32)) 3 (.int (p3 >>> ((8 : Int32) &&& 31)).toInt8.toInt32)))) := by
  refine con_intro pn_21 Z0 (fr := fun m => mkF m 0 #[.val (.ref a1), .val (.int (1 : Int32)), .val (.int p3)] []) (fun m => by first | (simp [entryFrame, mkF, argsToLocals, Value.category]; done) | rfl) ?_
  intro p e s m below s₁ hs0 X0
  refine w_getstatic X0 (pc' := 3) d21_0 (host := "") (Or.inl (hw _ (List.mem_of_getElem? (i := 92) rfl))) Via.refl S_a rfl fun T1 X1 => ?_
  refine w_if_ne X1 28 6 d21_3 (by decide) rfl rfl (fun hc3 => ?_) (fun hc3 => by exfalso; revert hc3; decide)
  refine w_iloadN X1 (pc' := 29) d21_28 rfl rfl ?_
  refine w_iconst X1 (pc' := 30) (1 : Int32) d21_29 rfl rfl ?_
  refine w_ishl X1 (pc' := 31) d21_30 rfl ?_
  rw [show ((1 : Int32) <<< ((1 : Int32) &&& 31)) = (2 : Int32) from by decide]
  show Go p e below _ (T1.setTop (mkF m 31 #[.val (.ref a1), .val (.int (1 : Int32)), .val (.int p3)] [(.int (2 : Int32))]))
  refine w_istoreN X1 (pc' := 32) (l' := #[.val (.ref a1), .val (.int (2 : Int32)), .val (.int p3)]) d21_31 rfl rfl ?_
  refine w_aloadN X1 (pc' := 33) d21_32 rfl rfl rfl ?_
  refine w_iloadN X1 (pc' := 34) d21_33 rfl rfl ?_
  refine w_iinc X1 (pc' := 37) ((2 : Int32) + (1 : Int32)) (l' := #[.val (.ref a1), .val (.int ((2 : Int32) + (1 : Int32))), .val (.int p3)]) d21_34 rfl rfl rfl rfl ?_
  refine w_iloadN X1 (pc' := 38) d21_37 rfl rfl ?_
  refine w_getstatic X1 (pc' := 41) d21_38 (host := "") (Or.inl (hw _ (List.mem_of_getElem? (i := 93) rfl))) Via.refl S_h rfl fun T2 X2 => ?_
  refine w_ishr X2 (pc' := 42) d21_41 rfl ?_
  refine w_i2b X2 (pc' := 43) d21_42 rfl ?_
  refine w_bastore X2 (pc' := 44) 2 d21_43 A_1 (by decide) (by decide) g_1 rfl fun T3 h3 X3 W3 A3 => ?_
  have S_a_4 := Sta.wr W3 S_a
  have S_h_4 := Sta.wr W3 S_h
  have S_l_4 := Sta.wr W3 S_l
  have K_5r : Keep h0 _ [a1] := (Keep.refl h0 [a1])
  have K_5 : Keep h0 h3 [a1] := K_5r.wr W3 (Or.inl (List.mem_of_getElem? (i := 0) rfl))
  refine w_aloadN X3 (pc' := 45) d21_44 rfl rfl rfl ?_
  refine w_iloadN X3 (pc' := 46) d21_45 rfl rfl ?_
  refine w_iloadN X3 (pc' := 47) d21_46 rfl rfl ?_
  refine w_getstatic X3 (pc' := 50) d21_47 (host := "") (Or.inl (hw _ (List.mem_of_getElem? (i := 94) rfl))) Via.refl S_l_4 rfl fun T6 X6 => ?_
  refine w_ishr X6 (pc' := 51) d21_50 rfl ?_
  refine w_i2b X6 (pc' := 52) d21_51 rfl ?_
  refine w_bastore X6 (pc' := 53) 3 d21_52 A3 (by decide) (by decide) g_1 rfl fun T7 h7 X7 W7 A7 => ?_
  have S_a_8 := Sta.wr W7 S_a_4
  have S_h_8 := Sta.wr W7 S_h_4
  have S_l_8 := Sta.wr W7 S_l_4
  have K_9 : Keep h0 h7 [a1] := K_5.wr W7 (Or.inl (List.mem_of_getElem? (i := 0) rfl))
  have Ap := A7
  rw [own_pc1, own_pc2] at Ap
  exact w_return X7 d21_53 ⟨K_9, Ap⟩ (by decide) (by decide)
set_option maxRecDepth 65536 in
set_option maxHeartbeats 40000000 in
theorem rm_put3_2 {l : Launch} {Z : State} {a0 : Array Value} (hw : ∀ d ∈ tables_1, d.before a0 Z = true) {n0 : Nat} {h0 : Heap} (Z0 : n0 ≤ h0.size) (a1 : Addr) (p3 : Int32) {zc : Int32} (S_c : Sta Z h0 "java/lang/String" "COMPACT_STRINGS" "Z" (.int zc)) (hzc : ¬ zc = (0 : Int32)) {fm : Value} (S_f : Sta Z h0 "jdk/internal/util/Preconditions" "SIOOBE_FORMATTER" "Ljava/util/function/BiFunction;" fm) (hfm : fm.isRef = true) (S_a : Sta Z h0 "java/lang/StringUTF16" "$assertionsDisabled" "Z" (.int 1)) (S_h : Sta Z h0 "java/lang/StringUTF16" "HI_BYTE_SHIFT" "I" (.int 0)) (S_l : Sta Z h0 "java/lang/StringUTF16" "LO_BYTE_SHIFT" "I" (.int 8)) {f : Nat → Value} (A_1 : Ary Z h0 a1 .byte 6 f) (g_1 : n0 ≤ a1) :
    Con l Z n0 (⟨"java/lang/StringUTF16", "putChar", "([BII)V"⟩ : MethodName) jdk_52_method_4_code 3 none ({ frames := 0, cells := 0, slots := 0, locals := 0 } : Room) #[(.ref a1), (.int (2 : Int32)), (.int p3)] h0 (Non (fun h => Keep h0 h [a1] ∧ Ary Z h a1 .byte 6 (upd (upd f 4 (.int p3.toInt8.toInt32)) 5 (.int (p3 >>> ((8 : Int32) &&& 31)).toInt8.toInt32)))) := by
  refine con_intro pn_21 Z0 (fr := fun m => mkF m 0 #[.val (.ref a1), .val (.int (2 : Int32)), .val (.int p3)] []) (fun m => by first | (simp [entryFrame, mkF, argsToLocals, Value.category]; done) | rfl) ?_
  intro p e s m below s₁ hs0 X0
  refine w_getstatic X0 (pc' := 3) d21_0 (host := "") (Or.inl (hw _ (List.mem_of_getElem? (i := 92) rfl))) Via.refl S_a rfl fun T1 X1 => ?_
  refine w_if_ne X1 28 6 d21_3 (by decide) rfl rfl (fun hc3 => ?_) (fun hc3 => by exfalso; revert hc3; decide)
  refine w_iloadN X1 (pc' := 29) d21_28 rfl rfl ?_
  refine w_iconst X1 (pc' := 30) (1 : Int32) d21_29 rfl rfl ?_
  refine w_ishl X1 (pc' := 31) d21_30 rfl ?_
  rw [show ((2 : Int32) <<< ((1 : Int32) &&& 31)) = (4 : Int32) from by decide]
  show Go p e below _ (T1.setTop (mkF m 31 #[.val (.ref a1), .val (.int (2 : Int32)), .val (.int p3)] [(.int (4 : Int32))]))
  refine w_istoreN X1 (pc' := 32) (l' := #[.val (.ref a1), .val (.int (4 : Int32)), .val (.int p3)]) d21_31 rfl rfl ?_
  refine w_aloadN X1 (pc' := 33) d21_32 rfl rfl rfl ?_
  refine w_iloadN X1 (pc' := 34) d21_33 rfl rfl ?_
  refine w_iinc X1 (pc' := 37) ((4 : Int32) + (1 : Int32)) (l' := #[.val (.ref a1), .val (.int ((4 : Int32) + (1 : Int32))), .val (.int p3)]) d21_34 rfl rfl rfl rfl ?_
  refine w_iloadN X1 (pc' := 38) d21_37 rfl rfl ?_
  refine w_getstatic X1 (pc' := 41) d21_38 (host := "") (Or.inl (hw _ (List.mem_of_getElem? (i := 93) rfl))) Via.refl S_h rfl fun T2 X2 => ?_
  refine w_ishr X2 (pc' := 42) d21_41 rfl ?_
  refine w_i2b X2 (pc' := 43) d21_42 rfl ?_
  refine w_bastore X2 (pc' := 44) 4 d21_43 A_1 (by decide) (by decide) g_1 rfl fun T3 h3 X3 W3 A3 => ?_
  have S_a_4 := Sta.wr W3 S_a
  have S_h_4 := Sta.wr W3 S_h
  have S_l_4 := Sta.wr W3 S_l
  have K_5r : Keep h0 _ [a1] := (Keep.refl h0 [a1])
  have K_5 : Keep h0 h3 [a1] := K_5r.wr W3 (Or.inl (List.mem_of_getElem? (i := 0) rfl))
  refine w_aloadN X3 (pc' := 45) d21_44 rfl rfl rfl ?_
  refine w_iloadN X3 (pc' := 46) d21_45 rfl rfl ?_
  refine w_iloadN X3 (pc' := 47) d21_46 rfl rfl ?_
  refine w_getstatic X3 (pc' := 50) d21_47 (host := "") (Or.inl (hw _ (List.mem_of_getElem? (i := 94) rfl))) Via.refl S_l_4 rfl fun T6 X6 => ?_
  refine w_ishr X6 (pc' := 51) d21_50 rfl ?_
  refine w_i2b X6 (pc' := 52) d21_51 rfl ?_
  refine w_bastore X6 (pc' := 53) 5 d21_52 A3 (by decide) (by decide) g_1 rfl fun T7 h7 X7 W7 A7 => ?_
  have S_a_8 := Sta.wr W7 S_a_4
  have S_h_8 := Sta.wr W7 S_h_4
  have S_l_8 := Sta.wr W7 S_l_4
  have K_9 : Keep h0 h7 [a1] := K_5.wr W7 (Or.inl (List.mem_of_getElem? (i := 0) rfl))
  have Ap := A7
  rw [own_pc1, own_pc2] at Ap
  exact w_return X7 d21_53 ⟨K_9, Ap⟩ (by decide) (by decide)
set_option maxRecDepth 65536 in
set_option maxHeartbeats 40000000 in
theorem rm_tb3 {l : Launch} {Z : State} {a0 : Array Value} (hw : ∀ d ∈ tables_1, d.before a0 Z = true) {n0 : Nat} {h0 : Heap} (Z0 : n0 ≤ h0.size) (a1 : Addr) {zc : Int32} (S_c : Sta Z h0 "java/lang/String" "COMPACT_STRINGS" "Z" (.int zc)) (hzc : ¬ zc = (0 : Int32)) {fm : Value} (S_f : Sta Z h0 "jdk/internal/util/Preconditions" "SIOOBE_FORMATTER" "Ljava/util/function/BiFunction;" fm) (hfm : fm.isRef = true) (S_a : Sta Z h0 "java/lang/StringUTF16" "$assertionsDisabled" "Z" (.int 1)) (S_h : Sta Z h0 "java/lang/StringUTF16" "HI_BYTE_SHIFT" "I" (.int 0)) (S_l : Sta Z h0 "java/lang/StringUTF16" "LO_BYTE_SHIFT" "I" (.int 8)) {c0 c1 c2 : Int32} {f : Nat → Value} (A_1 : Ary Z h0 a1 .char 3 f) (hf0 : f 0 = .int c0) (hf1 : f 1 = .int c1) (hf2 : f 2 = .int c2)  :
    Con l Z n0 (⟨"java/lang/StringUTF16", "toBytes", "([CII)[B"⟩ : MethodName) jdk_52_method_14_code 5 (some (.array .byte)) ({ frames := 2, cells := 1, slots := 6, locals := 24 } : Room) #[(.ref a1), (.int (0 : Int32)), (.int (3 : Int32))] h0 (Val (fun v h => ∃ b : Addr, v = .ref b ∧ b = h0.size ∧ n0 ≤ b ∧ Keep h0 h [] ∧ Ary Z h b .byte 6 (own_u16 [c0, c1, c2]))) := by
  refine con_intro pn_18 Z0 (fr := fun m => mkF m 0 #[.val (.ref a1), .val (.int (0 : Int32)), .val (.int (3 : Int32)), .unset, .unset] []) (fun m => by first | (simp [entryFrame, mkF, argsToLocals, Value.category]; done) | rfl) ?_
  intro p e s m below s₁ hs0 X0
  refine w_iloadN X0 (pc' := 1) d18_0 rfl rfl ?_
  refine w_staticV X0 (pc' := 4) d18_1 (rm_nbf3 hw (h0 := h0) (sd_size X0)) (hw _ (List.mem_of_getElem? (i := 82) rfl)) (hw _ (List.mem_of_getElem? (i := 83) rfl)) (hw _ (List.mem_of_getElem? (i := 49) rfl)) (hw _ (List.mem_of_getElem? (i := 84) rfl)) (by decide) [(.int (3 : Int32))] [] pd_19 rfl rfl rfl rfl 0 (Nat.le_refl _) (by decide) (by decide) (by decide) (by decide) rfl fun T1 h1 v1 X1 q1 => ?_
  obtain ⟨b1, rfl, g1, gn1, E1, A1⟩ := q1
  have ne_a1_b1 : a1 ≠ b1 := ne_new g1 A_1.lt
  have K_b1 : Keep h0 _ [] := (Keep.refl h0 [])
  have sz_b1 : h0.size ≤ b1 := sz_fresh g1 K_b1
  have A_2 := A_1.ext E1
  have K_3 : Keep h0 h1 [] := K_b1.ext E1
  refine w_astoreN X1 (pc' := 5) (l' := #[.val (.ref a1), .val (.int (0 : Int32)), .val (.int (3 : Int32)), .val (.ref b1), .unset]) d18_4 rfl rfl rfl ?_
  refine w_iconst X1 (pc' := 6) (0 : Int32) d18_5 rfl rfl ?_
  refine w_istore X1 (pc' := 8) (l' := #[.val (.ref a1), .val (.int (0 : Int32)), .val (.int (3 : Int32)), .val (.ref b1), .val (.int (0 : Int32))]) d18_6 rfl rfl ?_
  refine w_iload X1 (pc' := 10) d18_8 rfl rfl ?_
  refine w_iloadN X1 (pc' := 11) d18_10 rfl rfl ?_
  refine w_icmp_ge X1 32 14 d18_11 (by decide) rfl rfl (fun hc11 => by exfalso; revert hc11; decide) (fun hc11 => ?_)
  refine w_aloadN X1 (pc' := 15) d18_14 rfl rfl rfl ?_
  refine w_iload X1 (pc' := 17) d18_15 rfl rfl ?_
  refine w_aloadN X1 (pc' := 18) d18_17 rfl rfl rfl ?_
  refine w_iloadN X1 (pc' := 19) d18_18 rfl rfl ?_
  refine w_caload X1 (pc' := 20) 0 (v := (.int c0)) d18_19 A_2 (by decide) (by decide) hf0 rfl ?_
  refine w_staticN X1 (pc' := 23) d18_20 (rm_put3_0 hw (h0 := h1) (sd_size X1) b1 c0 (Sta.ext (kext K_3) S_c) hzc (Sta.ext (kext K_3) S_f) hfm (Sta.ext (kext K_3) S_a) (Sta.ext (kext K_3) S_h) (Sta.ext (kext K_3) S_l) A1 gn1) (hw _ (List.mem_of_getElem? (i := 89) rfl)) (hw _ (List.mem_of_getElem? (i := 90) rfl)) (hw _ (List.mem_of_getElem? (i := 49) rfl)) (hw _ (List.mem_of_getElem? (i := 91) rfl)) (by decide) [(.ref b1), (.int (0 : Int32)), (.int c0)] [] pd_21 rfl rfl rfl rfl 0 (Nat.le_refl _) (by decide) (by decide) (by decide) (by decide) rfl fun T4 h4 X4 q4 => ?_
  obtain ⟨K4, A4⟩ := q4
  have A_5 := A_2.keep K4 (ninS ne_a1_b1 nin0)
  have K_6 : Keep h0 h4 [] := K_3.trans K4 (allS (Or.inr sz_b1) all0)
  refine w_iinc X4 (pc' := 26) ((0 : Int32) + (1 : Int32)) (l' := #[.val (.ref a1), .val (.int ((0 : Int32) + (1 : Int32))), .val (.int (3 : Int32)), .val (.ref b1), .val (.int (0 : Int32))]) d18_23 rfl rfl rfl rfl ?_
  refine w_iinc X4 (pc' := 29) ((0 : Int32) + (1 : Int32)) (l' := #[.val (.ref a1), .val (.int ((0 : Int32) + (1 : Int32))), .val (.int (3 : Int32)), .val (.ref b1), .val (.int ((0 : Int32) + (1 : Int32)))]) d18_26 rfl rfl rfl rfl ?_
  refine w_goto X4 (pc' := 8) d18_29 (by decide) rfl ?_
  rw [show ((0 : Int32) + (1 : Int32)) = (1 : Int32) from by decide]
  show Go p e below _ (T4.setTop (mkF m 8 #[.val (.ref a1), .val (.int (1 : Int32)), .val (.int (3 : Int32)), .val (.ref b1), .val (.int (1 : Int32))] []))
  refine w_iload X4 (pc' := 10) d18_8 rfl rfl ?_
  refine w_iloadN X4 (pc' := 11) d18_10 rfl rfl ?_
  refine w_icmp_ge X4 32 14 d18_11 (by decide) rfl rfl (fun hc11 => by exfalso; revert hc11; decide) (fun hc11 => ?_)
  refine w_aloadN X4 (pc' := 15) d18_14 rfl rfl rfl ?_
  refine w_iload X4 (pc' := 17) d18_15 rfl rfl ?_
  refine w_aloadN X4 (pc' := 18) d18_17 rfl rfl rfl ?_
  refine w_iloadN X4 (pc' := 19) d18_18 rfl rfl ?_
  refine w_caload X4 (pc' := 20) 1 (v := (.int c1)) d18_19 A_5 (by decide) (by decide) hf1 rfl ?_
  refine w_staticN X4 (pc' := 23) d18_20 (rm_put3_1 hw (h0 := h4) (sd_size X4) b1 c1 (Sta.ext (kext K_6) S_c) hzc (Sta.ext (kext K_6) S_f) hfm (Sta.ext (kext K_6) S_a) (Sta.ext (kext K_6) S_h) (Sta.ext (kext K_6) S_l) A4 gn1) (hw _ (List.mem_of_getElem? (i := 89) rfl)) (hw _ (List.mem_of_getElem? (i := 90) rfl)) (hw _ (List.mem_of_getElem? (i := 49) rfl)) (hw _ (List.mem_of_getElem? (i := 91) rfl)) (by decide) [(.ref b1), (.int (1 : Int32)), (.int c1)] [] pd_21 rfl rfl rfl rfl 0 (Nat.le_refl _) (by decide) (by decide) (by decide) (by decide) rfl fun T7 h7 X7 q7 => ?_
  obtain ⟨K7, A7⟩ := q7
  have A_8 := A_5.keep K7 (ninS ne_a1_b1 nin0)
  have K_9 : Keep h0 h7 [] := K_6.trans K7 (allS (Or.inr sz_b1) all0)
  refine w_iinc X7 (pc' := 26) ((1 : Int32) + (1 : Int32)) (l' := #[.val (.ref a1), .val (.int ((1 : Int32) + (1 : Int32))), .val (.int (3 : Int32)), .val (.ref b1), .val (.int (1 : Int32))]) d18_23 rfl rfl rfl rfl ?_
  refine w_iinc X7 (pc' := 29) ((1 : Int32) + (1 : Int32)) (l' := #[.val (.ref a1), .val (.int ((1 : Int32) + (1 : Int32))), .val (.int (3 : Int32)), .val (.ref b1), .val (.int ((1 : Int32) + (1 : Int32)))]) d18_26 rfl rfl rfl rfl ?_
  refine w_goto X7 (pc' := 8) d18_29 (by decide) rfl ?_
  rw [show ((1 : Int32) + (1 : Int32)) = (2 : Int32) from by decide]
  show Go p e below _ (T7.setTop (mkF m 8 #[.val (.ref a1), .val (.int (2 : Int32)), .val (.int (3 : Int32)), .val (.ref b1), .val (.int (2 : Int32))] []))
  refine w_iload X7 (pc' := 10) d18_8 rfl rfl ?_
  refine w_iloadN X7 (pc' := 11) d18_10 rfl rfl ?_
  refine w_icmp_ge X7 32 14 d18_11 (by decide) rfl rfl (fun hc11 => by exfalso; revert hc11; decide) (fun hc11 => ?_)
  refine w_aloadN X7 (pc' := 15) d18_14 rfl rfl rfl ?_
  refine w_iload X7 (pc' := 17) d18_15 rfl rfl ?_
  refine w_aloadN X7 (pc' := 18) d18_17 rfl rfl rfl ?_
  refine w_iloadN X7 (pc' := 19) d18_18 rfl rfl ?_
  refine w_caload X7 (pc' := 20) 2 (v := (.int c2)) d18_19 A_8 (by decide) (by decide) hf2 rfl ?_
  refine w_staticN X7 (pc' := 23) d18_20 (rm_put3_2 hw (h0 := h7) (sd_size X7) b1 c2 (Sta.ext (kext K_9) S_c) hzc (Sta.ext (kext K_9) S_f) hfm (Sta.ext (kext K_9) S_a) (Sta.ext (kext K_9) S_h) (Sta.ext (kext K_9) S_l) A7 gn1) (hw _ (List.mem_of_getElem? (i := 89) rfl)) (hw _ (List.mem_of_getElem? (i := 90) rfl)) (hw _ (List.mem_of_getElem? (i := 49) rfl)) (hw _ (List.mem_of_getElem? (i := 91) rfl)) (by decide) [(.ref b1), (.int (2 : Int32)), (.int c2)] [] pd_21 rfl rfl rfl rfl 0 (Nat.le_refl _) (by decide) (by decide) (by decide) (by decide) rfl fun T10 h10 X10 q10 => ?_
  obtain ⟨K10, A10⟩ := q10
  have A_11 := A_8.keep K10 (ninS ne_a1_b1 nin0)
  have K_12 : Keep h0 h10 [] := K_9.trans K10 (allS (Or.inr sz_b1) all0)
  refine w_iinc X10 (pc' := 26) ((2 : Int32) + (1 : Int32)) (l' := #[.val (.ref a1), .val (.int ((2 : Int32) + (1 : Int32))), .val (.int (3 : Int32)), .val (.ref b1), .val (.int (2 : Int32))]) d18_23 rfl rfl rfl rfl ?_
  refine w_iinc X10 (pc' := 29) ((2 : Int32) + (1 : Int32)) (l' := #[.val (.ref a1), .val (.int ((2 : Int32) + (1 : Int32))), .val (.int (3 : Int32)), .val (.ref b1), .val (.int ((2 : Int32) + (1 : Int32)))]) d18_26 rfl rfl rfl rfl ?_
  refine w_goto X10 (pc' := 8) d18_29 (by decide) rfl ?_
  rw [show ((2 : Int32) + (1 : Int32)) = (3 : Int32) from by decide]
  show Go p e below _ (T10.setTop (mkF m 8 #[.val (.ref a1), .val (.int (3 : Int32)), .val (.int (3 : Int32)), .val (.ref b1), .val (.int (3 : Int32))] []))
  refine w_iload X10 (pc' := 10) d18_8 rfl rfl ?_
  refine w_iloadN X10 (pc' := 11) d18_10 rfl rfl ?_
  refine w_icmp_ge X10 32 14 d18_11 (by decide) rfl rfl (fun hc11 => ?_) (fun hc11 => by exfalso; revert hc11; decide)
  refine w_aloadN X10 (pc' := 33) d18_32 rfl rfl rfl ?_
  have Au : Ary Z h10 b1 .byte 6 (own_u16 [c0, c1, c2]) := A10.congr (fun i hi => by
    have : i = 0 ∨ i = 1 ∨ i = 2 ∨ i = 3 ∨ i = 4 ∨ i = 5 := by omega
    rcases this with rfl | rfl | rfl | rfl | rfl | rfl <;> rfl)
  exact w_areturn X10 d18_33 rfl rfl rfl ⟨_, rfl, g1, gn1, K_12, Au⟩ (by decide) (by decide)
set_option maxRecDepth 65536 in
set_option maxHeartbeats 40000000 in
theorem rm_cmB3 {l : Launch} {Z : State} {a0 : Array Value} (hw : ∀ d ∈ tables_1, d.before a0 Z = true) {n0 : Nat} {h0 : Heap} (Z0 : n0 ≤ h0.size) (a1 : Addr) {zc : Int32} (S_c : Sta Z h0 "java/lang/String" "COMPACT_STRINGS" "Z" (.int zc)) (hzc : ¬ zc = (0 : Int32)) {fm : Value} (S_f : Sta Z h0 "jdk/internal/util/Preconditions" "SIOOBE_FORMATTER" "Ljava/util/function/BiFunction;" fm) (hfm : fm.isRef = true) (S_a : Sta Z h0 "java/lang/StringUTF16" "$assertionsDisabled" "Z" (.int 1)) (S_h : Sta Z h0 "java/lang/StringUTF16" "HI_BYTE_SHIFT" "I" (.int 0)) (S_l : Sta Z h0 "java/lang/StringUTF16" "LO_BYTE_SHIFT" "I" (.int 8)) {c0 c1 c2 : Int32} (R0 : own_R c0) (R1 : own_R c1) (R2 : own_R c2) {f : Nat → Value} (A_1 : Ary Z h0 a1 .char 3 f) (hf0 : f 0 = .int c0) (hf1 : f 1 = .int c1) (hf2 : f 2 = .int c2)  :
    Con l Z n0 (⟨"java/lang/StringUTF16", "compress", "([CII)[B"⟩ : MethodName) jdk_52_method_16_code 6 (some (.array .byte)) ({ frames := 3, cells := 2, slots := 9, locals := 40 } : Room) #[(.ref a1), (.int (0 : Int32)), (.int (3 : Int32))] h0 (Val (fun v h => ∃ b : Addr, v = .ref b ∧ h0.size ≤ b ∧ n0 ≤ b ∧ Keep h0 h [] ∧ (((∀ i, i < 3 → ¬ (255 : Int32) < [c0, c1, c2].getD i 0) ∧ Ary Z h b .byte 3 (fun i => .int ([c0, c1, c2].getD i 0).toInt8.toInt32)) ∨ Ary Z h b .byte 6 (own_u16 [c0, c1, c2])))) := by
  refine con_intro pn_10 Z0 (fr := fun m => mkF m 0 #[.val (.ref a1), .val (.int (0 : Int32)), .val (.int (3 : Int32)), .unset, .unset, .unset] []) (fun m => by first | (simp [entryFrame, mkF, argsToLocals, Value.category]; done) | rfl) ?_
  intro p e s m below s₁ hs0 X0
  refine w_iloadN X0 (pc' := 1) d10_0 rfl rfl ?_
  refine w_newarray X0 (pc' := 3) 3 3 d10_1 (hw _ (List.mem_of_getElem? (i := 19) rfl)) (by decide) (by decide) (by decide) (by decide) (by decide) rfl fun T1 h1 b1 g1 gn1 X1 E1 A1 => ?_
  have ne_a1_b1 : a1 ≠ b1 := ne_new g1 A_1.lt
  have K_b1 : Keep h0 _ [] := (Keep.refl h0 [])
  have sz_b1 : h0.size ≤ b1 := sz_fresh g1 K_b1
  have A_2 := A_1.ext E1
  have K_3 : Keep h0 h1 [] := K_b1.ext E1
  replace A1 : Ary Z h1 b1 .byte 3 (fun _ => (.int (0 : Int32))) := A1
  refine w_astoreN X1 (pc' := 4) (l' := #[.val (.ref a1), .val (.int (0 : Int32)), .val (.int (3 : Int32)), .val (.ref b1), .unset, .unset]) d10_3 rfl rfl rfl ?_
  refine w_aloadN X1 (pc' := 5) d10_4 rfl rfl rfl ?_
  refine w_iloadN X1 (pc' := 6) d10_5 rfl rfl ?_
  refine w_aloadN X1 (pc' := 7) d10_6 rfl rfl rfl ?_
  refine w_iconst X1 (pc' := 8) (0 : Int32) d10_7 rfl rfl ?_
  refine w_iloadN X1 (pc' := 9) d10_8 rfl rfl ?_
  refine w_staticV X1 (pc' := 12) d10_9 (rm_cmI3 hw (h0 := h1) (sd_size X1) a1 b1 A_2 A1 ne_a1_b1 gn1 hf0 hf1 hf2) (hw _ (List.mem_of_getElem? (i := 51) rfl)) (hw _ (List.mem_of_getElem? (i := 52) rfl)) (hw _ (List.mem_of_getElem? (i := 49) rfl)) (hw _ (List.mem_of_getElem? (i := 53) rfl)) (by decide) [(.ref a1), (.int (0 : Int32)), (.ref b1), (.int (0 : Int32)), (.int (3 : Int32))] [] pd_11 rfl rfl rfl rfl 0 (Nat.le_refl _) (by decide) (by decide) (by decide) (by decide) rfl fun T4 h4 v4 X4 q4 => ?_
  obtain ⟨K4, D4⟩ := q4
  have A_5 := A_2.keep K4 (ninS ne_a1_b1 nin0)
  have K_6 : Keep h0 h4 [] := K_3.trans K4 (allS (Or.inr sz_b1) all0)
  rcases D4 with ⟨rfl, hall, AL⟩ | ⟨rfl, hbig⟩ | ⟨rfl, hbig⟩ | ⟨rfl, hbig⟩
  · skip
    show Go p e below _ (T4.setTop (mkF m 12 #[.val (.ref a1), .val (.int (0 : Int32)), .val (.int (3 : Int32)), .val (.ref b1), .unset, .unset] [(.int (3 : Int32))]))
    refine w_istore X4 (pc' := 14) (l' := #[.val (.ref a1), .val (.int (0 : Int32)), .val (.int (3 : Int32)), .val (.ref b1), .val (.int (3 : Int32)), .unset]) d10_12 rfl rfl ?_
    refine w_iload X4 (pc' := 16) d10_14 rfl rfl ?_
    refine w_iloadN X4 (pc' := 17) d10_16 rfl rfl ?_
    refine w_icmp_eq X4 57 20 d10_17 (by decide) rfl rfl (fun hc17 => ?_) (fun hc17 => by exfalso; revert hc17; decide)
    refine w_aloadN X4 (pc' := 58) d10_57 rfl rfl rfl ?_
    exact w_areturn X4 d10_58 rfl rfl rfl ⟨_, rfl, sz_b1, gn1, K_6, Or.inl ⟨hall, AL⟩⟩ (by decide) (by decide)
  · skip
    show Go p e below _ (T4.setTop (mkF m 12 #[.val (.ref a1), .val (.int (0 : Int32)), .val (.int (3 : Int32)), .val (.ref b1), .unset, .unset] [(.int (0 : Int32))]))
    refine w_istore X4 (pc' := 14) (l' := #[.val (.ref a1), .val (.int (0 : Int32)), .val (.int (3 : Int32)), .val (.ref b1), .val (.int (0 : Int32)), .unset]) d10_12 rfl rfl ?_
    refine w_iload X4 (pc' := 16) d10_14 rfl rfl ?_
    refine w_iloadN X4 (pc' := 17) d10_16 rfl rfl ?_
    refine w_icmp_eq X4 57 20 d10_17 (by decide) rfl rfl (fun hc17 => by exfalso; revert hc17; decide) (fun hc17 => ?_)
    refine w_aloadN X4 (pc' := 21) d10_20 rfl rfl rfl ?_
    refine w_iloadN X4 (pc' := 22) d10_21 rfl rfl ?_
    refine w_iloadN X4 (pc' := 23) d10_22 rfl rfl ?_
    refine w_staticV X4 (pc' := 26) d10_23 (rm_tb3 hw (h0 := h4) (sd_size X4) a1 (Sta.ext (kext K_6) S_c) hzc (Sta.ext (kext K_6) S_f) hfm (Sta.ext (kext K_6) S_a) (Sta.ext (kext K_6) S_h) (Sta.ext (kext K_6) S_l) A_5 hf0 hf1 hf2) (hw _ (List.mem_of_getElem? (i := 79) rfl)) (hw _ (List.mem_of_getElem? (i := 80) rfl)) (hw _ (List.mem_of_getElem? (i := 49) rfl)) (hw _ (List.mem_of_getElem? (i := 81) rfl)) (by decide) [(.ref a1), (.int (0 : Int32)), (.int (3 : Int32))] [] pd_18 rfl rfl rfl rfl 0 (Nat.le_refl _) (by decide) (by decide) (by decide) (by decide) rfl fun T7 h7 v7 X7 q7 => ?_
    obtain ⟨b7, rfl, g7, gn7, K7, A7⟩ := q7
    have ne_a1_b7 : a1 ≠ b7 := ne_new g7 A_5.lt
    have sz_b7 : h0.size ≤ b7 := sz_fresh g7 K_6
    have A_8 := A_5.keep K7 nin0
    have K_9 : Keep h0 h7 [] := K_6.trans K7 all0
    refine w_astore X7 (pc' := 28) (l' := #[.val (.ref a1), .val (.int (0 : Int32)), .val (.int (3 : Int32)), .val (.ref b1), .val (.int (0 : Int32)), .val (.ref b7)]) d10_26 rfl rfl rfl ?_
    refine w_aload X7 (pc' := 30) d10_28 rfl rfl rfl ?_
    refine w_iload X7 (pc' := 32) d10_30 rfl rfl ?_
    refine w_staticV X7 (pc' := 35) d10_32 (rm_gc3_0 hw (h0 := h7) (sd_size X7) b7 (Sta.ext (kext K_9) S_c) hzc (Sta.ext (kext K_9) S_f) hfm (Sta.ext (kext K_9) S_a) (Sta.ext (kext K_9) S_h) (Sta.ext (kext K_9) S_l) R0 R1 R2 A7) (hw _ (List.mem_of_getElem? (i := 95) rfl)) (hw _ (List.mem_of_getElem? (i := 96) rfl)) (hw _ (List.mem_of_getElem? (i := 49) rfl)) (hw _ (List.mem_of_getElem? (i := 97) rfl)) (by decide) [(.ref b7), (.int (0 : Int32))] [] pd_22 rfl rfl rfl rfl 0 (Nat.le_refl _) (by decide) (by decide) (by decide) (by decide) rfl fun T10 h10 v10 X10 q10 => ?_
    obtain ⟨rfl, rfl⟩ := q10
    refine w_sipush X10 (pc' := 38) (255 : Int32) d10_35 rfl rfl ?_
    refine w_icmp_gt X10 54 41 d10_38 (by decide) rfl rfl (fun hc38 => ?_) (fun hc38 => by exfalso; exact hc38 hbig)
    refine w_aload X10 (pc' := 56) d10_54 rfl rfl rfl ?_
    exact w_areturn X10 d10_56 rfl rfl rfl ⟨_, rfl, sz_b7, gn7, K_9, Or.inr A7⟩ (by decide) (by decide)
  · skip
    show Go p e below _ (T4.setTop (mkF m 12 #[.val (.ref a1), .val (.int (0 : Int32)), .val (.int (3 : Int32)), .val (.ref b1), .unset, .unset] [(.int (1 : Int32))]))
    refine w_istore X4 (pc' := 14) (l' := #[.val (.ref a1), .val (.int (0 : Int32)), .val (.int (3 : Int32)), .val (.ref b1), .val (.int (1 : Int32)), .unset]) d10_12 rfl rfl ?_
    refine w_iload X4 (pc' := 16) d10_14 rfl rfl ?_
    refine w_iloadN X4 (pc' := 17) d10_16 rfl rfl ?_
    refine w_icmp_eq X4 57 20 d10_17 (by decide) rfl rfl (fun hc17 => by exfalso; revert hc17; decide) (fun hc17 => ?_)
    refine w_aloadN X4 (pc' := 21) d10_20 rfl rfl rfl ?_
    refine w_iloadN X4 (pc' := 22) d10_21 rfl rfl ?_
    refine w_iloadN X4 (pc' := 23) d10_22 rfl rfl ?_
    refine w_staticV X4 (pc' := 26) d10_23 (rm_tb3 hw (h0 := h4) (sd_size X4) a1 (Sta.ext (kext K_6) S_c) hzc (Sta.ext (kext K_6) S_f) hfm (Sta.ext (kext K_6) S_a) (Sta.ext (kext K_6) S_h) (Sta.ext (kext K_6) S_l) A_5 hf0 hf1 hf2) (hw _ (List.mem_of_getElem? (i := 79) rfl)) (hw _ (List.mem_of_getElem? (i := 80) rfl)) (hw _ (List.mem_of_getElem? (i := 49) rfl)) (hw _ (List.mem_of_getElem? (i := 81) rfl)) (by decide) [(.ref a1), (.int (0 : Int32)), (.int (3 : Int32))] [] pd_18 rfl rfl rfl rfl 0 (Nat.le_refl _) (by decide) (by decide) (by decide) (by decide) rfl fun T11 h11 v11 X11 q11 => ?_
    obtain ⟨b11, rfl, g11, gn11, K11, A11⟩ := q11
    have ne_a1_b11 : a1 ≠ b11 := ne_new g11 A_5.lt
    have sz_b11 : h0.size ≤ b11 := sz_fresh g11 K_6
    have A_12 := A_5.keep K11 nin0
    have K_13 : Keep h0 h11 [] := K_6.trans K11 all0
    refine w_astore X11 (pc' := 28) (l' := #[.val (.ref a1), .val (.int (0 : Int32)), .val (.int (3 : Int32)), .val (.ref b1), .val (.int (1 : Int32)), .val (.ref b11)]) d10_26 rfl rfl rfl ?_
    refine w_aload X11 (pc' := 30) d10_28 rfl rfl rfl ?_
    refine w_iload X11 (pc' := 32) d10_30 rfl rfl ?_
    refine w_staticV X11 (pc' := 35) d10_32 (rm_gc3_1 hw (h0 := h11) (sd_size X11) b11 (Sta.ext (kext K_13) S_c) hzc (Sta.ext (kext K_13) S_f) hfm (Sta.ext (kext K_13) S_a) (Sta.ext (kext K_13) S_h) (Sta.ext (kext K_13) S_l) R0 R1 R2 A11) (hw _ (List.mem_of_getElem? (i := 95) rfl)) (hw _ (List.mem_of_getElem? (i := 96) rfl)) (hw _ (List.mem_of_getElem? (i := 49) rfl)) (hw _ (List.mem_of_getElem? (i := 97) rfl)) (by decide) [(.ref b11), (.int (1 : Int32))] [] pd_22 rfl rfl rfl rfl 0 (Nat.le_refl _) (by decide) (by decide) (by decide) (by decide) rfl fun T14 h14 v14 X14 q14 => ?_
    obtain ⟨rfl, rfl⟩ := q14
    refine w_sipush X14 (pc' := 38) (255 : Int32) d10_35 rfl rfl ?_
    refine w_icmp_gt X14 54 41 d10_38 (by decide) rfl rfl (fun hc38 => ?_) (fun hc38 => by exfalso; exact hc38 hbig)
    refine w_aload X14 (pc' := 56) d10_54 rfl rfl rfl ?_
    exact w_areturn X14 d10_56 rfl rfl rfl ⟨_, rfl, sz_b11, gn11, K_13, Or.inr A11⟩ (by decide) (by decide)
  · skip
    show Go p e below _ (T4.setTop (mkF m 12 #[.val (.ref a1), .val (.int (0 : Int32)), .val (.int (3 : Int32)), .val (.ref b1), .unset, .unset] [(.int (2 : Int32))]))
    refine w_istore X4 (pc' := 14) (l' := #[.val (.ref a1), .val (.int (0 : Int32)), .val (.int (3 : Int32)), .val (.ref b1), .val (.int (2 : Int32)), .unset]) d10_12 rfl rfl ?_
    refine w_iload X4 (pc' := 16) d10_14 rfl rfl ?_
    refine w_iloadN X4 (pc' := 17) d10_16 rfl rfl ?_
    refine w_icmp_eq X4 57 20 d10_17 (by decide) rfl rfl (fun hc17 => by exfalso; revert hc17; decide) (fun hc17 => ?_)
    refine w_aloadN X4 (pc' := 21) d10_20 rfl rfl rfl ?_
    refine w_iloadN X4 (pc' := 22) d10_21 rfl rfl ?_
    refine w_iloadN X4 (pc' := 23) d10_22 rfl rfl ?_
    refine w_staticV X4 (pc' := 26) d10_23 (rm_tb3 hw (h0 := h4) (sd_size X4) a1 (Sta.ext (kext K_6) S_c) hzc (Sta.ext (kext K_6) S_f) hfm (Sta.ext (kext K_6) S_a) (Sta.ext (kext K_6) S_h) (Sta.ext (kext K_6) S_l) A_5 hf0 hf1 hf2) (hw _ (List.mem_of_getElem? (i := 79) rfl)) (hw _ (List.mem_of_getElem? (i := 80) rfl)) (hw _ (List.mem_of_getElem? (i := 49) rfl)) (hw _ (List.mem_of_getElem? (i := 81) rfl)) (by decide) [(.ref a1), (.int (0 : Int32)), (.int (3 : Int32))] [] pd_18 rfl rfl rfl rfl 0 (Nat.le_refl _) (by decide) (by decide) (by decide) (by decide) rfl fun T15 h15 v15 X15 q15 => ?_
    obtain ⟨b15, rfl, g15, gn15, K15, A15⟩ := q15
    have ne_a1_b15 : a1 ≠ b15 := ne_new g15 A_5.lt
    have sz_b15 : h0.size ≤ b15 := sz_fresh g15 K_6
    have A_16 := A_5.keep K15 nin0
    have K_17 : Keep h0 h15 [] := K_6.trans K15 all0
    refine w_astore X15 (pc' := 28) (l' := #[.val (.ref a1), .val (.int (0 : Int32)), .val (.int (3 : Int32)), .val (.ref b1), .val (.int (2 : Int32)), .val (.ref b15)]) d10_26 rfl rfl rfl ?_
    refine w_aload X15 (pc' := 30) d10_28 rfl rfl rfl ?_
    refine w_iload X15 (pc' := 32) d10_30 rfl rfl ?_
    refine w_staticV X15 (pc' := 35) d10_32 (rm_gc3_2 hw (h0 := h15) (sd_size X15) b15 (Sta.ext (kext K_17) S_c) hzc (Sta.ext (kext K_17) S_f) hfm (Sta.ext (kext K_17) S_a) (Sta.ext (kext K_17) S_h) (Sta.ext (kext K_17) S_l) R0 R1 R2 A15) (hw _ (List.mem_of_getElem? (i := 95) rfl)) (hw _ (List.mem_of_getElem? (i := 96) rfl)) (hw _ (List.mem_of_getElem? (i := 49) rfl)) (hw _ (List.mem_of_getElem? (i := 97) rfl)) (by decide) [(.ref b15), (.int (2 : Int32))] [] pd_22 rfl rfl rfl rfl 0 (Nat.le_refl _) (by decide) (by decide) (by decide) (by decide) rfl fun T18 h18 v18 X18 q18 => ?_
    obtain ⟨rfl, rfl⟩ := q18
    refine w_sipush X18 (pc' := 38) (255 : Int32) d10_35 rfl rfl ?_
    refine w_icmp_gt X18 54 41 d10_38 (by decide) rfl rfl (fun hc38 => ?_) (fun hc38 => by exfalso; exact hc38 hbig)
    refine w_aload X18 (pc' := 56) d10_54 rfl rfl rfl ?_
    exact w_areturn X18 d10_56 rfl rfl rfl ⟨_, rfl, sz_b15, gn15, K_17, Or.inr A15⟩ (by decide) (by decide)
set_option maxRecDepth 65536 in
set_option maxHeartbeats 40000000 in
theorem rm_cfl3_0 {l : Launch} {Z : State} {a0 : Array Value} (hw : ∀ d ∈ tables_1, d.before a0 Z = true) {n0 : Nat} {h0 : Heap} (Z0 : n0 ≤ h0.size) (a1 : Addr) {f : Nat → Value} (A_1 : Ary Z h0 a1 .byte 3 f) :
    Con l Z n0 (⟨"java/lang/StringUTF16", "coderFromArrayLen", "([BI)B"⟩ : MethodName) jdk_52_method_15_code 2 (some .byte) ({ frames := 0, cells := 0, slots := 0, locals := 0 } : Room) #[(.ref a1), (.int (3 : Int32))] h0 (Val (fun v h => v = .int 0 ∧ h0 = h)) := by
  refine con_intro pn_12 Z0 (fr := fun m => mkF m 0 #[.val (.ref a1), .val (.int (3 : Int32))] []) (fun m => by first | (simp [entryFrame, mkF, argsToLocals, Value.category]; done) | rfl) ?_
  intro p e s m below s₁ hs0 X0
  refine w_iloadN X0 (pc' := 1) d12_0 rfl rfl ?_
  refine w_aloadN X0 (pc' := 2) d12_1 rfl rfl rfl ?_
  refine w_arraylength X0 (pc' := 3) (3 : Int32) d12_2 A_1 (by decide) rfl ?_
  refine w_isub X0 (pc' := 4) d12_3 rfl ?_
  refine w_bipush X0 (pc' := 6) (31 : Int32) d12_4 rfl rfl ?_
  refine w_iushr X0 (pc' := 7) d12_6 rfl ?_
  refine w_i2b X0 (pc' := 8) d12_7 rfl ?_
  exact w_breturn X0 d12_8 ⟨by decide, rfl⟩ (by decide) (by decide)
set_option maxRecDepth 65536 in
set_option maxHeartbeats 40000000 in
theorem rm_cfl3_1 {l : Launch} {Z : State} {a0 : Array Value} (hw : ∀ d ∈ tables_1, d.before a0 Z = true) {n0 : Nat} {h0 : Heap} (Z0 : n0 ≤ h0.size) (a1 : Addr) {f : Nat → Value} (A_1 : Ary Z h0 a1 .byte 6 f) :
    Con l Z n0 (⟨"java/lang/StringUTF16", "coderFromArrayLen", "([BI)B"⟩ : MethodName) jdk_52_method_15_code 2 (some .byte) ({ frames := 0, cells := 0, slots := 0, locals := 0 } : Room) #[(.ref a1), (.int (3 : Int32))] h0 (Val (fun v h => v = .int 1 ∧ h0 = h)) := by
  refine con_intro pn_12 Z0 (fr := fun m => mkF m 0 #[.val (.ref a1), .val (.int (3 : Int32))] []) (fun m => by first | (simp [entryFrame, mkF, argsToLocals, Value.category]; done) | rfl) ?_
  intro p e s m below s₁ hs0 X0
  refine w_iloadN X0 (pc' := 1) d12_0 rfl rfl ?_
  refine w_aloadN X0 (pc' := 2) d12_1 rfl rfl rfl ?_
  refine w_arraylength X0 (pc' := 3) (6 : Int32) d12_2 A_1 (by decide) rfl ?_
  refine w_isub X0 (pc' := 4) d12_3 rfl ?_
  refine w_bipush X0 (pc' := 6) (31 : Int32) d12_4 rfl rfl ?_
  refine w_iushr X0 (pc' := 7) d12_6 rfl ?_
  refine w_i2b X0 (pc' := 8) d12_7 rfl ?_
  exact w_breturn X0 d12_8 ⟨by decide, rfl⟩ (by decide) (by decide)
set_option maxRecDepth 65536 in
set_option maxHeartbeats 40000000 in
theorem rm_sv3 {l : Launch} {Z : State} {a0 : Array Value} (hw : ∀ d ∈ tables_1, d.before a0 Z = true) {n0 : Nat} {h0 : Heap} (Z0 : n0 ≤ h0.size) (a1 a2 : Addr) {zc : Int32} (S_c : Sta Z h0 "java/lang/String" "COMPACT_STRINGS" "Z" (.int zc)) (hzc : ¬ zc = (0 : Int32)) {fm : Value} (S_f : Sta Z h0 "jdk/internal/util/Preconditions" "SIOOBE_FORMATTER" "Ljava/util/function/BiFunction;" fm) (hfm : fm.isRef = true) (S_a : Sta Z h0 "java/lang/StringUTF16" "$assertionsDisabled" "Z" (.int 1)) (S_h : Sta Z h0 "java/lang/StringUTF16" "HI_BYTE_SHIFT" "I" (.int 0)) (S_l : Sta Z h0 "java/lang/StringUTF16" "LO_BYTE_SHIFT" "I" (.int 8)) {c0 c1 c2 : Int32} (R0 : own_R c0) (R1 : own_R c1) (R2 : own_R c2) {f : Nat → Value} {u1 u2 : Value} (E_1 : Exa Z h0 a1 "java/lang/String") (F_v : Fld Z h0 a1 "java/lang/String" "value" "[B" u1) (F_c : Fld Z h0 a1 "java/lang/String" "coder" "B" u2) (g_1 : n0 ≤ a1) (A_2 : Ary Z h0 a2 .char 3 f) (ne12 : a1 ≠ a2) (hf0 : f 0 = .int c0) (hf1 : f 1 = .int c1) (hf2 : f 2 = .int c2)  :
    Con l Z n0 (⟨"java/lang/String", "<init>", "([CIILjava/lang/Void;)V"⟩ : MethodName) jdk_42_method_149_code 6 none ({ frames := 4, cells := 2, slots := 9, locals := 57 } : Room) #[(.ref a1), (.ref a2), (.int (0 : Int32)), (.int (3 : Int32)), .null] h0 (Non (fun h => Keep h0 h [a1] ∧ StrU Z h a1 [c0, c1, c2])) := by
  refine con_intro pn_3 Z0 (fr := fun m => mkF m 0 #[.val (.ref a1), .val (.ref a2), .val (.int (0 : Int32)), .val (.int (3 : Int32)), .val .null, .unset] []) (fun m => by first | (simp [entryFrame, mkF, argsToLocals, Value.category]; done) | rfl) ?_
  intro p e s m below s₁ hs0 X0
  refine w_aloadN X0 (pc' := 1) d3_0 rfl rfl rfl ?_
  refine w_initO X0 (pc' := 4) d3_1 (hw _ (List.mem_of_getElem? (i := 15) rfl)) (hw _ (List.mem_of_getElem? (i := 16) rfl)) (hw _ (List.mem_of_getElem? (i := 17) rfl)) rfl (by decide) 0 (Nat.le_refl _) (by decide) rfl fun T1 X1 => ?_
  refine w_iloadN X1 (pc' := 5) d3_4 rfl rfl ?_
  refine w_if_ne X1 27 8 d3_5 (by decide) rfl rfl (fun hc5 => ?_) (fun hc5 => by exfalso; revert hc5; decide)
  refine w_getstatic X1 (pc' := 30) d3_27 (host := "") (Or.inl (hw _ (List.mem_of_getElem? (i := 40) rfl))) Via.refl S_c rfl fun T2 X2 => ?_
  refine w_if_eq X2 58 33 d3_30 (by decide) rfl rfl (fun hc30 => by exfalso; exact hzc hc30) (fun hc30 => ?_)
  refine w_aloadN X2 (pc' := 34) d3_33 rfl rfl rfl ?_
  refine w_iloadN X2 (pc' := 35) d3_34 rfl rfl ?_
  refine w_iloadN X2 (pc' := 36) d3_35 rfl rfl ?_
  refine w_staticV X2 (pc' := 39) d3_36 (rm_cmB3 hw (h0 := h0) (sd_size X2) a2 S_c hzc S_f hfm S_a S_h S_l R0 R1 R2 A_2 hf0 hf1 hf2) (hw _ (List.mem_of_getElem? (i := 47) rfl)) (hw _ (List.mem_of_getElem? (i := 48) rfl)) (hw _ (List.mem_of_getElem? (i := 49) rfl)) (hw _ (List.mem_of_getElem? (i := 50) rfl)) (by decide) [(.ref a2), (.int (0 : Int32)), (.int (3 : Int32))] [] pd_10 rfl rfl rfl rfl 0 (Nat.le_refl _) (by decide) (by decide) (by decide) (by decide) rfl fun T3 h3 v3 X3 q3 => ?_
  obtain ⟨b3, rfl, g3, gn3, K3, D3⟩ := q3
  have ne_a1_b3 : a1 ≠ b3 := ne_new2 g3 F_v.lt
  have ne_a2_b3 : a2 ≠ b3 := ne_new2 g3 A_2.lt
  have K_b3 : Keep h0 _ [a1] := (Keep.refl h0 [a1])
  have sz_b3 : h0.size ≤ b3 := Nat.le_trans K_b3.1 g3
  have F_v_4 := F_v.keep K3 nin0
  have F_c_4 := F_c.keep K3 nin0
  have E_4 := E_1.keep K3
  have A_4 := A_2.keep K3 nin0
  have K_5 : Keep h0 h3 [a1] := K_b3.trans K3 all0
  rcases D3 with ⟨hall, AL⟩ | AU
  · skip
    refine w_astore X3 (pc' := 41) (l' := #[.val (.ref a1), .val (.ref a2), .val (.int (0 : Int32)), .val (.int (3 : Int32)), .val .null, .val (.ref b3)]) d3_39 rfl rfl rfl ?_
    refine w_aloadN X3 (pc' := 42) d3_41 rfl rfl rfl ?_
    refine w_aload X3 (pc' := 44) d3_42 rfl rfl rfl ?_
    refine w_iloadN X3 (pc' := 45) d3_44 rfl rfl ?_
    refine w_staticV X3 (pc' := 48) d3_45 (rm_cfl3_0 hw (h0 := h3) (sd_size X3) b3 AL) (hw _ (List.mem_of_getElem? (i := 54) rfl)) (hw _ (List.mem_of_getElem? (i := 55) rfl)) (hw _ (List.mem_of_getElem? (i := 49) rfl)) (hw _ (List.mem_of_getElem? (i := 56) rfl)) (by decide) [(.ref b3), (.int (3 : Int32))] [(.ref a1)] pd_12 rfl rfl rfl rfl 1 (Nat.le_refl _) (by decide) (by decide) (by decide) (by decide) rfl fun T6 h6 v6 X6 q6 => ?_
    obtain ⟨rfl, rfl⟩ := q6
    refine w_putfieldN X6 (pc' := 51) d3_48 (hw _ (List.mem_of_getElem? (i := 25) rfl)) Via.refl F_c_4 E_4 (Or.inr ⟨(hw _ (List.mem_of_getElem? (i := 21) rfl)), rfl, rfl⟩) (hw _ (List.mem_of_getElem? (i := 5) rfl)) (ty := .byte) (v' := (.int (nar .byte (0 : Int32)))) (by decide) rfl (fits_nar_byte _) g_1 rfl fun T7 h7 X7 W7 F7 => ?_
    have F_v_8 := Fld.other W7 F_v_4 (Or.inr (slot_ne (C := "java/lang/String") (Or.inr (hw _ (List.mem_of_getElem? (i := 20) rfl))) (Or.inr (hw _ (List.mem_of_getElem? (i := 21) rfl))) (by decide) (t := (.array .byte)) (t' := .byte) (by decide) (by decide)))
    have E_8 := Exa.wr W7 E_4
    have A_8 := A_4.other W7 (Ne.symm ne12)
    have AL_8 := AL.other W7 (Ne.symm ne_a1_b3)
    have K_9 : Keep h0 h7 [a1] := K_5.wr W7 (Or.inl (List.mem_of_getElem? (i := 0) rfl))
    refine w_aloadN X7 (pc' := 52) d3_51 rfl rfl rfl ?_
    refine w_aload X7 (pc' := 54) d3_52 rfl rfl rfl ?_
    refine w_putfield X7 (pc' := 57) d3_54 (host := "") (Or.inl (hw _ (List.mem_of_getElem? (i := 24) rfl))) Via.refl F_v_8 E_8 (Or.inr ⟨(hw _ (List.mem_of_getElem? (i := 20) rfl)), rfl, rfl⟩) (hw _ (List.mem_of_getElem? (i := 5) rfl)) (ty := (.array .byte)) (by decide) rfl rfl g_1 rfl fun T10 h10 X10 W10 F10 => ?_
    have F7_11 := Fld.other W10 F7 (Or.inr (slot_ne (C := "java/lang/String") (Or.inr (hw _ (List.mem_of_getElem? (i := 21) rfl))) (Or.inr (hw _ (List.mem_of_getElem? (i := 20) rfl))) (by decide) (t := .byte) (t' := (.array .byte)) (by decide) (by decide)))
    have E_11 := Exa.wr W10 E_8
    have A_11 := A_8.other W10 (Ne.symm ne12)
    have AL_11 := AL_8.other W10 (Ne.symm ne_a1_b3)
    have K_12 : Keep h0 h10 [a1] := K_9.wr W10 (Or.inl (List.mem_of_getElem? (i := 0) rfl))
    exact w_return X10 d3_57 ⟨K_12, Or.inl ⟨b3, E_11, F7_11, F10, AL_11, hall⟩⟩ (by decide) (by decide)
  · skip
    refine w_astore X3 (pc' := 41) (l' := #[.val (.ref a1), .val (.ref a2), .val (.int (0 : Int32)), .val (.int (3 : Int32)), .val .null, .val (.ref b3)]) d3_39 rfl rfl rfl ?_
    refine w_aloadN X3 (pc' := 42) d3_41 rfl rfl rfl ?_
    refine w_aload X3 (pc' := 44) d3_42 rfl rfl rfl ?_
    refine w_iloadN X3 (pc' := 45) d3_44 rfl rfl ?_
    refine w_staticV X3 (pc' := 48) d3_45 (rm_cfl3_1 hw (h0 := h3) (sd_size X3) b3 AU) (hw _ (List.mem_of_getElem? (i := 54) rfl)) (hw _ (List.mem_of_getElem? (i := 55) rfl)) (hw _ (List.mem_of_getElem? (i := 49) rfl)) (hw _ (List.mem_of_getElem? (i := 56) rfl)) (by decide) [(.ref b3), (.int (3 : Int32))] [(.ref a1)] pd_12 rfl rfl rfl rfl 1 (Nat.le_refl _) (by decide) (by decide) (by decide) (by decide) rfl fun T13 h13 v13 X13 q13 => ?_
    obtain ⟨rfl, rfl⟩ := q13
    refine w_putfieldN X13 (pc' := 51) d3_48 (hw _ (List.mem_of_getElem? (i := 25) rfl)) Via.refl F_c_4 E_4 (Or.inr ⟨(hw _ (List.mem_of_getElem? (i := 21) rfl)), rfl, rfl⟩) (hw _ (List.mem_of_getElem? (i := 5) rfl)) (ty := .byte) (v' := (.int (nar .byte (1 : Int32)))) (by decide) rfl (fits_nar_byte _) g_1 rfl fun T14 h14 X14 W14 F14 => ?_
    have F_v_15 := Fld.other W14 F_v_4 (Or.inr (slot_ne (C := "java/lang/String") (Or.inr (hw _ (List.mem_of_getElem? (i := 20) rfl))) (Or.inr (hw _ (List.mem_of_getElem? (i := 21) rfl))) (by decide) (t := (.array .byte)) (t' := .byte) (by decide) (by decide)))
    have E_15 := Exa.wr W14 E_4
    have A_15 := A_4.other W14 (Ne.symm ne12)
    have AU_15 := AU.other W14 (Ne.symm ne_a1_b3)
    have K_16 : Keep h0 h14 [a1] := K_5.wr W14 (Or.inl (List.mem_of_getElem? (i := 0) rfl))
    refine w_aloadN X14 (pc' := 52) d3_51 rfl rfl rfl ?_
    refine w_aload X14 (pc' := 54) d3_52 rfl rfl rfl ?_
    refine w_putfield X14 (pc' := 57) d3_54 (host := "") (Or.inl (hw _ (List.mem_of_getElem? (i := 24) rfl))) Via.refl F_v_15 E_15 (Or.inr ⟨(hw _ (List.mem_of_getElem? (i := 20) rfl)), rfl, rfl⟩) (hw _ (List.mem_of_getElem? (i := 5) rfl)) (ty := (.array .byte)) (by decide) rfl rfl g_1 rfl fun T17 h17 X17 W17 F17 => ?_
    have F14_18 := Fld.other W17 F14 (Or.inr (slot_ne (C := "java/lang/String") (Or.inr (hw _ (List.mem_of_getElem? (i := 21) rfl))) (Or.inr (hw _ (List.mem_of_getElem? (i := 20) rfl))) (by decide) (t := .byte) (t' := (.array .byte)) (by decide) (by decide)))
    have E_18 := Exa.wr W17 E_15
    have A_18 := A_15.other W17 (Ne.symm ne12)
    have AU_18 := AU_15.other W17 (Ne.symm ne_a1_b3)
    have K_19 : Keep h0 h17 [a1] := K_16.wr W17 (Or.inl (List.mem_of_getElem? (i := 0) rfl))
    exact w_return X17 d3_57 ⟨K_19, Or.inr ⟨b3, E_18, F14_18, F17, AU_18⟩⟩ (by decide) (by decide)
set_option maxRecDepth 65536 in
set_option maxHeartbeats 40000000 in
theorem rm_sc3 {l : Launch} {Z : State} {a0 : Array Value} (hw : ∀ d ∈ tables_1, d.before a0 Z = true) {n0 : Nat} {h0 : Heap} (Z0 : n0 ≤ h0.size) (a1 a2 : Addr) {zc : Int32} (S_c : Sta Z h0 "java/lang/String" "COMPACT_STRINGS" "Z" (.int zc)) (hzc : ¬ zc = (0 : Int32)) {fm : Value} (S_f : Sta Z h0 "jdk/internal/util/Preconditions" "SIOOBE_FORMATTER" "Ljava/util/function/BiFunction;" fm) (hfm : fm.isRef = true) (S_a : Sta Z h0 "java/lang/StringUTF16" "$assertionsDisabled" "Z" (.int 1)) (S_h : Sta Z h0 "java/lang/StringUTF16" "HI_BYTE_SHIFT" "I" (.int 0)) (S_l : Sta Z h0 "java/lang/StringUTF16" "LO_BYTE_SHIFT" "I" (.int 8)) {c0 c1 c2 : Int32} (R0 : own_R c0) (R1 : own_R c1) (R2 : own_R c2) {f : Nat → Value} {u1 u2 : Value} (E_1 : Exa Z h0 a1 "java/lang/String") (F_v : Fld Z h0 a1 "java/lang/String" "value" "[B" u1) (F_c : Fld Z h0 a1 "java/lang/String" "coder" "B" u2) (g_1 : n0 ≤ a1) (A_2 : Ary Z h0 a2 .char 3 f) (ne12 : a1 ≠ a2) (hf0 : f 0 = .int c0) (hf1 : f 1 = .int c1) (hf2 : f 2 = .int c2)  :
    Con l Z n0 (⟨"java/lang/String", "<init>", "([C)V"⟩ : MethodName) jdk_42_method_3_code 2 none ({ frames := 5, cells := 2, slots := 9, locals := 74 } : Room) #[(.ref a1), (.ref a2)] h0 (Non (fun h => Keep h0 h [a1] ∧ StrU Z h a1 [c0, c1, c2])) := by
  refine con_intro pn_2 Z0 (fr := fun m => mkF m 0 #[.val (.ref a1), .val (.ref a2)] []) (fun m => by first | (simp [entryFrame, mkF, argsToLocals, Value.category]; done) | rfl) ?_
  intro p e s m below s₁ hs0 X0
  refine w_aloadN X0 (pc' := 1) d2_0 rfl rfl rfl ?_
  refine w_aloadN X0 (pc' := 2) d2_1 rfl rfl rfl ?_
  refine w_iconst X0 (pc' := 3) (0 : Int32) d2_2 rfl rfl ?_
  refine w_aloadN X0 (pc' := 4) d2_3 rfl rfl rfl ?_
  refine w_arraylength X0 (pc' := 5) (3 : Int32) d2_4 A_2 (by decide) rfl ?_
  refine w_aconst_null X0 (pc' := 6) d2_5 rfl ?_
  refine w_specialN X0 (pc' := 9) d2_6 (rm_sv3 hw (h0 := h0) (sd_size X0) a1 a2 S_c hzc S_f hfm S_a S_h S_l R0 R1 R2 E_1 F_v F_c g_1 A_2 ne12 hf0 hf1 hf2) (hw _ (List.mem_of_getElem? (i := 11) rfl)) (hw _ (List.mem_of_getElem? (i := 12) rfl)) (hw _ (List.mem_of_getElem? (i := 6) rfl)) (hw _ (List.mem_of_getElem? (i := 14) rfl)) rfl (by decide) [(.ref a2), (.int (0 : Int32)), (.int (3 : Int32)), .null] [] pd_3 rfl rfl rfl rfl 0 (Nat.le_refl _) (by decide) (by decide) (by decide) (by decide) rfl fun T1 h1 X1 q1 => ?_
  obtain ⟨K1, U1⟩ := q1
  have E_2 := E_1.keep K1
  have A_2 := A_2.keep K1 (ninS (Ne.symm ne12) nin0)
  have K_3r : Keep h0 _ [a1] := (Keep.refl h0 [a1])
  have K_3 : Keep h0 h1 [a1] := K_3r.trans K1 (allS (Or.inl (List.mem_of_getElem? (i := 0) rfl)) all0)
  exact w_return X1 d2_9 ⟨K_3, U1⟩ (by decide) (by decide)
set_option maxRecDepth 65536 in
set_option maxHeartbeats 40000000 in
theorem rm_mk3 {l : Launch} {Z : State} {a0 : Array Value} (hw : ∀ d ∈ tables_1, d.before a0 Z = true) {n0 : Nat} {h0 : Heap} (Z0 : n0 ≤ h0.size) (c0 c1 c2 c3 : Int32) {zc : Int32} (S_c : Sta Z h0 "java/lang/String" "COMPACT_STRINGS" "Z" (.int zc)) (hzc : ¬ zc = (0 : Int32)) {fm : Value} (S_f : Sta Z h0 "jdk/internal/util/Preconditions" "SIOOBE_FORMATTER" "Ljava/util/function/BiFunction;" fm) (hfm : fm.isRef = true) (S_a : Sta Z h0 "java/lang/StringUTF16" "$assertionsDisabled" "Z" (.int 1)) (S_h : Sta Z h0 "java/lang/StringUTF16" "HI_BYTE_SHIFT" "I" (.int 0)) (S_l : Sta Z h0 "java/lang/StringUTF16" "LO_BYTE_SHIFT" "I" (.int 8)) (R0 : own_R c0) (R1 : own_R c1) (R2 : own_R c2) (R3 : own_R c3) :
    Con l Z n0 (⟨"com/example/admitwire/admitwire/core/TimestampDigitsPinLaw", "make", "(ICCCC)Ljava/lang/String;"⟩ : MethodName) method_3_code 5 (some (.object "java/lang/String")) ({ frames := 6, cells := 4, slots := 16, locals := 88 } : Room) #[(.int (3 : Int32)), (.int c0), (.int c1), (.int c2), (.int c3)] h0 (Val (fun v h => ∃ b : Addr, v = .ref b ∧ Ext h0 h ∧ StrU Z h b [c0, c1, c2])) := by
  refine con_intro pn_1 Z0 (fr := fun m => mkF m 0 #[.val (.int (3 : Int32)), .val (.int c0), .val (.int c1), .val (.int c2), .val (.int c3)] []) (fun m => by first | (simp [entryFrame, mkF, argsToLocals, Value.category]; done) | rfl) ?_
  intro p e s m below s₁ hs0 X0
  refine w_iloadN X0 (pc' := 1) d1_0 rfl rfl ?_
  refine w_if_ne X0 15 4 d1_1 (by decide) rfl rfl (fun hc1 => ?_) (fun hc1 => by exfalso; revert hc1; decide)
  refine w_iloadN X0 (pc' := 16) d1_15 rfl rfl ?_
  refine w_iconst X0 (pc' := 17) (1 : Int32) d1_16 rfl rfl ?_
  refine w_icmp_ne X0 35 20 d1_17 (by decide) rfl rfl (fun hc17 => ?_) (fun hc17 => by exfalso; revert hc17; decide)
  refine w_iloadN X0 (pc' := 36) d1_35 rfl rfl ?_
  refine w_iconst X0 (pc' := 37) (2 : Int32) d1_36 rfl rfl ?_
  refine w_icmp_ne X0 59 40 d1_37 (by decide) rfl rfl (fun hc37 => ?_) (fun hc37 => by exfalso; revert hc37; decide)
  refine w_iloadN X0 (pc' := 60) d1_59 rfl rfl ?_
  refine w_iconst X0 (pc' := 61) (3 : Int32) d1_60 rfl rfl ?_
  refine w_icmp_ne X0 87 64 d1_61 (by decide) rfl rfl (fun hc61 => by exfalso; revert hc61; decide) (fun hc61 => ?_)
  refine w_new X0 (pc' := 67) d1_64 (hw _ (List.mem_of_getElem? (i := 4) rfl)) (hw _ (List.mem_of_getElem? (i := 5) rfl)) (hw _ (List.mem_of_getElem? (i := 6) rfl)) (by decide) (by decide) rfl fun T1 h1 b1 g1 gn1 X1 E1 A1 D1 => ?_
  have K_b1 : Keep h0 _ [] := (Keep.refl h0 [])
  have sz_b1 : h0.size ≤ b1 := sz_fresh g1 K_b1
  have K_3 : Keep h0 h1 [] := K_b1.ext E1
  have Fvalue_1 : Fld Z h1 b1 "java/lang/String" "value" "[B" .null := D1 (Or.inr (hw _ (List.mem_of_getElem? (i := 20) rfl))) (ty := (.array .byte)) (by decide)
  have Fcoder_1 : Fld Z h1 b1 "java/lang/String" "coder" "B" (.int (0 : Int32)) := D1 (Or.inr (hw _ (List.mem_of_getElem? (i := 21) rfl))) (ty := .byte) (by decide)
  refine w_dup X1 (pc' := 68) d1_67 rfl rfl ?_
  refine w_iconst X1 (pc' := 69) (3 : Int32) d1_68 rfl rfl ?_
  refine w_newarray X1 (pc' := 71) 3 3 d1_69 (hw _ (List.mem_of_getElem? (i := 7) rfl)) (by decide) (by decide) (by decide) (by decide) (by decide) rfl fun T4 h4 b4 g4 gn4 X4 E4 A4 => ?_
  have ne_b1_b4 : b1 ≠ b4 := ne_new g4 Fvalue_1.lt
  have sz_b4 : h0.size ≤ b4 := sz_fresh g4 K_3
  have Fvalue_5 := Fld.ext E4 Fvalue_1
  have Fcoder_5 := Fld.ext E4 Fcoder_1
  have A1_5 := Exa.ext E4 A1
  have K_6 : Keep h0 h4 [] := K_3.ext E4
  replace A4 : Ary Z h4 b4 .char 3 (fun _ => (.int (0 : Int32))) := A4
  refine w_dup X4 (pc' := 72) d1_71 rfl rfl ?_
  refine w_iconst X4 (pc' := 73) (0 : Int32) d1_72 rfl rfl ?_
  refine w_iloadN X4 (pc' := 74) d1_73 rfl rfl ?_
  refine w_castore X4 (pc' := 75) 0 d1_74 A4 (by decide) (by decide) gn4 rfl fun T7 h7 X7 W7 A7 => ?_
  have Fvalue_8 := Fld.other W7 Fvalue_5 (Or.inl ne_b1_b4)
  have Fcoder_8 := Fld.other W7 Fcoder_5 (Or.inl ne_b1_b4)
  have A1_8 := Exa.wr W7 A1_5
  have K_9 : Keep h0 h7 [] := K_6.wr W7 (Or.inr sz_b4)
  refine w_dup X7 (pc' := 76) d1_75 rfl rfl ?_
  refine w_iconst X7 (pc' := 77) (1 : Int32) d1_76 rfl rfl ?_
  refine w_iloadN X7 (pc' := 78) d1_77 rfl rfl ?_
  refine w_castore X7 (pc' := 79) 1 d1_78 A7 (by decide) (by decide) gn4 rfl fun T10 h10 X10 W10 A10 => ?_
  have Fvalue_11 := Fld.other W10 Fvalue_8 (Or.inl ne_b1_b4)
  have Fcoder_11 := Fld.other W10 Fcoder_8 (Or.inl ne_b1_b4)
  have A1_11 := Exa.wr W10 A1_8
  have K_12 : Keep h0 h10 [] := K_9.wr W10 (Or.inr sz_b4)
  refine w_dup X10 (pc' := 80) d1_79 rfl rfl ?_
  refine w_iconst X10 (pc' := 81) (2 : Int32) d1_80 rfl rfl ?_
  refine w_iloadN X10 (pc' := 82) d1_81 rfl rfl ?_
  refine w_castore X10 (pc' := 83) 2 d1_82 A10 (by decide) (by decide) gn4 rfl fun T13 h13 X13 W13 A13 => ?_
  have Fvalue_14 := Fld.other W13 Fvalue_11 (Or.inl ne_b1_b4)
  have Fcoder_14 := Fld.other W13 Fcoder_11 (Or.inl ne_b1_b4)
  have A1_14 := Exa.wr W13 A1_11
  have K_15 : Keep h0 h13 [] := K_12.wr W13 (Or.inr sz_b4)
  have hf0 : (upd (upd (upd (fun _ => (.int (0 : Int32))) 0 (.int (nar .char c0))) 1 (.int (nar .char c1))) 2 (.int (nar .char c2))) 0 = .int c0 := by show Value.int (nar .char c0) = _; exact congrArg Value.int (own_i2c R0)
  have hf1 : (upd (upd (upd (fun _ => (.int (0 : Int32))) 0 (.int (nar .char c0))) 1 (.int (nar .char c1))) 2 (.int (nar .char c2))) 1 = .int c1 := by show Value.int (nar .char c1) = _; exact congrArg Value.int (own_i2c R1)
  have hf2 : (upd (upd (upd (fun _ => (.int (0 : Int32))) 0 (.int (nar .char c0))) 1 (.int (nar .char c1))) 2 (.int (nar .char c2))) 2 = .int c2 := by show Value.int (nar .char c2) = _; exact congrArg Value.int (own_i2c R2)
  refine w_specialN X13 (pc' := 86) d1_83 (rm_sc3 hw (h0 := h13) (sd_size X13) b1 b4 (Sta.ext (kext K_15) S_c) hzc (Sta.ext (kext K_15) S_f) hfm (Sta.ext (kext K_15) S_a) (Sta.ext (kext K_15) S_h) (Sta.ext (kext K_15) S_l) R0 R1 R2 A1_14 Fvalue_14 Fcoder_14 gn1 A13 ne_b1_b4 hf0 hf1 hf2) (hw _ (List.mem_of_getElem? (i := 8) rfl)) (hw _ (List.mem_of_getElem? (i := 9) rfl)) (hw _ (List.mem_of_getElem? (i := 6) rfl)) (hw _ (List.mem_of_getElem? (i := 10) rfl)) rfl (by decide) [(.ref b4)] [(.ref b1)] pd_2 rfl rfl rfl rfl 1 (Nat.le_refl _) (by decide) (by decide) (by decide) (by decide) rfl fun T16 h16 X16 q16 => ?_
  obtain ⟨K16, U16⟩ := q16
  have A1_17 := A1_14.keep K16
  have A13_17 := A13.keep K16 (ninS (Ne.symm ne_b1_b4) nin0)
  have K_18 : Keep h0 h16 [] := K_15.trans K16 (allS (Or.inr sz_b1) all0)
  exact w_areturn X16 d1_86 rfl rfl rfl ⟨_, rfl, kext K_18, U16⟩ (by decide) (by decide)
theorem own_lu4 (f : Nat → Value) (c0 c1 c2 c3 : Int32) (i : Nat) (hi : i < 4) : (upd (upd (upd (upd f 0 (.int (nar .byte c0.toInt8.toInt32))) 1 (.int (nar .byte c1.toInt8.toInt32))) 2 (.int (nar .byte c2.toInt8.toInt32))) 3 (.int (nar .byte c3.toInt8.toInt32))) i = .int ([c0, c1, c2, c3].getD i 0).toInt8.toInt32 := by
  have : i = 0 ∨ i = 1 ∨ i = 2 ∨ i = 3 := by omega
  rcases this with rfl | rfl | rfl | rfl
  · rw [upd_other _ _ (by decide)]; rw [upd_other _ _ (by decide)]; rw [upd_other _ _ (by decide)]; exact (upd_same _ _ _).trans (congrArg Value.int (own_i8 c0))
  · rw [upd_other _ _ (by decide)]; rw [upd_other _ _ (by decide)]; exact (upd_same _ _ _).trans (congrArg Value.int (own_i8 c1))
  · rw [upd_other _ _ (by decide)]; exact (upd_same _ _ _).trans (congrArg Value.int (own_i8 c2))
  · exact (upd_same _ _ _).trans (congrArg Value.int (own_i8 c3))
theorem own_all4 {c0 c1 c2 c3 : Int32} (hk0 : ¬ (255 : Int32) < c0) (hk1 : ¬ (255 : Int32) < c1) (hk2 : ¬ (255 : Int32) < c2) (hk3 : ¬ (255 : Int32) < c3) : ∀ i, i < 4 → ¬ (255 : Int32) < [c0, c1, c2, c3].getD i 0 := fun i hi => by
  have : i = 0 ∨ i = 1 ∨ i = 2 ∨ i = 3 := by omega
  rcases this with rfl | rfl | rfl | rfl
  · exact hk0
  · exact hk1
  · exact hk2
  · exact hk3
set_option maxRecDepth 65536 in
set_option maxHeartbeats 40000000 in
theorem rm_cmI4 {l : Launch} {Z : State} {a0 : Array Value} (hw : ∀ d ∈ tables_1, d.before a0 Z = true) {n0 : Nat} {h0 : Heap} (Z0 : n0 ≤ h0.size) (a1 a3 : Addr) {f f3 : Nat → Value} {c0 c1 c2 c3 : Int32} (A_1 : Ary Z h0 a1 .char 4 f) (A_3 : Ary Z h0 a3 .byte 4 f3) (ne13 : a1 ≠ a3) (g_3 : n0 ≤ a3) (hf0 : f 0 = .int c0) (hf1 : f 1 = .int c1) (hf2 : f 2 = .int c2) (hf3 : f 3 = .int c3)  :
    Con l Z n0 (⟨"java/lang/StringUTF16", "compress", "([CI[BII)I"⟩ : MethodName) jdk_52_method_21_code 7 (some .int) ({ frames := 0, cells := 0, slots := 0, locals := 0 } : Room) #[(.ref a1), (.int (0 : Int32)), (.ref a3), (.int (0 : Int32)), (.int (4 : Int32))] h0 (Val (fun v h => Keep h0 h [a3] ∧ ((v = .int 4 ∧ (∀ i, i < 4 → ¬ (255 : Int32) < [c0, c1, c2, c3].getD i 0) ∧ Ary Z h a3 .byte 4 (fun i => .int ([c0, c1, c2, c3].getD i 0).toInt8.toInt32)) ∨ (v = .int 0 ∧ (255 : Int32) < c0) ∨ (v = .int 1 ∧ (255 : Int32) < c1) ∨ (v = .int 2 ∧ (255 : Int32) < c2) ∨ (v = .int 3 ∧ (255 : Int32) < c3)))) := by
  refine con_intro pn_11 Z0 (fr := fun m => mkF m 0 #[.val (.ref a1), .val (.int (0 : Int32)), .val (.ref a3), .val (.int (0 : Int32)), .val (.int (4 : Int32)), .unset, .unset] []) (fun m => by first | (simp [entryFrame, mkF, argsToLocals, Value.category]; done) | rfl) ?_
  intro p e s m below s₁ hs0 X0
  refine w_iconst X0 (pc' := 1) (0 : Int32) d11_0 rfl rfl ?_
  refine w_istore X0 (pc' := 3) (l' := #[.val (.ref a1), .val (.int (0 : Int32)), .val (.ref a3), .val (.int (0 : Int32)), .val (.int (4 : Int32)), .val (.int (0 : Int32)), .unset]) d11_1 rfl rfl ?_
  refine w_iload X0 (pc' := 5) d11_3 rfl rfl ?_
  refine w_iload X0 (pc' := 7) d11_5 rfl rfl ?_
  refine w_icmp_ge X0 44 10 d11_7 (by decide) rfl rfl (fun hc7 => by exfalso; revert hc7; decide) (fun hc7 => ?_)
  refine w_aloadN X0 (pc' := 11) d11_10 rfl rfl rfl ?_
  refine w_iloadN X0 (pc' := 12) d11_11 rfl rfl ?_
  refine w_caload X0 (pc' := 13) 0 (v := (.int c0)) d11_12 A_1 (by decide) (by decide) hf0 rfl ?_
  refine w_istore X0 (pc' := 15) (l' := #[.val (.ref a1), .val (.int (0 : Int32)), .val (.ref a3), .val (.int (0 : Int32)), .val (.int (4 : Int32)), .val (.int (0 : Int32)), .val (.int c0)]) d11_13 rfl rfl ?_
  refine w_iload X0 (pc' := 17) d11_15 rfl rfl ?_
  refine w_sipush X0 (pc' := 20) (255 : Int32) d11_17 rfl rfl ?_
  refine w_icmp_le X0 26 23 d11_20 (by decide) rfl rfl (fun hc20 => ?_) (fun hc20 => ?_)
  · skip
    have hk0 := hc20
    refine w_aloadN X0 (pc' := 27) d11_26 rfl rfl rfl ?_
    refine w_iloadN X0 (pc' := 28) d11_27 rfl rfl ?_
    refine w_iload X0 (pc' := 30) d11_28 rfl rfl ?_
    refine w_i2b X0 (pc' := 31) d11_30 rfl ?_
    refine w_bastore X0 (pc' := 32) 0 d11_31 A_3 (by decide) (by decide) g_3 rfl fun T1 h1 X1 W1 A1 => ?_
    have A_2 := A_1.other W1 ne13
    have K_3r : Keep h0 _ [a3] := (Keep.refl h0 [a3])
    have K_3 : Keep h0 h1 [a3] := K_3r.wr W1 (Or.inl (List.mem_of_getElem? (i := 0) rfl))
    refine w_iinc X1 (pc' := 35) ((0 : Int32) + (1 : Int32)) (l' := #[.val (.ref a1), .val (.int ((0 : Int32) + (1 : Int32))), .val (.ref a3), .val (.int (0 : Int32)), .val (.int (4 : Int32)), .val (.int (0 : Int32)), .val (.int c0)]) d11_32 rfl rfl rfl rfl ?_
    refine w_iinc X1 (pc' := 38) ((0 : Int32) + (1 : Int32)) (l' := #[.val (.ref a1), .val (.int ((0 : Int32) + (1 : Int32))), .val (.ref a3), .val (.int ((0 : Int32) + (1 : Int32))), .val (.int (4 : Int32)), .val (.int (0 : Int32)), .val (.int c0)]) d11_35 rfl rfl rfl rfl ?_
    refine w_iinc X1 (pc' := 41) ((0 : Int32) + (1 : Int32)) (l' := #[.val (.ref a1), .val (.int ((0 : Int32) + (1 : Int32))), .val (.ref a3), .val (.int ((0 : Int32) + (1 : Int32))), .val (.int (4 : Int32)), .val (.int ((0 : Int32) + (1 : Int32))), .val (.int c0)]) d11_38 rfl rfl rfl rfl ?_
    refine w_goto X1 (pc' := 3) d11_41 (by decide) rfl ?_
    refine w_iload X1 (pc' := 5) d11_3 rfl rfl ?_
    refine w_iload X1 (pc' := 7) d11_5 rfl rfl ?_
    refine w_icmp_ge X1 44 10 d11_7 (by decide) rfl rfl (fun hc7 => by exfalso; revert hc7; decide) (fun hc7 => ?_)
    refine w_aloadN X1 (pc' := 11) d11_10 rfl rfl rfl ?_
    refine w_iloadN X1 (pc' := 12) d11_11 rfl rfl ?_
    refine w_caload X1 (pc' := 13) 1 (v := (.int c1)) d11_12 A_2 (by decide) (by decide) hf1 rfl ?_
    refine w_istore X1 (pc' := 15) (l' := #[.val (.ref a1), .val (.int ((0 : Int32) + (1 : Int32))), .val (.ref a3), .val (.int ((0 : Int32) + (1 : Int32))), .val (.int (4 : Int32)), .val (.int ((0 : Int32) + (1 : Int32))), .val (.int c1)]) d11_13 rfl rfl ?_
    refine w_iload X1 (pc' := 17) d11_15 rfl rfl ?_
    refine w_sipush X1 (pc' := 20) (255 : Int32) d11_17 rfl rfl ?_
    refine w_icmp_le X1 26 23 d11_20 (by decide) rfl rfl (fun hc20 => ?_) (fun hc20 => ?_)
    · skip
      have hk1 := hc20
      refine w_aloadN X1 (pc' := 27) d11_26 rfl rfl rfl ?_
      refine w_iloadN X1 (pc' := 28) d11_27 rfl rfl ?_
      refine w_iload X1 (pc' := 30) d11_28 rfl rfl ?_
      refine w_i2b X1 (pc' := 31) d11_30 rfl ?_
      refine w_bastore X1 (pc' := 32) 1 d11_31 A1 (by decide) (by decide) g_3 rfl fun T4 h4 X4 W4 A4 => ?_
      have A_5 := A_2.other W4 ne13
      have K_6 : Keep h0 h4 [a3] := K_3.wr W4 (Or.inl (List.mem_of_getElem? (i := 0) rfl))
      refine w_iinc X4 (pc' := 35) (((0 : Int32) + (1 : Int32)) + (1 : Int32)) (l' := #[.val (.ref a1), .val (.int (((0 : Int32) + (1 : Int32)) + (1 : Int32))), .val (.ref a3), .val (.int ((0 : Int32) + (1 : Int32))), .val (.int (4 : Int32)), .val (.int ((0 : Int32) + (1 : Int32))), .val (.int c1)]) d11_32 rfl rfl rfl rfl ?_
      refine w_iinc X4 (pc' := 38) (((0 : Int32) + (1 : Int32)) + (1 : Int32)) (l' := #[.val (.ref a1), .val (.int (((0 : Int32) + (1 : Int32)) + (1 : Int32))), .val (.ref a3), .val (.int (((0 : Int32) + (1 : Int32)) + (1 : Int32))), .val (.int (4 : Int32)), .val (.int ((0 : Int32) + (1 : Int32))), .val (.int c1)]) d11_35 rfl rfl rfl rfl ?_
      refine w_iinc X4 (pc' := 41) (((0 : Int32) + (1 : Int32)) + (1 : Int32)) (l' := #[.val (.ref a1), .val (.int (((0 : Int32) + (1 : Int32)) + (1 : Int32))), .val (.ref a3), .val (.int (((0 : Int32) + (1 : Int32)) + (1 : Int32))), .val (.int (4 : Int32)), .val (.int (((0 : Int32) + (1 : Int32)) + (1 : Int32))), .val (.int c1)]) d11_38 rfl rfl rfl rfl ?_
      refine w_goto X4 (pc' := 3) d11_41 (by decide) rfl ?_
      refine w_iload X4 (pc' := 5) d11_3 rfl rfl ?_
      refine w_iload X4 (pc' := 7) d11_5 rfl rfl ?_
      refine w_icmp_ge X4 44 10 d11_7 (by decide) rfl rfl (fun hc7 => by exfalso; revert hc7; decide) (fun hc7 => ?_)
      refine w_aloadN X4 (pc' := 11) d11_10 rfl rfl rfl ?_
      refine w_iloadN X4 (pc' := 12) d11_11 rfl rfl ?_
      refine w_caload X4 (pc' := 13) 2 (v := (.int c2)) d11_12 A_5 (by decide) (by decide) hf2 rfl ?_
      refine w_istore X4 (pc' := 15) (l' := #[.val (.ref a1), .val (.int (((0 : Int32) + (1 : Int32)) + (1 : Int32))), .val (.ref a3), .val (.int (((0 : Int32) + (1 : Int32)) + (1 : Int32))), .val (.int (4 : Int32)), .val (.int (((0 : Int32) + (1 : Int32)) + (1 : Int32))), .val (.int c2)]) d11_13 rfl rfl ?_
      refine w_iload X4 (pc' := 17) d11_15 rfl rfl ?_
      refine w_sipush X4 (pc' := 20) (255 : Int32) d11_17 rfl rfl ?_
      refine w_icmp_le X4 26 23 d11_20 (by decide) rfl rfl (fun hc20 => ?_) (fun hc20 => ?_)
      · skip
        have hk2 := hc20
        refine w_aloadN X4 (pc' := 27) d11_26 rfl rfl rfl ?_
        refine w_iloadN X4 (pc' := 28) d11_27 rfl rfl ?_
        refine w_iload X4 (pc' := 30) d11_28 rfl rfl ?_
        refine w_i2b X4 (pc' := 31) d11_30 rfl ?_
        refine w_bastore X4 (pc' := 32) 2 d11_31 A4 (by decide) (by decide) g_3 rfl fun T7 h7 X7 W7 A7 => ?_
        have A_8 := A_5.other W7 ne13
        have K_9 : Keep h0 h7 [a3] := K_6.wr W7 (Or.inl (List.mem_of_getElem? (i := 0) rfl))
        refine w_iinc X7 (pc' := 35) ((((0 : Int32) + (1 : Int32)) + (1 : Int32)) + (1 : Int32)) (l' := #[.val (.ref a1), .val (.int ((((0 : Int32) + (1 : Int32)) + (1 : Int32)) + (1 : Int32))), .val (.ref a3), .val (.int (((0 : Int32) + (1 : Int32)) + (1 : Int32))), .val (.int (4 : Int32)), .val (.int (((0 : Int32) + (1 : Int32)) + (1 : Int32))), .val (.int c2)]) d11_32 rfl rfl rfl rfl ?_
        refine w_iinc X7 (pc' := 38) ((((0 : Int32) + (1 : Int32)) + (1 : Int32)) + (1 : Int32)) (l' := #[.val (.ref a1), .val (.int ((((0 : Int32) + (1 : Int32)) + (1 : Int32)) + (1 : Int32))), .val (.ref a3), .val (.int ((((0 : Int32) + (1 : Int32)) + (1 : Int32)) + (1 : Int32))), .val (.int (4 : Int32)), .val (.int (((0 : Int32) + (1 : Int32)) + (1 : Int32))), .val (.int c2)]) d11_35 rfl rfl rfl rfl ?_
        refine w_iinc X7 (pc' := 41) ((((0 : Int32) + (1 : Int32)) + (1 : Int32)) + (1 : Int32)) (l' := #[.val (.ref a1), .val (.int ((((0 : Int32) + (1 : Int32)) + (1 : Int32)) + (1 : Int32))), .val (.ref a3), .val (.int ((((0 : Int32) + (1 : Int32)) + (1 : Int32)) + (1 : Int32))), .val (.int (4 : Int32)), .val (.int ((((0 : Int32) + (1 : Int32)) + (1 : Int32)) + (1 : Int32))), .val (.int c2)]) d11_38 rfl rfl rfl rfl ?_
        refine w_goto X7 (pc' := 3) d11_41 (by decide) rfl ?_
        refine w_iload X7 (pc' := 5) d11_3 rfl rfl ?_
        refine w_iload X7 (pc' := 7) d11_5 rfl rfl ?_
        refine w_icmp_ge X7 44 10 d11_7 (by decide) rfl rfl (fun hc7 => by exfalso; revert hc7; decide) (fun hc7 => ?_)
        refine w_aloadN X7 (pc' := 11) d11_10 rfl rfl rfl ?_
        refine w_iloadN X7 (pc' := 12) d11_11 rfl rfl ?_
        refine w_caload X7 (pc' := 13) 3 (v := (.int c3)) d11_12 A_8 (by decide) (by decide) hf3 rfl ?_
        refine w_istore X7 (pc' := 15) (l' := #[.val (.ref a1), .val (.int ((((0 : Int32) + (1 : Int32)) + (1 : Int32)) + (1 : Int32))), .val (.ref a3), .val (.int ((((0 : Int32) + (1 : Int32)) + (1 : Int32)) + (1 : Int32))), .val (.int (4 : Int32)), .val (.int ((((0 : Int32) + (1 : Int32)) + (1 : Int32)) + (1 : Int32))), .val (.int c3)]) d11_13 rfl rfl ?_
        refine w_iload X7 (pc' := 17) d11_15 rfl rfl ?_
        refine w_sipush X7 (pc' := 20) (255 : Int32) d11_17 rfl rfl ?_
        refine w_icmp_le X7 26 23 d11_20 (by decide) rfl rfl (fun hc20 => ?_) (fun hc20 => ?_)
        · skip
          have hk3 := hc20
          refine w_aloadN X7 (pc' := 27) d11_26 rfl rfl rfl ?_
          refine w_iloadN X7 (pc' := 28) d11_27 rfl rfl ?_
          refine w_iload X7 (pc' := 30) d11_28 rfl rfl ?_
          refine w_i2b X7 (pc' := 31) d11_30 rfl ?_
          refine w_bastore X7 (pc' := 32) 3 d11_31 A7 (by decide) (by decide) g_3 rfl fun T10 h10 X10 W10 A10 => ?_
          have A_11 := A_8.other W10 ne13
          have K_12 : Keep h0 h10 [a3] := K_9.wr W10 (Or.inl (List.mem_of_getElem? (i := 0) rfl))
          refine w_iinc X10 (pc' := 35) (((((0 : Int32) + (1 : Int32)) + (1 : Int32)) + (1 : Int32)) + (1 : Int32)) (l' := #[.val (.ref a1), .val (.int (((((0 : Int32) + (1 : Int32)) + (1 : Int32)) + (1 : Int32)) + (1 : Int32))), .val (.ref a3), .val (.int ((((0 : Int32) + (1 : Int32)) + (1 : Int32)) + (1 : Int32))), .val (.int (4 : Int32)), .val (.int ((((0 : Int32) + (1 : Int32)) + (1 : Int32)) + (1 : Int32))), .val (.int c3)]) d11_32 rfl rfl rfl rfl ?_
          refine w_iinc X10 (pc' := 38) (((((0 : Int32) + (1 : Int32)) + (1 : Int32)) + (1 : Int32)) + (1 : Int32)) (l' := #[.val (.ref a1), .val (.int (((((0 : Int32) + (1 : Int32)) + (1 : Int32)) + (1 : Int32)) + (1 : Int32))), .val (.ref a3), .val (.int (((((0 : Int32) + (1 : Int32)) + (1 : Int32)) + (1 : Int32)) + (1 : Int32))), .val (.int (4 : Int32)), .val (.int ((((0 : Int32) + (1 : Int32)) + (1 : Int32)) + (1 : Int32))), .val (.int c3)]) d11_35 rfl rfl rfl rfl ?_
          refine w_iinc X10 (pc' := 41) (((((0 : Int32) + (1 : Int32)) + (1 : Int32)) + (1 : Int32)) + (1 : Int32)) (l' := #[.val (.ref a1), .val (.int (((((0 : Int32) + (1 : Int32)) + (1 : Int32)) + (1 : Int32)) + (1 : Int32))), .val (.ref a3), .val (.int (((((0 : Int32) + (1 : Int32)) + (1 : Int32)) + (1 : Int32)) + (1 : Int32))), .val (.int (4 : Int32)), .val (.int (((((0 : Int32) + (1 : Int32)) + (1 : Int32)) + (1 : Int32)) + (1 : Int32))), .val (.int c3)]) d11_38 rfl rfl rfl rfl ?_
          refine w_goto X10 (pc' := 3) d11_41 (by decide) rfl ?_
          refine w_iload X10 (pc' := 5) d11_3 rfl rfl ?_
          refine w_iload X10 (pc' := 7) d11_5 rfl rfl ?_
          refine w_icmp_ge X10 44 10 d11_7 (by decide) rfl rfl (fun hc7 => ?_) (fun hc7 => by exfalso; revert hc7; decide)
          refine w_iload X10 (pc' := 46) d11_44 rfl rfl ?_
          exact w_ireturn X10 d11_46 ⟨K_12, Or.inl ⟨rfl, own_all4 hk0 hk1 hk2 hk3, A10.congr (own_lu4 f3 c0 c1 c2 c3)⟩⟩ (by decide) (by decide)
        · skip
          refine w_iload X7 (pc' := 25) d11_23 rfl rfl ?_
          exact w_ireturn X7 d11_25 ⟨K_9, Or.inr (Or.inr (Or.inr (Or.inr (⟨rfl, hc20⟩))))⟩ (by decide) (by decide)
      · skip
        refine w_iload X4 (pc' := 25) d11_23 rfl rfl ?_
        exact w_ireturn X4 d11_25 ⟨K_6, Or.inr (Or.inr (Or.inr (Or.inl ⟨rfl, hc20⟩)))⟩ (by decide) (by decide)
    · skip
      refine w_iload X1 (pc' := 25) d11_23 rfl rfl ?_
      exact w_ireturn X1 d11_25 ⟨K_3, Or.inr (Or.inr (Or.inl ⟨rfl, hc20⟩))⟩ (by decide) (by decide)
  · skip
    refine w_iload X0 (pc' := 25) d11_23 rfl rfl ?_
    have Kr : Keep h0 h0 [a3] := (Keep.refl h0 [a3])
    exact w_ireturn X0 d11_25 ⟨Kr, Or.inr (Or.inl ⟨rfl, hc20⟩)⟩ (by decide) (by decide)
set_option maxRecDepth 65536 in
set_option maxHeartbeats 40000000 in
theorem rm_nbl4 {l : Launch} {Z : State} {a0 : Array Value} (hw : ∀ d ∈ tables_1, d.before a0 Z = true) {n0 : Nat} {h0 : Heap} (Z0 : n0 ≤ h0.size)   :
    Con l Z n0 (⟨"java/lang/StringUTF16", "newBytesLength", "(I)I"⟩ : MethodName) jdk_52_method_3_code 1 (some .int) ({ frames := 0, cells := 0, slots := 0, locals := 0 } : Room) #[(.int (4 : Int32))] h0 (Val (fun v h => v = .int 8 ∧ h0 = h)) := by
  refine con_intro pn_20 Z0 (fr := fun m => mkF m 0 #[.val (.int (4 : Int32))] []) (fun m => by first | (simp [entryFrame, mkF, argsToLocals, Value.category]; done) | rfl) ?_
  intro p e s m below s₁ hs0 X0
  refine w_iloadN X0 (pc' := 1) d20_0 rfl rfl ?_
  refine w_if_ge X0 12 4 d20_1 (by decide) rfl rfl (fun hc1 => ?_) (fun hc1 => by exfalso; revert hc1; decide)
  refine w_iloadN X0 (pc' := 13) d20_12 rfl rfl ?_
  refine w_ldc X0 (pc' := 15) d20_13 (hw _ (List.mem_of_getElem? (i := 88) rfl)) rfl ?_
  refine w_icmp_lt X0 55 18 d20_15 (by decide) rfl rfl (fun hc15 => ?_) (fun hc15 => by exfalso; revert hc15; decide)
  refine w_iloadN X0 (pc' := 56) d20_55 rfl rfl ?_
  refine w_iconst X0 (pc' := 57) (1 : Int32) d20_56 rfl rfl ?_
  refine w_ishl X0 (pc' := 58) d20_57 rfl ?_
  exact w_ireturn X0 d20_58 ⟨by decide, rfl⟩ (by decide) (by decide)
set_option maxRecDepth 65536 in
set_option maxHeartbeats 40000000 in
theorem rm_nbf4 {l : Launch} {Z : State} {a0 : Array Value} (hw : ∀ d ∈ tables_1, d.before a0 Z = true) {n0 : Nat} {h0 : Heap} (Z0 : n0 ≤ h0.size)   :
    Con l Z n0 (⟨"java/lang/StringUTF16", "newBytesFor", "(I)[B"⟩ : MethodName) jdk_52_method_2_code 1 (some (.array .byte)) ({ frames := 1, cells := 1, slots := 8, locals := 12 } : Room) #[(.int (4 : Int32))] h0 (Val (fun v h => ∃ b : Addr, v = .ref b ∧ b = h0.size ∧ n0 ≤ b ∧ Ext h0 h ∧ Ary Z h b .byte 8 (fun _ => .int (0 : Int32)))) := by
  refine con_intro pn_19 Z0 (fr := fun m => mkF m 0 #[.val (.int (4 : Int32))] []) (fun m => by first | (simp [entryFrame, mkF, argsToLocals, Value.category]; done) | rfl) ?_
  intro p e s m below s₁ hs0 X0
  refine w_iloadN X0 (pc' := 1) d19_0 rfl rfl ?_
  refine w_staticV X0 (pc' := 4) d19_1 (rm_nbl4 hw (h0 := h0) (sd_size X0)) (hw _ (List.mem_of_getElem? (i := 85) rfl)) (hw _ (List.mem_of_getElem? (i := 86) rfl)) (hw _ (List.mem_of_getElem? (i := 49) rfl)) (hw _ (List.mem_of_getElem? (i := 87) rfl)) (by decide) [(.int (4 : Int32))] [] pd_20 rfl rfl rfl rfl 0 (Nat.le_refl _) (by decide) (by decide) (by decide) (by decide) rfl fun T1 h1 v1 X1 q1 => ?_
  obtain ⟨rfl, rfl⟩ := q1
  refine w_newarray X1 (pc' := 6) 8 8 d19_4 (hw _ (List.mem_of_getElem? (i := 19) rfl)) (by decide) (by decide) (by decide) (by decide) (by decide) rfl fun T2 h2 b2 g2 gn2 X2 E2 A2 => ?_
  have K_b2 : Keep h0 _ [] := (Keep.refl h0 [])
  have sz_b2 : h0.size ≤ b2 := sz_fresh g2 K_b2
  have K_4 : Keep h0 h2 [] := K_b2.ext E2
  replace A2 : Ary Z h2 b2 .byte 8 (fun _ => (.int (0 : Int32))) := A2
  exact w_areturn X2 d19_6 rfl rfl rfl ⟨_, rfl, g2, gn2, kext K_4, A2⟩ (by decide) (by decide)
set_option maxRecDepth 65536 in
set_option maxHeartbeats 40000000 in
theorem rm_put4_0 {l : Launch} {Z : State} {a0 : Array Value} (hw : ∀ d ∈ tables_1, d.before a0 Z = true) {n0 : Nat} {h0 : Heap} (Z0 : n0 ≤ h0.size) (a1 : Addr) (p3 : Int32) {zc : Int32} (S_c : Sta Z h0 "java/lang/String" "COMPACT_STRINGS" "Z" (.int zc)) (hzc : ¬ zc = (0 : Int32)) {fm : Value} (S_f : Sta Z h0 "jdk/internal/util/Preconditions" "SIOOBE_FORMATTER" "Ljava/util/function/BiFunction;" fm) (hfm : fm.isRef = true) (S_a : Sta Z h0 "java/lang/StringUTF16" "$assertionsDisabled" "Z" (.int 1)) (S_h : Sta Z h0 "java/lang/StringUTF16" "HI_BYTE_SHIFT" "I" (.int 0)) (S_l : Sta Z h0 "java/lang/StringUTF16" "LO_BYTE_SHIFT" "I" (.int 8)) {f : Nat → Value} (A_1 : Ary Z h0 a1 .byte 8 f) (g_1 : n0 ≤ a1) :
    Con l Z n0 (⟨"java/lang/StringUTF16", "putChar", "([BII)V"⟩ : MethodName) jdk_52_method_4_code 3 none ({ frames := 0, cells := 0, slots := 0, locals := 0 } : Room) #[(.ref a1), (.int (0 : Int32)), (.int p3)] h0 (Non (fun h => Keep h0 h [a1] ∧ Ary Z h a1 .byte 8 (upd (upd f 0 (.int p3.toInt8.toInt32)) 1 (.int (p3 >>> ((8 : Int32) &&& 31)).toInt8.toInt32)))) := by
  refine con_intro pn_21 Z0 (fr := fun m => mkF m 0 #[.val (.ref a1), .val (.int (0 : Int32)), .val (.int p3)] []) (fun m => by first | (simp [entryFrame, mkF, argsToLocals, Value.category]; done) | rfl) ?_
  intro p e s m below s₁ hs0 X0
  refine w_getstatic X0 (pc' := 3) d21_0 (host := "") (Or.inl (hw _ (List.mem_of_getElem? (i := 92) rfl))) Via.refl S_a rfl fun T1 X1 => ?_
  refine w_if_ne X1 28 6 d21_3 (by decide) rfl rfl (fun hc3 => ?_) (fun hc3 => by exfalso; revert hc3; decide)
  refine w_iloadN X1 (pc' := 29) d21_28 rfl rfl ?_
  refine w_iconst X1 (pc' := 30) (1 : Int32) d21_29 rfl rfl ?_
  refine w_ishl X1 (pc' := 31) d21_30 rfl ?_
  rw [show ((0 : Int32) <<< ((1 : Int32) &&& 31)) = (0 : Int32) from by decide]
  show Go p e below _ (T1.setTop (mkF m 31 #[.val (.ref a1), .val (.int (0 : Int32)), .val (.int p3)] [(.int (0 : Int32))]))
  refine w_istoreN X1 (pc' := 32) (l' := #[.val (.ref a1), .val (.int (0 : Int32)), .val (.int p3)]) d21_31 rfl rfl ?_
  refine w_aloadN X1 (pc' := 33) d21_32 rfl rfl rfl ?_
  refine w_iloadN X1 (pc' := 34) d21_33 rfl rfl ?_
  refine w_iinc X1 (pc' := 37) ((0 : Int32) + (1 : Int32)) (l' := #[.val (.ref a1), .val (.int ((0 : Int32) + (1 : Int32))), .val (.int p3)]) d21_34 rfl rfl rfl rfl ?_
  refine w_iloadN X1 (pc' := 38) d21_37 rfl rfl ?_
  refine w_getstatic X1 (pc' := 41) d21_38 (host := "") (Or.inl (hw _ (List.mem_of_getElem? (i := 93) rfl))) Via.refl S_h rfl fun T2 X2 => ?_
  refine w_ishr X2 (pc' := 42) d21_41 rfl ?_
  refine w_i2b X2 (pc' := 43) d21_42 rfl ?_
  refine w_bastore X2 (pc' := 44) 0 d21_43 A_1 (by decide) (by decide) g_1 rfl fun T3 h3 X3 W3 A3 => ?_
  have S_a_4 := Sta.wr W3 S_a
  have S_h_4 := Sta.wr W3 S_h
  have S_l_4 := Sta.wr W3 S_l
  have K_5r : Keep h0 _ [a1] := (Keep.refl h0 [a1])
  have K_5 : Keep h0 h3 [a1] := K_5r.wr W3 (Or.inl (List.mem_of_getElem? (i := 0) rfl))
  refine w_aloadN X3 (pc' := 45) d21_44 rfl rfl rfl ?_
  refine w_iloadN X3 (pc' := 46) d21_45 rfl rfl ?_
  refine w_iloadN X3 (pc' := 47) d21_46 rfl rfl ?_
  refine w_getstatic X3 (pc' := 50) d21_47 (host := "") (Or.inl (hw _ (List.mem_of_getElem? (i := 94) rfl))) Via.refl S_l_4 rfl fun T6 X6 => ?_
  refine w_ishr X6 (pc' := 51) d21_50 rfl ?_
  refine w_i2b X6 (pc' := 52) d21_51 rfl ?_
  refine w_bastore X6 (pc' := 53) 1 d21_52 A3 (by decide) (by decide) g_1 rfl fun T7 h7 X7 W7 A7 => ?_
  have S_a_8 := Sta.wr W7 S_a_4
  have S_h_8 := Sta.wr W7 S_h_4
  have S_l_8 := Sta.wr W7 S_l_4
  have K_9 : Keep h0 h7 [a1] := K_5.wr W7 (Or.inl (List.mem_of_getElem? (i := 0) rfl))
  have Ap := A7
  rw [own_pc1, own_pc2] at Ap
  exact w_return X7 d21_53 ⟨K_9, Ap⟩ (by decide) (by decide)
set_option maxRecDepth 65536 in
set_option maxHeartbeats 40000000 in
theorem rm_put4_1 {l : Launch} {Z : State} {a0 : Array Value} (hw : ∀ d ∈ tables_1, d.before a0 Z = true) {n0 : Nat} {h0 : Heap} (Z0 : n0 ≤ h0.size) (a1 : Addr) (p3 : Int32) {zc : Int32} (S_c : Sta Z h0 "java/lang/String" "COMPACT_STRINGS" "Z" (.int zc)) (hzc : ¬ zc = (0 : Int32)) {fm : Value} (S_f : Sta Z h0 "jdk/internal/util/Preconditions" "SIOOBE_FORMATTER" "Ljava/util/function/BiFunction;" fm) (hfm : fm.isRef = true) (S_a : Sta Z h0 "java/lang/StringUTF16" "$assertionsDisabled" "Z" (.int 1)) (S_h : Sta Z h0 "java/lang/StringUTF16" "HI_BYTE_SHIFT" "I" (.int 0)) (S_l : Sta Z h0 "java/lang/StringUTF16" "LO_BYTE_SHIFT" "I" (.int 8)) {f : Nat → Value} (A_1 : Ary Z h0 a1 .byte 8 f) (g_1 : n0 ≤ a1) :
    Con l Z n0 (⟨"java/lang/StringUTF16", "putChar", "([BII)V"⟩ : MethodName) jdk_52_method_4_code 3 none ({ frames := 0, cells := 0, slots := 0, locals := 0 } : Room) #[(.ref a1), (.int (1 : Int32)), (.int p3)] h0 (Non (fun h => Keep h0 h [a1] ∧ Ary Z h a1 .byte 8 (upd (upd f 2 (.int p3.toInt8.toInt32)) 3 (.int (p3 >>> ((8 : Int32) &&& 31)).toInt8.toInt32)))) := by
  refine con_intro pn_21 Z0 (fr := fun m => mkF m 0 #[.val (.ref a1), .val (.int (1 : Int32)), .val (.int p3)] []) (fun m => by first | (simp [entryFrame, mkF, argsToLocals, Value.category]; done) | rfl) ?_
  intro p e s m below s₁ hs0 X0
  refine w_getstatic X0 (pc' := 3) d21_0 (host := "") (Or.inl (hw _ (List.mem_of_getElem? (i := 92) rfl))) Via.refl S_a rfl fun T1 X1 => ?_
  refine w_if_ne X1 28 6 d21_3 (by decide) rfl rfl (fun hc3 => ?_) (fun hc3 => by exfalso; revert hc3; decide)
  refine w_iloadN X1 (pc' := 29) d21_28 rfl rfl ?_
  refine w_iconst X1 (pc' := 30) (1 : Int32) d21_29 rfl rfl ?_
  refine w_ishl X1 (pc' := 31) d21_30 rfl ?_
  rw [show ((1 : Int32) <<< ((1 : Int32) &&& 31)) = (2 : Int32) from by decide]
  show Go p e below _ (T1.setTop (mkF m 31 #[.val (.ref a1), .val (.int (1 : Int32)), .val (.int p3)] [(.int (2 : Int32))]))
  refine w_istoreN X1 (pc' := 32) (l' := #[.val (.ref a1), .val (.int (2 : Int32)), .val (.int p3)]) d21_31 rfl rfl ?_
  refine w_aloadN X1 (pc' := 33) d21_32 rfl rfl rfl ?_
  refine w_iloadN X1 (pc' := 34) d21_33 rfl rfl ?_
  refine w_iinc X1 (pc' := 37) ((2 : Int32) + (1 : Int32)) (l' := #[.val (.ref a1), .val (.int ((2 : Int32) + (1 : Int32))), .val (.int p3)]) d21_34 rfl rfl rfl rfl ?_
  refine w_iloadN X1 (pc' := 38) d21_37 rfl rfl ?_
  refine w_getstatic X1 (pc' := 41) d21_38 (host := "") (Or.inl (hw _ (List.mem_of_getElem? (i := 93) rfl))) Via.refl S_h rfl fun T2 X2 => ?_
  refine w_ishr X2 (pc' := 42) d21_41 rfl ?_
  refine w_i2b X2 (pc' := 43) d21_42 rfl ?_
  refine w_bastore X2 (pc' := 44) 2 d21_43 A_1 (by decide) (by decide) g_1 rfl fun T3 h3 X3 W3 A3 => ?_
  have S_a_4 := Sta.wr W3 S_a
  have S_h_4 := Sta.wr W3 S_h
  have S_l_4 := Sta.wr W3 S_l
  have K_5r : Keep h0 _ [a1] := (Keep.refl h0 [a1])
  have K_5 : Keep h0 h3 [a1] := K_5r.wr W3 (Or.inl (List.mem_of_getElem? (i := 0) rfl))
  refine w_aloadN X3 (pc' := 45) d21_44 rfl rfl rfl ?_
  refine w_iloadN X3 (pc' := 46) d21_45 rfl rfl ?_
  refine w_iloadN X3 (pc' := 47) d21_46 rfl rfl ?_
  refine w_getstatic X3 (pc' := 50) d21_47 (host := "") (Or.inl (hw _ (List.mem_of_getElem? (i := 94) rfl))) Via.refl S_l_4 rfl fun T6 X6 => ?_
  refine w_ishr X6 (pc' := 51) d21_50 rfl ?_
  refine w_i2b X6 (pc' := 52) d21_51 rfl ?_
  refine w_bastore X6 (pc' := 53) 3 d21_52 A3 (by decide) (by decide) g_1 rfl fun T7 h7 X7 W7 A7 => ?_
  have S_a_8 := Sta.wr W7 S_a_4
  have S_h_8 := Sta.wr W7 S_h_4
  have S_l_8 := Sta.wr W7 S_l_4
  have K_9 : Keep h0 h7 [a1] := K_5.wr W7 (Or.inl (List.mem_of_getElem? (i := 0) rfl))
  have Ap := A7
  rw [own_pc1, own_pc2] at Ap
  exact w_return X7 d21_53 ⟨K_9, Ap⟩ (by decide) (by decide)
set_option maxRecDepth 65536 in
set_option maxHeartbeats 40000000 in
theorem rm_put4_2 {l : Launch} {Z : State} {a0 : Array Value} (hw : ∀ d ∈ tables_1, d.before a0 Z = true) {n0 : Nat} {h0 : Heap} (Z0 : n0 ≤ h0.size) (a1 : Addr) (p3 : Int32) {zc : Int32} (S_c : Sta Z h0 "java/lang/String" "COMPACT_STRINGS" "Z" (.int zc)) (hzc : ¬ zc = (0 : Int32)) {fm : Value} (S_f : Sta Z h0 "jdk/internal/util/Preconditions" "SIOOBE_FORMATTER" "Ljava/util/function/BiFunction;" fm) (hfm : fm.isRef = true) (S_a : Sta Z h0 "java/lang/StringUTF16" "$assertionsDisabled" "Z" (.int 1)) (S_h : Sta Z h0 "java/lang/StringUTF16" "HI_BYTE_SHIFT" "I" (.int 0)) (S_l : Sta Z h0 "java/lang/StringUTF16" "LO_BYTE_SHIFT" "I" (.int 8)) {f : Nat → Value} (A_1 : Ary Z h0 a1 .byte 8 f) (g_1 : n0 ≤ a1) :
    Con l Z n0 (⟨"java/lang/StringUTF16", "putChar", "([BII)V"⟩ : MethodName) jdk_52_method_4_code 3 none ({ frames := 0, cells := 0, slots := 0, locals := 0 } : Room) #[(.ref a1), (.int (2 : Int32)), (.int p3)] h0 (Non (fun h => Keep h0 h [a1] ∧ Ary Z h a1 .byte 8 (upd (upd f 4 (.int p3.toInt8.toInt32)) 5 (.int (p3 >>> ((8 : Int32) &&& 31)).toInt8.toInt32)))) := by
  refine con_intro pn_21 Z0 (fr := fun m => mkF m 0 #[.val (.ref a1), .val (.int (2 : Int32)), .val (.int p3)] []) (fun m => by first | (simp [entryFrame, mkF, argsToLocals, Value.category]; done) | rfl) ?_
  intro p e s m below s₁ hs0 X0
  refine w_getstatic X0 (pc' := 3) d21_0 (host := "") (Or.inl (hw _ (List.mem_of_getElem? (i := 92) rfl))) Via.refl S_a rfl fun T1 X1 => ?_
  refine w_if_ne X1 28 6 d21_3 (by decide) rfl rfl (fun hc3 => ?_) (fun hc3 => by exfalso; revert hc3; decide)
  refine w_iloadN X1 (pc' := 29) d21_28 rfl rfl ?_
  refine w_iconst X1 (pc' := 30) (1 : Int32) d21_29 rfl rfl ?_
  refine w_ishl X1 (pc' := 31) d21_30 rfl ?_
  rw [show ((2 : Int32) <<< ((1 : Int32) &&& 31)) = (4 : Int32) from by decide]
  show Go p e below _ (T1.setTop (mkF m 31 #[.val (.ref a1), .val (.int (2 : Int32)), .val (.int p3)] [(.int (4 : Int32))]))
  refine w_istoreN X1 (pc' := 32) (l' := #[.val (.ref a1), .val (.int (4 : Int32)), .val (.int p3)]) d21_31 rfl rfl ?_
  refine w_aloadN X1 (pc' := 33) d21_32 rfl rfl rfl ?_
  refine w_iloadN X1 (pc' := 34) d21_33 rfl rfl ?_
  refine w_iinc X1 (pc' := 37) ((4 : Int32) + (1 : Int32)) (l' := #[.val (.ref a1), .val (.int ((4 : Int32) + (1 : Int32))), .val (.int p3)]) d21_34 rfl rfl rfl rfl ?_
  refine w_iloadN X1 (pc' := 38) d21_37 rfl rfl ?_
  refine w_getstatic X1 (pc' := 41) d21_38 (host := "") (Or.inl (hw _ (List.mem_of_getElem? (i := 93) rfl))) Via.refl S_h rfl fun T2 X2 => ?_
  refine w_ishr X2 (pc' := 42) d21_41 rfl ?_
  refine w_i2b X2 (pc' := 43) d21_42 rfl ?_
  refine w_bastore X2 (pc' := 44) 4 d21_43 A_1 (by decide) (by decide) g_1 rfl fun T3 h3 X3 W3 A3 => ?_
  have S_a_4 := Sta.wr W3 S_a
  have S_h_4 := Sta.wr W3 S_h
  have S_l_4 := Sta.wr W3 S_l
  have K_5r : Keep h0 _ [a1] := (Keep.refl h0 [a1])
  have K_5 : Keep h0 h3 [a1] := K_5r.wr W3 (Or.inl (List.mem_of_getElem? (i := 0) rfl))
  refine w_aloadN X3 (pc' := 45) d21_44 rfl rfl rfl ?_
  refine w_iloadN X3 (pc' := 46) d21_45 rfl rfl ?_
  refine w_iloadN X3 (pc' := 47) d21_46 rfl rfl ?_
  refine w_getstatic X3 (pc' := 50) d21_47 (host := "") (Or.inl (hw _ (List.mem_of_getElem? (i := 94) rfl))) Via.refl S_l_4 rfl fun T6 X6 => ?_
  refine w_ishr X6 (pc' := 51) d21_50 rfl ?_
  refine w_i2b X6 (pc' := 52) d21_51 rfl ?_
  refine w_bastore X6 (pc' := 53) 5 d21_52 A3 (by decide) (by decide) g_1 rfl fun T7 h7 X7 W7 A7 => ?_
  have S_a_8 := Sta.wr W7 S_a_4
  have S_h_8 := Sta.wr W7 S_h_4
  have S_l_8 := Sta.wr W7 S_l_4
  have K_9 : Keep h0 h7 [a1] := K_5.wr W7 (Or.inl (List.mem_of_getElem? (i := 0) rfl))
  have Ap := A7
  rw [own_pc1, own_pc2] at Ap
  exact w_return X7 d21_53 ⟨K_9, Ap⟩ (by decide) (by decide)
set_option maxRecDepth 65536 in
set_option maxHeartbeats 40000000 in
theorem rm_put4_3 {l : Launch} {Z : State} {a0 : Array Value} (hw : ∀ d ∈ tables_1, d.before a0 Z = true) {n0 : Nat} {h0 : Heap} (Z0 : n0 ≤ h0.size) (a1 : Addr) (p3 : Int32) {zc : Int32} (S_c : Sta Z h0 "java/lang/String" "COMPACT_STRINGS" "Z" (.int zc)) (hzc : ¬ zc = (0 : Int32)) {fm : Value} (S_f : Sta Z h0 "jdk/internal/util/Preconditions" "SIOOBE_FORMATTER" "Ljava/util/function/BiFunction;" fm) (hfm : fm.isRef = true) (S_a : Sta Z h0 "java/lang/StringUTF16" "$assertionsDisabled" "Z" (.int 1)) (S_h : Sta Z h0 "java/lang/StringUTF16" "HI_BYTE_SHIFT" "I" (.int 0)) (S_l : Sta Z h0 "java/lang/StringUTF16" "LO_BYTE_SHIFT" "I" (.int 8)) {f : Nat → Value} (A_1 : Ary Z h0 a1 .byte 8 f) (g_1 : n0 ≤ a1) :
    Con l Z n0 (⟨"java/lang/StringUTF16", "putChar", "([BII)V"⟩ : MethodName) jdk_52_method_4_code 3 none ({ frames := 0, cells := 0, slots := 0, locals := 0 } : Room) #[(.ref a1), (.int (3 : Int32)), (.int p3)] h0 (Non (fun h => Keep h0 h [a1] ∧ Ary Z h a1 .byte 8 (upd (upd f 6 (.int p3.toInt8.toInt32)) 7 (.int (p3 >>> ((8 : Int32) &&& 31)).toInt8.toInt32)))) := by
  refine con_intro pn_21 Z0 (fr := fun m => mkF m 0 #[.val (.ref a1), .val (.int (3 : Int32)), .val (.int p3)] []) (fun m => by first | (simp [entryFrame, mkF, argsToLocals, Value.category]; done) | rfl) ?_
  intro p e s m below s₁ hs0 X0
  refine w_getstatic X0 (pc' := 3) d21_0 (host := "") (Or.inl (hw _ (List.mem_of_getElem? (i := 92) rfl))) Via.refl S_a rfl fun T1 X1 => ?_
  refine w_if_ne X1 28 6 d21_3 (by decide) rfl rfl (fun hc3 => ?_) (fun hc3 => by exfalso; revert hc3; decide)
  refine w_iloadN X1 (pc' := 29) d21_28 rfl rfl ?_
  refine w_iconst X1 (pc' := 30) (1 : Int32) d21_29 rfl rfl ?_
  refine w_ishl X1 (pc' := 31) d21_30 rfl ?_
  rw [show ((3 : Int32) <<< ((1 : Int32) &&& 31)) = (6 : Int32) from by decide]
  show Go p e below _ (T1.setTop (mkF m 31 #[.val (.ref a1), .val (.int (3 : Int32)), .val (.int p3)] [(.int (6 : Int32))]))
  refine w_istoreN X1 (pc' := 32) (l' := #[.val (.ref a1), .val (.int (6 : Int32)), .val (.int p3)]) d21_31 rfl rfl ?_
  refine w_aloadN X1 (pc' := 33) d21_32 rfl rfl rfl ?_
  refine w_iloadN X1 (pc' := 34) d21_33 rfl rfl ?_
  refine w_iinc X1 (pc' := 37) ((6 : Int32) + (1 : Int32)) (l' := #[.val (.ref a1), .val (.int ((6 : Int32) + (1 : Int32))), .val (.int p3)]) d21_34 rfl rfl rfl rfl ?_
  refine w_iloadN X1 (pc' := 38) d21_37 rfl rfl ?_
  refine w_getstatic X1 (pc' := 41) d21_38 (host := "") (Or.inl (hw _ (List.mem_of_getElem? (i := 93) rfl))) Via.refl S_h rfl fun T2 X2 => ?_
  refine w_ishr X2 (pc' := 42) d21_41 rfl ?_
  refine w_i2b X2 (pc' := 43) d21_42 rfl ?_
  refine w_bastore X2 (pc' := 44) 6 d21_43 A_1 (by decide) (by decide) g_1 rfl fun T3 h3 X3 W3 A3 => ?_
  have S_a_4 := Sta.wr W3 S_a
  have S_h_4 := Sta.wr W3 S_h
  have S_l_4 := Sta.wr W3 S_l
  have K_5r : Keep h0 _ [a1] := (Keep.refl h0 [a1])
  have K_5 : Keep h0 h3 [a1] := K_5r.wr W3 (Or.inl (List.mem_of_getElem? (i := 0) rfl))
  refine w_aloadN X3 (pc' := 45) d21_44 rfl rfl rfl ?_
  refine w_iloadN X3 (pc' := 46) d21_45 rfl rfl ?_
  refine w_iloadN X3 (pc' := 47) d21_46 rfl rfl ?_
  refine w_getstatic X3 (pc' := 50) d21_47 (host := "") (Or.inl (hw _ (List.mem_of_getElem? (i := 94) rfl))) Via.refl S_l_4 rfl fun T6 X6 => ?_
  refine w_ishr X6 (pc' := 51) d21_50 rfl ?_
  refine w_i2b X6 (pc' := 52) d21_51 rfl ?_
  refine w_bastore X6 (pc' := 53) 7 d21_52 A3 (by decide) (by decide) g_1 rfl fun T7 h7 X7 W7 A7 => ?_
  have S_a_8 := Sta.wr W7 S_a_4
  have S_h_8 := Sta.wr W7 S_h_4
  have S_l_8 := Sta.wr W7 S_l_4
  have K_9 : Keep h0 h7 [a1] := K_5.wr W7 (Or.inl (List.mem_of_getElem? (i := 0) rfl))
  have Ap := A7
  rw [own_pc1, own_pc2] at Ap
  exact w_return X7 d21_53 ⟨K_9, Ap⟩ (by decide) (by decide)
set_option maxRecDepth 65536 in
set_option maxHeartbeats 40000000 in
theorem rm_tb4 {l : Launch} {Z : State} {a0 : Array Value} (hw : ∀ d ∈ tables_1, d.before a0 Z = true) {n0 : Nat} {h0 : Heap} (Z0 : n0 ≤ h0.size) (a1 : Addr) {zc : Int32} (S_c : Sta Z h0 "java/lang/String" "COMPACT_STRINGS" "Z" (.int zc)) (hzc : ¬ zc = (0 : Int32)) {fm : Value} (S_f : Sta Z h0 "jdk/internal/util/Preconditions" "SIOOBE_FORMATTER" "Ljava/util/function/BiFunction;" fm) (hfm : fm.isRef = true) (S_a : Sta Z h0 "java/lang/StringUTF16" "$assertionsDisabled" "Z" (.int 1)) (S_h : Sta Z h0 "java/lang/StringUTF16" "HI_BYTE_SHIFT" "I" (.int 0)) (S_l : Sta Z h0 "java/lang/StringUTF16" "LO_BYTE_SHIFT" "I" (.int 8)) {c0 c1 c2 c3 : Int32} {f : Nat → Value} (A_1 : Ary Z h0 a1 .char 4 f) (hf0 : f 0 = .int c0) (hf1 : f 1 = .int c1) (hf2 : f 2 = .int c2) (hf3 : f 3 = .int c3)  :
    Con l Z n0 (⟨"java/lang/StringUTF16", "toBytes", "([CII)[B"⟩ : MethodName) jdk_52_method_14_code 5 (some (.array .byte)) ({ frames := 2, cells := 1, slots := 8, locals := 24 } : Room) #[(.ref a1), (.int (0 : Int32)), (.int (4 : Int32))] h0 (Val (fun v h => ∃ b : Addr, v = .ref b ∧ b = h0.size ∧ n0 ≤ b ∧ Keep h0 h [] ∧ Ary Z h b .byte 8 (own_u16 [c0, c1, c2, c3]))) := by
  refine con_intro pn_18 Z0 (fr := fun m => mkF m 0 #[.val (.ref a1), .val (.int (0 : Int32)), .val (.int (4 : Int32)), .unset, .unset] []) (fun m => by first | (simp [entryFrame, mkF, argsToLocals, Value.category]; done) | rfl) ?_
  intro p e s m below s₁ hs0 X0
  refine w_iloadN X0 (pc' := 1) d18_0 rfl rfl ?_
  refine w_staticV X0 (pc' := 4) d18_1 (rm_nbf4 hw (h0 := h0) (sd_size X0)) (hw _ (List.mem_of_getElem? (i := 82) rfl)) (hw _ (List.mem_of_getElem? (i := 83) rfl)) (hw _ (List.mem_of_getElem? (i := 49) rfl)) (hw _ (List.mem_of_getElem? (i := 84) rfl)) (by decide) [(.int (4 : Int32))] [] pd_19 rfl rfl rfl rfl 0 (Nat.le_refl _) (by decide) (by decide) (by decide) (by decide) rfl fun T1 h1 v1 X1 q1 => ?_
  obtain ⟨b1, rfl, g1, gn1, E1, A1⟩ := q1
  have ne_a1_b1 : a1 ≠ b1 := ne_new g1 A_1.lt
  have K_b1 : Keep h0 _ [] := (Keep.refl h0 [])
  have sz_b1 : h0.size ≤ b1 := sz_fresh g1 K_b1
  have A_2 := A_1.ext E1
  have K_3 : Keep h0 h1 [] := K_b1.ext E1
  refine w_astoreN X1 (pc' := 5) (l' := #[.val (.ref a1), .val (.int (0 : Int32)), .val (.int (4 : Int32)), .val (.ref b1), .unset]) d18_4 rfl rfl rfl ?_
  refine w_iconst X1 (pc' := 6) (0 : Int32) d18_5 rfl rfl ?_
  refine w_istore X1 (pc' := 8) (l' := #[.val (.ref a1), .val (.int (0 : Int32)), .val (.int (4 : Int32)), .val (.ref b1), .val (.int (0 : Int32))]) d18_6 rfl rfl ?_
  refine w_iload X1 (pc' := 10) d18_8 rfl rfl ?_
  refine w_iloadN X1 (pc' := 11) d18_10 rfl rfl ?_
  refine w_icmp_ge X1 32 14 d18_11 (by decide) rfl rfl (fun hc11 => by exfalso; revert hc11; decide) (fun hc11 => ?_)
  refine w_aloadN X1 (pc' := 15) d18_14 rfl rfl rfl ?_
  refine w_iload X1 (pc' := 17) d18_15 rfl rfl ?_
  refine w_aloadN X1 (pc' := 18) d18_17 rfl rfl rfl ?_
  refine w_iloadN X1 (pc' := 19) d18_18 rfl rfl ?_
  refine w_caload X1 (pc' := 20) 0 (v := (.int c0)) d18_19 A_2 (by decide) (by decide) hf0 rfl ?_
  refine w_staticN X1 (pc' := 23) d18_20 (rm_put4_0 hw (h0 := h1) (sd_size X1) b1 c0 (Sta.ext (kext K_3) S_c) hzc (Sta.ext (kext K_3) S_f) hfm (Sta.ext (kext K_3) S_a) (Sta.ext (kext K_3) S_h) (Sta.ext (kext K_3) S_l) A1 gn1) (hw _ (List.mem_of_getElem? (i := 89) rfl)) (hw _ (List.mem_of_getElem? (i := 90) rfl)) (hw _ (List.mem_of_getElem? (i := 49) rfl)) (hw _ (List.mem_of_getElem? (i := 91) rfl)) (by decide) [(.ref b1), (.int (0 : Int32)), (.int c0)] [] pd_21 rfl rfl rfl rfl 0 (Nat.le_refl _) (by decide) (by decide) (by decide) (by decide) rfl fun T4 h4 X4 q4 => ?_
  obtain ⟨K4, A4⟩ := q4
  have A_5 := A_2.keep K4 (ninS ne_a1_b1 nin0)
  have K_6 : Keep h0 h4 [] := K_3.trans K4 (allS (Or.inr sz_b1) all0)
  refine w_iinc X4 (pc' := 26) ((0 : Int32) + (1 : Int32)) (l' := #[.val (.ref a1), .val (.int ((0 : Int32) + (1 : Int32))), .val (.int (4 : Int32)), .val (.ref b1), .val (.int (0 : Int32))]) d18_23 rfl rfl rfl rfl ?_
  refine w_iinc X4 (pc' := 29) ((0 : Int32) + (1 : Int32)) (l' := #[.val (.ref a1), .val (.int ((0 : Int32) + (1 : Int32))), .val (.int (4 : Int32)), .val (.ref b1), .val (.int ((0 : Int32) + (1 : Int32)))]) d18_26 rfl rfl rfl rfl ?_
  refine w_goto X4 (pc' := 8) d18_29 (by decide) rfl ?_
  rw [show ((0 : Int32) + (1 : Int32)) = (1 : Int32) from by decide]
  show Go p e below _ (T4.setTop (mkF m 8 #[.val (.ref a1), .val (.int (1 : Int32)), .val (.int (4 : Int32)), .val (.ref b1), .val (.int (1 : Int32))] []))
  refine w_iload X4 (pc' := 10) d18_8 rfl rfl ?_
  refine w_iloadN X4 (pc' := 11) d18_10 rfl rfl ?_
  refine w_icmp_ge X4 32 14 d18_11 (by decide) rfl rfl (fun hc11 => by exfalso; revert hc11; decide) (fun hc11 => ?_)
  refine w_aloadN X4 (pc' := 15) d18_14 rfl rfl rfl ?_
  refine w_iload X4 (pc' := 17) d18_15 rfl rfl ?_
  refine w_aloadN X4 (pc' := 18) d18_17 rfl rfl rfl ?_
  refine w_iloadN X4 (pc' := 19) d18_18 rfl rfl ?_
  refine w_caload X4 (pc' := 20) 1 (v := (.int c1)) d18_19 A_5 (by decide) (by decide) hf1 rfl ?_
  refine w_staticN X4 (pc' := 23) d18_20 (rm_put4_1 hw (h0 := h4) (sd_size X4) b1 c1 (Sta.ext (kext K_6) S_c) hzc (Sta.ext (kext K_6) S_f) hfm (Sta.ext (kext K_6) S_a) (Sta.ext (kext K_6) S_h) (Sta.ext (kext K_6) S_l) A4 gn1) (hw _ (List.mem_of_getElem? (i := 89) rfl)) (hw _ (List.mem_of_getElem? (i := 90) rfl)) (hw _ (List.mem_of_getElem? (i := 49) rfl)) (hw _ (List.mem_of_getElem? (i := 91) rfl)) (by decide) [(.ref b1), (.int (1 : Int32)), (.int c1)] [] pd_21 rfl rfl rfl rfl 0 (Nat.le_refl _) (by decide) (by decide) (by decide) (by decide) rfl fun T7 h7 X7 q7 => ?_
  obtain ⟨K7, A7⟩ := q7
  have A_8 := A_5.keep K7 (ninS ne_a1_b1 nin0)
  have K_9 : Keep h0 h7 [] := K_6.trans K7 (allS (Or.inr sz_b1) all0)
  refine w_iinc X7 (pc' := 26) ((1 : Int32) + (1 : Int32)) (l' := #[.val (.ref a1), .val (.int ((1 : Int32) + (1 : Int32))), .val (.int (4 : Int32)), .val (.ref b1), .val (.int (1 : Int32))]) d18_23 rfl rfl rfl rfl ?_
  refine w_iinc X7 (pc' := 29) ((1 : Int32) + (1 : Int32)) (l' := #[.val (.ref a1), .val (.int ((1 : Int32) + (1 : Int32))), .val (.int (4 : Int32)), .val (.ref b1), .val (.int ((1 : Int32) + (1 : Int32)))]) d18_26 rfl rfl rfl rfl ?_
  refine w_goto X7 (pc' := 8) d18_29 (by decide) rfl ?_
  rw [show ((1 : Int32) + (1 : Int32)) = (2 : Int32) from by decide]
  show Go p e below _ (T7.setTop (mkF m 8 #[.val (.ref a1), .val (.int (2 : Int32)), .val (.int (4 : Int32)), .val (.ref b1), .val (.int (2 : Int32))] []))
  refine w_iload X7 (pc' := 10) d18_8 rfl rfl ?_
  refine w_iloadN X7 (pc' := 11) d18_10 rfl rfl ?_
  refine w_icmp_ge X7 32 14 d18_11 (by decide) rfl rfl (fun hc11 => by exfalso; revert hc11; decide) (fun hc11 => ?_)
  refine w_aloadN X7 (pc' := 15) d18_14 rfl rfl rfl ?_
  refine w_iload X7 (pc' := 17) d18_15 rfl rfl ?_
  refine w_aloadN X7 (pc' := 18) d18_17 rfl rfl rfl ?_
  refine w_iloadN X7 (pc' := 19) d18_18 rfl rfl ?_
  refine w_caload X7 (pc' := 20) 2 (v := (.int c2)) d18_19 A_8 (by decide) (by decide) hf2 rfl ?_
  refine w_staticN X7 (pc' := 23) d18_20 (rm_put4_2 hw (h0 := h7) (sd_size X7) b1 c2 (Sta.ext (kext K_9) S_c) hzc (Sta.ext (kext K_9) S_f) hfm (Sta.ext (kext K_9) S_a) (Sta.ext (kext K_9) S_h) (Sta.ext (kext K_9) S_l) A7 gn1) (hw _ (List.mem_of_getElem? (i := 89) rfl)) (hw _ (List.mem_of_getElem? (i := 90) rfl)) (hw _ (List.mem_of_getElem? (i := 49) rfl)) (hw _ (List.mem_of_getElem? (i := 91) rfl)) (by decide) [(.ref b1), (.int (2 : Int32)), (.int c2)] [] pd_21 rfl rfl rfl rfl 0 (Nat.le_refl _) (by decide) (by decide) (by decide) (by decide) rfl fun T10 h10 X10 q10 => ?_
  obtain ⟨K10, A10⟩ := q10
  have A_11 := A_8.keep K10 (ninS ne_a1_b1 nin0)
  have K_12 : Keep h0 h10 [] := K_9.trans K10 (allS (Or.inr sz_b1) all0)
  refine w_iinc X10 (pc' := 26) ((2 : Int32) + (1 : Int32)) (l' := #[.val (.ref a1), .val (.int ((2 : Int32) + (1 : Int32))), .val (.int (4 : Int32)), .val (.ref b1), .val (.int (2 : Int32))]) d18_23 rfl rfl rfl rfl ?_
  refine w_iinc X10 (pc' := 29) ((2 : Int32) + (1 : Int32)) (l' := #[.val (.ref a1), .val (.int ((2 : Int32) + (1 : Int32))), .val (.int (4 : Int32)), .val (.ref b1), .val (.int ((2 : Int32) + (1 : Int32)))]) d18_26 rfl rfl rfl rfl ?_
  refine w_goto X10 (pc' := 8) d18_29 (by decide) rfl ?_
  rw [show ((2 : Int32) + (1 : Int32)) = (3 : Int32) from by decide]
  show Go p e below _ (T10.setTop (mkF m 8 #[.val (.ref a1), .val (.int (3 : Int32)), .val (.int (4 : Int32)), .val (.ref b1), .val (.int (3 : Int32))] []))
  refine w_iload X10 (pc' := 10) d18_8 rfl rfl ?_
  refine w_iloadN X10 (pc' := 11) d18_10 rfl rfl ?_
  refine w_icmp_ge X10 32 14 d18_11 (by decide) rfl rfl (fun hc11 => by exfalso; revert hc11; decide) (fun hc11 => ?_)
  refine w_aloadN X10 (pc' := 15) d18_14 rfl rfl rfl ?_
  refine w_iload X10 (pc' := 17) d18_15 rfl rfl ?_
  refine w_aloadN X10 (pc' := 18) d18_17 rfl rfl rfl ?_
  refine w_iloadN X10 (pc' := 19) d18_18 rfl rfl ?_
  refine w_caload X10 (pc' := 20) 3 (v := (.int c3)) d18_19 A_11 (by decide) (by decide) hf3 rfl ?_
  refine w_staticN X10 (pc' := 23) d18_20 (rm_put4_3 hw (h0 := h10) (sd_size X10) b1 c3 (Sta.ext (kext K_12) S_c) hzc (Sta.ext (kext K_12) S_f) hfm (Sta.ext (kext K_12) S_a) (Sta.ext (kext K_12) S_h) (Sta.ext (kext K_12) S_l) A10 gn1) (hw _ (List.mem_of_getElem? (i := 89) rfl)) (hw _ (List.mem_of_getElem? (i := 90) rfl)) (hw _ (List.mem_of_getElem? (i := 49) rfl)) (hw _ (List.mem_of_getElem? (i := 91) rfl)) (by decide) [(.ref b1), (.int (3 : Int32)), (.int c3)] [] pd_21 rfl rfl rfl rfl 0 (Nat.le_refl _) (by decide) (by decide) (by decide) (by decide) rfl fun T13 h13 X13 q13 => ?_
  obtain ⟨K13, A13⟩ := q13
  have A_14 := A_11.keep K13 (ninS ne_a1_b1 nin0)
  have K_15 : Keep h0 h13 [] := K_12.trans K13 (allS (Or.inr sz_b1) all0)
  refine w_iinc X13 (pc' := 26) ((3 : Int32) + (1 : Int32)) (l' := #[.val (.ref a1), .val (.int ((3 : Int32) + (1 : Int32))), .val (.int (4 : Int32)), .val (.ref b1), .val (.int (3 : Int32))]) d18_23 rfl rfl rfl rfl ?_
  refine w_iinc X13 (pc' := 29) ((3 : Int32) + (1 : Int32)) (l' := #[.val (.ref a1), .val (.int ((3 : Int32) + (1 : Int32))), .val (.int (4 : Int32)), .val (.ref b1), .val (.int ((3 : Int32) + (1 : Int32)))]) d18_26 rfl rfl rfl rfl ?_
  refine w_goto X13 (pc' := 8) d18_29 (by decide) rfl ?_
  rw [show ((3 : Int32) + (1 : Int32)) = (4 : Int32) from by decide]
  show Go p e below _ (T13.setTop (mkF m 8 #[.val (.ref a1), .val (.int (4 : Int32)), .val (.int (4 : Int32)), .val (.ref b1), .val (.int (4 : Int32))] []))
  refine w_iload X13 (pc' := 10) d18_8 rfl rfl ?_
  refine w_iloadN X13 (pc' := 11) d18_10 rfl rfl ?_
  refine w_icmp_ge X13 32 14 d18_11 (by decide) rfl rfl (fun hc11 => ?_) (fun hc11 => by exfalso; revert hc11; decide)
  refine w_aloadN X13 (pc' := 33) d18_32 rfl rfl rfl ?_
  have Au : Ary Z h13 b1 .byte 8 (own_u16 [c0, c1, c2, c3]) := A13.congr (fun i hi => by
    have : i = 0 ∨ i = 1 ∨ i = 2 ∨ i = 3 ∨ i = 4 ∨ i = 5 ∨ i = 6 ∨ i = 7 := by omega
    rcases this with rfl | rfl | rfl | rfl | rfl | rfl | rfl | rfl <;> rfl)
  exact w_areturn X13 d18_33 rfl rfl rfl ⟨_, rfl, g1, gn1, K_15, Au⟩ (by decide) (by decide)
set_option maxRecDepth 65536 in
set_option maxHeartbeats 40000000 in
theorem rm_cmB4 {l : Launch} {Z : State} {a0 : Array Value} (hw : ∀ d ∈ tables_1, d.before a0 Z = true) {n0 : Nat} {h0 : Heap} (Z0 : n0 ≤ h0.size) (a1 : Addr) {zc : Int32} (S_c : Sta Z h0 "java/lang/String" "COMPACT_STRINGS" "Z" (.int zc)) (hzc : ¬ zc = (0 : Int32)) {fm : Value} (S_f : Sta Z h0 "jdk/internal/util/Preconditions" "SIOOBE_FORMATTER" "Ljava/util/function/BiFunction;" fm) (hfm : fm.isRef = true) (S_a : Sta Z h0 "java/lang/StringUTF16" "$assertionsDisabled" "Z" (.int 1)) (S_h : Sta Z h0 "java/lang/StringUTF16" "HI_BYTE_SHIFT" "I" (.int 0)) (S_l : Sta Z h0 "java/lang/StringUTF16" "LO_BYTE_SHIFT" "I" (.int 8)) {c0 c1 c2 c3 : Int32} (R0 : own_R c0) (R1 : own_R c1) (R2 : own_R c2) (R3 : own_R c3) {f : Nat → Value} (A_1 : Ary Z h0 a1 .char 4 f) (hf0 : f 0 = .int c0) (hf1 : f 1 = .int c1) (hf2 : f 2 = .int c2) (hf3 : f 3 = .int c3)  :
    Con l Z n0 (⟨"java/lang/StringUTF16", "compress", "([CII)[B"⟩ : MethodName) jdk_52_method_16_code 6 (some (.array .byte)) ({ frames := 3, cells := 2, slots := 12, locals := 40 } : Room) #[(.ref a1), (.int (0 : Int32)), (.int (4 : Int32))] h0 (Val (fun v h => ∃ b : Addr, v = .ref b ∧ h0.size ≤ b ∧ n0 ≤ b ∧ Keep h0 h [] ∧ (((∀ i, i < 4 → ¬ (255 : Int32) < [c0, c1, c2, c3].getD i 0) ∧ Ary Z h b .byte 4 (fun i => .int ([c0, c1, c2, c3].getD i 0).toInt8.toInt32)) ∨ Ary Z h b .byte 8 (own_u16 [c0, c1, c2, c3])))) := by
  refine con_intro pn_10 Z0 (fr := fun m => mkF m 0 #[.val (.ref a1), .val (.int (0 : Int32)), .val (.int (4 : Int32)), .unset, .unset, .unset] []) (fun m => by first | (simp [entryFrame, mkF, argsToLocals, Value.category]; done) | rfl) ?_
  intro p e s m below s₁ hs0 X0
  refine w_iloadN X0 (pc' := 1) d10_0 rfl rfl ?_
  refine w_newarray X0 (pc' := 3) 4 4 d10_1 (hw _ (List.mem_of_getElem? (i := 19) rfl)) (by decide) (by decide) (by decide) (by decide) (by decide) rfl fun T1 h1 b1 g1 gn1 X1 E1 A1 => ?_
  have ne_a1_b1 : a1 ≠ b1 := ne_new g1 A_1.lt
  have K_b1 : Keep h0 _ [] := (Keep.refl h0 [])
  have sz_b1 : h0.size ≤ b1 := sz_fresh g1 K_b1
  have A_2 := A_1.ext E1
  have K_3 : Keep h0 h1 [] := K_b1.ext E1
  replace A1 : Ary Z h1 b1 .byte 4 (fun _ => (.int (0 : Int32))) := A1
  refine w_astoreN X1 (pc' := 4) (l' := #[.val (.ref a1), .val (.int (0 : Int32)), .val (.int (4 : Int32)), .val (.ref b1), .unset, .unset]) d10_3 rfl rfl rfl ?_
  refine w_aloadN X1 (pc' := 5) d10_4 rfl rfl rfl ?_
  refine w_iloadN X1 (pc' := 6) d10_5 rfl rfl ?_
  refine w_aloadN X1 (pc' := 7) d10_6 rfl rfl rfl ?_
  refine w_iconst X1 (pc' := 8) (0 : Int32) d10_7 rfl rfl ?_
  refine w_iloadN X1 (pc' := 9) d10_8 rfl rfl ?_
  refine w_staticV X1 (pc' := 12) d10_9 (rm_cmI4 hw (h0 := h1) (sd_size X1) a1 b1 A_2 A1 ne_a1_b1 gn1 hf0 hf1 hf2 hf3) (hw _ (List.mem_of_getElem? (i := 51) rfl)) (hw _ (List.mem_of_getElem? (i := 52) rfl)) (hw _ (List.mem_of_getElem? (i := 49) rfl)) (hw _ (List.mem_of_getElem? (i := 53) rfl)) (by decide) [(.ref a1), (.int (0 : Int32)), (.ref b1), (.int (0 : Int32)), (.int (4 : Int32))] [] pd_11 rfl rfl rfl rfl 0 (Nat.le_refl _) (by decide) (by decide) (by decide) (by decide) rfl fun T4 h4 v4 X4 q4 => ?_
  obtain ⟨K4, D4⟩ := q4
  have A_5 := A_2.keep K4 (ninS ne_a1_b1 nin0)
  have K_6 : Keep h0 h4 [] := K_3.trans K4 (allS (Or.inr sz_b1) all0)
  rcases D4 with ⟨rfl, hall, AL⟩ | ⟨rfl, hbig⟩ | ⟨rfl, hbig⟩ | ⟨rfl, hbig⟩ | ⟨rfl, hbig⟩
  · skip
    show Go p e below _ (T4.setTop (mkF m 12 #[.val (.ref a1), .val (.int (0 : Int32)), .val (.int (4 : Int32)), .val (.ref b1), .unset, .unset] [(.int (4 : Int32))]))
    refine w_istore X4 (pc' := 14) (l' := #[.val (.ref a1), .val (.int (0 : Int32)), .val (.int (4 : Int32)), .val (.ref b1), .val (.int (4 : Int32)), .unset]) d10_12 rfl rfl ?_
    refine w_iload X4 (pc' := 16) d10_14 rfl rfl ?_
    refine w_iloadN X4 (pc' := 17) d10_16 rfl rfl ?_
    refine w_icmp_eq X4 57 20 d10_17 (by decide) rfl rfl (fun hc17 => ?_) (fun hc17 => by exfalso; revert hc17; decide)
    refine w_aloadN X4 (pc' := 58) d10_57 rfl rfl rfl ?_
    exact w_areturn X4 d10_58 rfl rfl rfl ⟨_, rfl, sz_b1, gn1, K_6, Or.inl ⟨hall, AL⟩⟩ (by decide) (by decide)
  · skip
    show Go p e below _ (T4.setTop (mkF m 12 #[.val (.ref a1), .val (.int (0 : Int32)), .val (.int (4 : Int32)), .val (.ref b1), .unset, .unset] [(.int (0 : Int32))]))
    refine w_istore X4 (pc' := 14) (l' := #[.val (.ref a1), .val (.int (0 : Int32)), .val (.int (4 : Int32)), .val (.ref b1), .val (.int (0 : Int32)), .unset]) d10_12 rfl rfl ?_
    refine w_iload X4 (pc' := 16) d10_14 rfl rfl ?_
    refine w_iloadN X4 (pc' := 17) d10_16 rfl rfl ?_
    refine w_icmp_eq X4 57 20 d10_17 (by decide) rfl rfl (fun hc17 => by exfalso; revert hc17; decide) (fun hc17 => ?_)
    refine w_aloadN X4 (pc' := 21) d10_20 rfl rfl rfl ?_
    refine w_iloadN X4 (pc' := 22) d10_21 rfl rfl ?_
    refine w_iloadN X4 (pc' := 23) d10_22 rfl rfl ?_
    refine w_staticV X4 (pc' := 26) d10_23 (rm_tb4 hw (h0 := h4) (sd_size X4) a1 (Sta.ext (kext K_6) S_c) hzc (Sta.ext (kext K_6) S_f) hfm (Sta.ext (kext K_6) S_a) (Sta.ext (kext K_6) S_h) (Sta.ext (kext K_6) S_l) A_5 hf0 hf1 hf2 hf3) (hw _ (List.mem_of_getElem? (i := 79) rfl)) (hw _ (List.mem_of_getElem? (i := 80) rfl)) (hw _ (List.mem_of_getElem? (i := 49) rfl)) (hw _ (List.mem_of_getElem? (i := 81) rfl)) (by decide) [(.ref a1), (.int (0 : Int32)), (.int (4 : Int32))] [] pd_18 rfl rfl rfl rfl 0 (Nat.le_refl _) (by decide) (by decide) (by decide) (by decide) rfl fun T7 h7 v7 X7 q7 => ?_
    obtain ⟨b7, rfl, g7, gn7, K7, A7⟩ := q7
    have ne_a1_b7 : a1 ≠ b7 := ne_new g7 A_5.lt
    have sz_b7 : h0.size ≤ b7 := sz_fresh g7 K_6
    have A_8 := A_5.keep K7 nin0
    have K_9 : Keep h0 h7 [] := K_6.trans K7 all0
    refine w_astore X7 (pc' := 28) (l' := #[.val (.ref a1), .val (.int (0 : Int32)), .val (.int (4 : Int32)), .val (.ref b1), .val (.int (0 : Int32)), .val (.ref b7)]) d10_26 rfl rfl rfl ?_
    refine w_aload X7 (pc' := 30) d10_28 rfl rfl rfl ?_
    refine w_iload X7 (pc' := 32) d10_30 rfl rfl ?_
    refine w_staticV X7 (pc' := 35) d10_32 (rm_gc4_0 hw (h0 := h7) (sd_size X7) b7 (Sta.ext (kext K_9) S_c) hzc (Sta.ext (kext K_9) S_f) hfm (Sta.ext (kext K_9) S_a) (Sta.ext (kext K_9) S_h) (Sta.ext (kext K_9) S_l) R0 R1 R2 R3 A7) (hw _ (List.mem_of_getElem? (i := 95) rfl)) (hw _ (List.mem_of_getElem? (i := 96) rfl)) (hw _ (List.mem_of_getElem? (i := 49) rfl)) (hw _ (List.mem_of_getElem? (i := 97) rfl)) (by decide) [(.ref b7), (.int (0 : Int32))] [] pd_22 rfl rfl rfl rfl 0 (Nat.le_refl _) (by decide) (by decide) (by decide) (by decide) rfl fun T10 h10 v10 X10 q10 => ?_
    obtain ⟨rfl, rfl⟩ := q10
    refine w_sipush X10 (pc' := 38) (255 : Int32) d10_35 rfl rfl ?_
    refine w_icmp_gt X10 54 41 d10_38 (by decide) rfl rfl (fun hc38 => ?_) (fun hc38 => by exfalso; exact hc38 hbig)
    refine w_aload X10 (pc' := 56) d10_54 rfl rfl rfl ?_
    exact w_areturn X10 d10_56 rfl rfl rfl ⟨_, rfl, sz_b7, gn7, K_9, Or.inr A7⟩ (by decide) (by decide)
  · skip
    show Go p e below _ (T4.setTop (mkF m 12 #[.val (.ref a1), .val (.int (0 : Int32)), .val (.int (4 : Int32)), .val (.ref b1), .unset, .unset] [(.int (1 : Int32))]))
    refine w_istore X4 (pc' := 14) (l' := #[.val (.ref a1), .val (.int (0 : Int32)), .val (.int (4 : Int32)), .val (.ref b1), .val (.int (1 : Int32)), .unset]) d10_12 rfl rfl ?_
    refine w_iload X4 (pc' := 16) d10_14 rfl rfl ?_
    refine w_iloadN X4 (pc' := 17) d10_16 rfl rfl ?_
    refine w_icmp_eq X4 57 20 d10_17 (by decide) rfl rfl (fun hc17 => by exfalso; revert hc17; decide) (fun hc17 => ?_)
    refine w_aloadN X4 (pc' := 21) d10_20 rfl rfl rfl ?_
    refine w_iloadN X4 (pc' := 22) d10_21 rfl rfl ?_
    refine w_iloadN X4 (pc' := 23) d10_22 rfl rfl ?_
    refine w_staticV X4 (pc' := 26) d10_23 (rm_tb4 hw (h0 := h4) (sd_size X4) a1 (Sta.ext (kext K_6) S_c) hzc (Sta.ext (kext K_6) S_f) hfm (Sta.ext (kext K_6) S_a) (Sta.ext (kext K_6) S_h) (Sta.ext (kext K_6) S_l) A_5 hf0 hf1 hf2 hf3) (hw _ (List.mem_of_getElem? (i := 79) rfl)) (hw _ (List.mem_of_getElem? (i := 80) rfl)) (hw _ (List.mem_of_getElem? (i := 49) rfl)) (hw _ (List.mem_of_getElem? (i := 81) rfl)) (by decide) [(.ref a1), (.int (0 : Int32)), (.int (4 : Int32))] [] pd_18 rfl rfl rfl rfl 0 (Nat.le_refl _) (by decide) (by decide) (by decide) (by decide) rfl fun T11 h11 v11 X11 q11 => ?_
    obtain ⟨b11, rfl, g11, gn11, K11, A11⟩ := q11
    have ne_a1_b11 : a1 ≠ b11 := ne_new g11 A_5.lt
    have sz_b11 : h0.size ≤ b11 := sz_fresh g11 K_6
    have A_12 := A_5.keep K11 nin0
    have K_13 : Keep h0 h11 [] := K_6.trans K11 all0
    refine w_astore X11 (pc' := 28) (l' := #[.val (.ref a1), .val (.int (0 : Int32)), .val (.int (4 : Int32)), .val (.ref b1), .val (.int (1 : Int32)), .val (.ref b11)]) d10_26 rfl rfl rfl ?_
    refine w_aload X11 (pc' := 30) d10_28 rfl rfl rfl ?_
    refine w_iload X11 (pc' := 32) d10_30 rfl rfl ?_
    refine w_staticV X11 (pc' := 35) d10_32 (rm_gc4_1 hw (h0 := h11) (sd_size X11) b11 (Sta.ext (kext K_13) S_c) hzc (Sta.ext (kext K_13) S_f) hfm (Sta.ext (kext K_13) S_a) (Sta.ext (kext K_13) S_h) (Sta.ext (kext K_13) S_l) R0 R1 R2 R3 A11) (hw _ (List.mem_of_getElem? (i := 95) rfl)) (hw _ (List.mem_of_getElem? (i := 96) rfl)) (hw _ (List.mem_of_getElem? (i := 49) rfl)) (hw _ (List.mem_of_getElem? (i := 97) rfl)) (by decide) [(.ref b11), (.int (1 : Int32))] [] pd_22 rfl rfl rfl rfl 0 (Nat.le_refl _) (by decide) (by decide) (by decide) (by decide) rfl fun T14 h14 v14 X14 q14 => ?_
    obtain ⟨rfl, rfl⟩ := q14
    refine w_sipush X14 (pc' := 38) (255 : Int32) d10_35 rfl rfl ?_
    refine w_icmp_gt X14 54 41 d10_38 (by decide) rfl rfl (fun hc38 => ?_) (fun hc38 => by exfalso; exact hc38 hbig)
    refine w_aload X14 (pc' := 56) d10_54 rfl rfl rfl ?_
    exact w_areturn X14 d10_56 rfl rfl rfl ⟨_, rfl, sz_b11, gn11, K_13, Or.inr A11⟩ (by decide) (by decide)
  · skip
    show Go p e below _ (T4.setTop (mkF m 12 #[.val (.ref a1), .val (.int (0 : Int32)), .val (.int (4 : Int32)), .val (.ref b1), .unset, .unset] [(.int (2 : Int32))]))
    refine w_istore X4 (pc' := 14) (l' := #[.val (.ref a1), .val (.int (0 : Int32)), .val (.int (4 : Int32)), .val (.ref b1), .val (.int (2 : Int32)), .unset]) d10_12 rfl rfl ?_
    refine w_iload X4 (pc' := 16) d10_14 rfl rfl ?_
    refine w_iloadN X4 (pc' := 17) d10_16 rfl rfl ?_
    refine w_icmp_eq X4 57 20 d10_17 (by decide) rfl rfl (fun hc17 => by exfalso; revert hc17; decide) (fun hc17 => ?_)
    refine w_aloadN X4 (pc' := 21) d10_20 rfl rfl rfl ?_
    refine w_iloadN X4 (pc' := 22) d10_21 rfl rfl ?_
    refine w_iloadN X4 (pc' := 23) d10_22 rfl rfl ?_
    refine w_staticV X4 (pc' := 26) d10_23 (rm_tb4 hw (h0 := h4) (sd_size X4) a1 (Sta.ext (kext K_6) S_c) hzc (Sta.ext (kext K_6) S_f) hfm (Sta.ext (kext K_6) S_a) (Sta.ext (kext K_6) S_h) (Sta.ext (kext K_6) S_l) A_5 hf0 hf1 hf2 hf3) (hw _ (List.mem_of_getElem? (i := 79) rfl)) (hw _ (List.mem_of_getElem? (i := 80) rfl)) (hw _ (List.mem_of_getElem? (i := 49) rfl)) (hw _ (List.mem_of_getElem? (i := 81) rfl)) (by decide) [(.ref a1), (.int (0 : Int32)), (.int (4 : Int32))] [] pd_18 rfl rfl rfl rfl 0 (Nat.le_refl _) (by decide) (by decide) (by decide) (by decide) rfl fun T15 h15 v15 X15 q15 => ?_
    obtain ⟨b15, rfl, g15, gn15, K15, A15⟩ := q15
    have ne_a1_b15 : a1 ≠ b15 := ne_new g15 A_5.lt
    have sz_b15 : h0.size ≤ b15 := sz_fresh g15 K_6
    have A_16 := A_5.keep K15 nin0
    have K_17 : Keep h0 h15 [] := K_6.trans K15 all0
    refine w_astore X15 (pc' := 28) (l' := #[.val (.ref a1), .val (.int (0 : Int32)), .val (.int (4 : Int32)), .val (.ref b1), .val (.int (2 : Int32)), .val (.ref b15)]) d10_26 rfl rfl rfl ?_
    refine w_aload X15 (pc' := 30) d10_28 rfl rfl rfl ?_
    refine w_iload X15 (pc' := 32) d10_30 rfl rfl ?_
    refine w_staticV X15 (pc' := 35) d10_32 (rm_gc4_2 hw (h0 := h15) (sd_size X15) b15 (Sta.ext (kext K_17) S_c) hzc (Sta.ext (kext K_17) S_f) hfm (Sta.ext (kext K_17) S_a) (Sta.ext (kext K_17) S_h) (Sta.ext (kext K_17) S_l) R0 R1 R2 R3 A15) (hw _ (List.mem_of_getElem? (i := 95) rfl)) (hw _ (List.mem_of_getElem? (i := 96) rfl)) (hw _ (List.mem_of_getElem? (i := 49) rfl)) (hw _ (List.mem_of_getElem? (i := 97) rfl)) (by decide) [(.ref b15), (.int (2 : Int32))] [] pd_22 rfl rfl rfl rfl 0 (Nat.le_refl _) (by decide) (by decide) (by decide) (by decide) rfl fun T18 h18 v18 X18 q18 => ?_
    obtain ⟨rfl, rfl⟩ := q18
    refine w_sipush X18 (pc' := 38) (255 : Int32) d10_35 rfl rfl ?_
    refine w_icmp_gt X18 54 41 d10_38 (by decide) rfl rfl (fun hc38 => ?_) (fun hc38 => by exfalso; exact hc38 hbig)
    refine w_aload X18 (pc' := 56) d10_54 rfl rfl rfl ?_
    exact w_areturn X18 d10_56 rfl rfl rfl ⟨_, rfl, sz_b15, gn15, K_17, Or.inr A15⟩ (by decide) (by decide)
  · skip
    show Go p e below _ (T4.setTop (mkF m 12 #[.val (.ref a1), .val (.int (0 : Int32)), .val (.int (4 : Int32)), .val (.ref b1), .unset, .unset] [(.int (3 : Int32))]))
    refine w_istore X4 (pc' := 14) (l' := #[.val (.ref a1), .val (.int (0 : Int32)), .val (.int (4 : Int32)), .val (.ref b1), .val (.int (3 : Int32)), .unset]) d10_12 rfl rfl ?_
    refine w_iload X4 (pc' := 16) d10_14 rfl rfl ?_
    refine w_iloadN X4 (pc' := 17) d10_16 rfl rfl ?_
    refine w_icmp_eq X4 57 20 d10_17 (by decide) rfl rfl (fun hc17 => by exfalso; revert hc17; decide) (fun hc17 => ?_)
    refine w_aloadN X4 (pc' := 21) d10_20 rfl rfl rfl ?_
    refine w_iloadN X4 (pc' := 22) d10_21 rfl rfl ?_
    refine w_iloadN X4 (pc' := 23) d10_22 rfl rfl ?_
    refine w_staticV X4 (pc' := 26) d10_23 (rm_tb4 hw (h0 := h4) (sd_size X4) a1 (Sta.ext (kext K_6) S_c) hzc (Sta.ext (kext K_6) S_f) hfm (Sta.ext (kext K_6) S_a) (Sta.ext (kext K_6) S_h) (Sta.ext (kext K_6) S_l) A_5 hf0 hf1 hf2 hf3) (hw _ (List.mem_of_getElem? (i := 79) rfl)) (hw _ (List.mem_of_getElem? (i := 80) rfl)) (hw _ (List.mem_of_getElem? (i := 49) rfl)) (hw _ (List.mem_of_getElem? (i := 81) rfl)) (by decide) [(.ref a1), (.int (0 : Int32)), (.int (4 : Int32))] [] pd_18 rfl rfl rfl rfl 0 (Nat.le_refl _) (by decide) (by decide) (by decide) (by decide) rfl fun T19 h19 v19 X19 q19 => ?_
    obtain ⟨b19, rfl, g19, gn19, K19, A19⟩ := q19
    have ne_a1_b19 : a1 ≠ b19 := ne_new g19 A_5.lt
    have sz_b19 : h0.size ≤ b19 := sz_fresh g19 K_6
    have A_20 := A_5.keep K19 nin0
    have K_21 : Keep h0 h19 [] := K_6.trans K19 all0
    refine w_astore X19 (pc' := 28) (l' := #[.val (.ref a1), .val (.int (0 : Int32)), .val (.int (4 : Int32)), .val (.ref b1), .val (.int (3 : Int32)), .val (.ref b19)]) d10_26 rfl rfl rfl ?_
    refine w_aload X19 (pc' := 30) d10_28 rfl rfl rfl ?_
    refine w_iload X19 (pc' := 32) d10_30 rfl rfl ?_
    refine w_staticV X19 (pc' := 35) d10_32 (rm_gc4_3 hw (h0 := h19) (sd_size X19) b19 (Sta.ext (kext K_21) S_c) hzc (Sta.ext (kext K_21) S_f) hfm (Sta.ext (kext K_21) S_a) (Sta.ext (kext K_21) S_h) (Sta.ext (kext K_21) S_l) R0 R1 R2 R3 A19) (hw _ (List.mem_of_getElem? (i := 95) rfl)) (hw _ (List.mem_of_getElem? (i := 96) rfl)) (hw _ (List.mem_of_getElem? (i := 49) rfl)) (hw _ (List.mem_of_getElem? (i := 97) rfl)) (by decide) [(.ref b19), (.int (3 : Int32))] [] pd_22 rfl rfl rfl rfl 0 (Nat.le_refl _) (by decide) (by decide) (by decide) (by decide) rfl fun T22 h22 v22 X22 q22 => ?_
    obtain ⟨rfl, rfl⟩ := q22
    refine w_sipush X22 (pc' := 38) (255 : Int32) d10_35 rfl rfl ?_
    refine w_icmp_gt X22 54 41 d10_38 (by decide) rfl rfl (fun hc38 => ?_) (fun hc38 => by exfalso; exact hc38 hbig)
    refine w_aload X22 (pc' := 56) d10_54 rfl rfl rfl ?_
    exact w_areturn X22 d10_56 rfl rfl rfl ⟨_, rfl, sz_b19, gn19, K_21, Or.inr A19⟩ (by decide) (by decide)
set_option maxRecDepth 65536 in
set_option maxHeartbeats 40000000 in
theorem rm_cfl4_0 {l : Launch} {Z : State} {a0 : Array Value} (hw : ∀ d ∈ tables_1, d.before a0 Z = true) {n0 : Nat} {h0 : Heap} (Z0 : n0 ≤ h0.size) (a1 : Addr) {f : Nat → Value} (A_1 : Ary Z h0 a1 .byte 4 f) :
    Con l Z n0 (⟨"java/lang/StringUTF16", "coderFromArrayLen", "([BI)B"⟩ : MethodName) jdk_52_method_15_code 2 (some .byte) ({ frames := 0, cells := 0, slots := 0, locals := 0 } : Room) #[(.ref a1), (.int (4 : Int32))] h0 (Val (fun v h => v = .int 0 ∧ h0 = h)) := by
  refine con_intro pn_12 Z0 (fr := fun m => mkF m 0 #[.val (.ref a1), .val (.int (4 : Int32))] []) (fun m => by first | (simp [entryFrame, mkF, argsToLocals, Value.category]; done) | rfl) ?_
  intro p e s m below s₁ hs0 X0
  refine w_iloadN X0 (pc' := 1) d12_0 rfl rfl ?_
  refine w_aloadN X0 (pc' := 2) d12_1 rfl rfl rfl ?_
  refine w_arraylength X0 (pc' := 3) (4 : Int32) d12_2 A_1 (by decide) rfl ?_
  refine w_isub X0 (pc' := 4) d12_3 rfl ?_
  refine w_bipush X0 (pc' := 6) (31 : Int32) d12_4 rfl rfl ?_
  refine w_iushr X0 (pc' := 7) d12_6 rfl ?_
  refine w_i2b X0 (pc' := 8) d12_7 rfl ?_
  exact w_breturn X0 d12_8 ⟨by decide, rfl⟩ (by decide) (by decide)
set_option maxRecDepth 65536 in
set_option maxHeartbeats 40000000 in
theorem rm_cfl4_1 {l : Launch} {Z : State} {a0 : Array Value} (hw : ∀ d ∈ tables_1, d.before a0 Z = true) {n0 : Nat} {h0 : Heap} (Z0 : n0 ≤ h0.size) (a1 : Addr) {f : Nat → Value} (A_1 : Ary Z h0 a1 .byte 8 f) :
    Con l Z n0 (⟨"java/lang/StringUTF16", "coderFromArrayLen", "([BI)B"⟩ : MethodName) jdk_52_method_15_code 2 (some .byte) ({ frames := 0, cells := 0, slots := 0, locals := 0 } : Room) #[(.ref a1), (.int (4 : Int32))] h0 (Val (fun v h => v = .int 1 ∧ h0 = h)) := by
  refine con_intro pn_12 Z0 (fr := fun m => mkF m 0 #[.val (.ref a1), .val (.int (4 : Int32))] []) (fun m => by first | (simp [entryFrame, mkF, argsToLocals, Value.category]; done) | rfl) ?_
  intro p e s m below s₁ hs0 X0
  refine w_iloadN X0 (pc' := 1) d12_0 rfl rfl ?_
  refine w_aloadN X0 (pc' := 2) d12_1 rfl rfl rfl ?_
  refine w_arraylength X0 (pc' := 3) (8 : Int32) d12_2 A_1 (by decide) rfl ?_
  refine w_isub X0 (pc' := 4) d12_3 rfl ?_
  refine w_bipush X0 (pc' := 6) (31 : Int32) d12_4 rfl rfl ?_
  refine w_iushr X0 (pc' := 7) d12_6 rfl ?_
  refine w_i2b X0 (pc' := 8) d12_7 rfl ?_
  exact w_breturn X0 d12_8 ⟨by decide, rfl⟩ (by decide) (by decide)
set_option maxRecDepth 65536 in
set_option maxHeartbeats 40000000 in
theorem rm_sv4 {l : Launch} {Z : State} {a0 : Array Value} (hw : ∀ d ∈ tables_1, d.before a0 Z = true) {n0 : Nat} {h0 : Heap} (Z0 : n0 ≤ h0.size) (a1 a2 : Addr) {zc : Int32} (S_c : Sta Z h0 "java/lang/String" "COMPACT_STRINGS" "Z" (.int zc)) (hzc : ¬ zc = (0 : Int32)) {fm : Value} (S_f : Sta Z h0 "jdk/internal/util/Preconditions" "SIOOBE_FORMATTER" "Ljava/util/function/BiFunction;" fm) (hfm : fm.isRef = true) (S_a : Sta Z h0 "java/lang/StringUTF16" "$assertionsDisabled" "Z" (.int 1)) (S_h : Sta Z h0 "java/lang/StringUTF16" "HI_BYTE_SHIFT" "I" (.int 0)) (S_l : Sta Z h0 "java/lang/StringUTF16" "LO_BYTE_SHIFT" "I" (.int 8)) {c0 c1 c2 c3 : Int32} (R0 : own_R c0) (R1 : own_R c1) (R2 : own_R c2) (R3 : own_R c3) {f : Nat → Value} {u1 u2 : Value} (E_1 : Exa Z h0 a1 "java/lang/String") (F_v : Fld Z h0 a1 "java/lang/String" "value" "[B" u1) (F_c : Fld Z h0 a1 "java/lang/String" "coder" "B" u2) (g_1 : n0 ≤ a1) (A_2 : Ary Z h0 a2 .char 4 f) (ne12 : a1 ≠ a2) (hf0 : f 0 = .int c0) (hf1 : f 1 = .int c1) (hf2 : f 2 = .int c2) (hf3 : f 3 = .int c3)  :
    Con l Z n0 (⟨"java/lang/String", "<init>", "([CIILjava/lang/Void;)V"⟩ : MethodName) jdk_42_method_149_code 6 none ({ frames := 4, cells := 2, slots := 12, locals := 57 } : Room) #[(.ref a1), (.ref a2), (.int (0 : Int32)), (.int (4 : Int32)), .null] h0 (Non (fun h => Keep h0 h [a1] ∧ StrU Z h a1 [c0, c1, c2, c3])) := by
  refine con_intro pn_3 Z0 (fr := fun m => mkF m 0 #[.val (.ref a1), .val (.ref a2), .val (.int (0 : Int32)), .val (.int (4 : Int32)), .val .null, .unset] []) (fun m => by first | (simp [entryFrame, mkF, argsToLocals, Value.category]; done) | rfl) ?_
  intro p e s m below s₁ hs0 X0
  refine w_aloadN X0 (pc' := 1) d3_0 rfl rfl rfl ?_
  refine w_initO X0 (pc' := 4) d3_1 (hw _ (List.mem_of_getElem? (i := 15) rfl)) (hw _ (List.mem_of_getElem? (i := 16) rfl)) (hw _ (List.mem_of_getElem? (i := 17) rfl)) rfl (by decide) 0 (Nat.le_refl _) (by decide) rfl fun T1 X1 => ?_
  refine w_iloadN X1 (pc' := 5) d3_4 rfl rfl ?_
  refine w_if_ne X1 27 8 d3_5 (by decide) rfl rfl (fun hc5 => ?_) (fun hc5 => by exfalso; revert hc5; decide)
  refine w_getstatic X1 (pc' := 30) d3_27 (host := "") (Or.inl (hw _ (List.mem_of_getElem? (i := 40) rfl))) Via.refl S_c rfl fun T2 X2 => ?_
  refine w_if_eq X2 58 33 d3_30 (by decide) rfl rfl (fun hc30 => by exfalso; exact hzc hc30) (fun hc30 => ?_)
  refine w_aloadN X2 (pc' := 34) d3_33 rfl rfl rfl ?_
  refine w_iloadN X2 (pc' := 35) d3_34 rfl rfl ?_
  refine w_iloadN X2 (pc' := 36) d3_35 rfl rfl ?_
  refine w_staticV X2 (pc' := 39) d3_36 (rm_cmB4 hw (h0 := h0) (sd_size X2) a2 S_c hzc S_f hfm S_a S_h S_l R0 R1 R2 R3 A_2 hf0 hf1 hf2 hf3) (hw _ (List.mem_of_getElem? (i := 47) rfl)) (hw _ (List.mem_of_getElem? (i := 48) rfl)) (hw _ (List.mem_of_getElem? (i := 49) rfl)) (hw _ (List.mem_of_getElem? (i := 50) rfl)) (by decide) [(.ref a2), (.int (0 : Int32)), (.int (4 : Int32))] [] pd_10 rfl rfl rfl rfl 0 (Nat.le_refl _) (by decide) (by decide) (by decide) (by decide) rfl fun T3 h3 v3 X3 q3 => ?_
  obtain ⟨b3, rfl, g3, gn3, K3, D3⟩ := q3
  have ne_a1_b3 : a1 ≠ b3 := ne_new2 g3 F_v.lt
  have ne_a2_b3 : a2 ≠ b3 := ne_new2 g3 A_2.lt
  have K_b3 : Keep h0 _ [a1] := (Keep.refl h0 [a1])
  have sz_b3 : h0.size ≤ b3 := Nat.le_trans K_b3.1 g3
  have F_v_4 := F_v.keep K3 nin0
  have F_c_4 := F_c.keep K3 nin0
  have E_4 := E_1.keep K3
  have A_4 := A_2.keep K3 nin0
  have K_5 : Keep h0 h3 [a1] := K_b3.trans K3 all0
  rcases D3 with ⟨hall, AL⟩ | AU
  · skip
    refine w_astore X3 (pc' := 41) (l' := #[.val (.ref a1), .val (.ref a2), .val (.int (0 : Int32)), .val (.int (4 : Int32)), .val .null, .val (.ref b3)]) d3_39 rfl rfl rfl ?_
    refine w_aloadN X3 (pc' := 42) d3_41 rfl rfl rfl ?_
    refine w_aload X3 (pc' := 44) d3_42 rfl rfl rfl ?_
    refine w_iloadN X3 (pc' := 45) d3_44 rfl rfl ?_
    refine w_staticV X3 (pc' := 48) d3_45 (rm_cfl4_0 hw (h0 := h3) (sd_size X3) b3 AL) (hw _ (List.mem_of_getElem? (i := 54) rfl)) (hw _ (List.mem_of_getElem? (i := 55) rfl)) (hw _ (List.mem_of_getElem? (i := 49) rfl)) (hw _ (List.mem_of_getElem? (i := 56) rfl)) (by decide) [(.ref b3), (.int (4 : Int32))] [(.ref a1)] pd_12 rfl rfl rfl rfl 1 (Nat.le_refl _) (by decide) (by decide) (by decide) (by decide) rfl fun T6 h6 v6 X6 q6 => ?_
    obtain ⟨rfl, rfl⟩ := q6
    refine w_putfieldN X6 (pc' := 51) d3_48 (hw _ (List.mem_of_getElem? (i := 25) rfl)) Via.refl F_c_4 E_4 (Or.inr ⟨(hw _ (List.mem_of_getElem? (i := 21) rfl)), rfl, rfl⟩) (hw _ (List.mem_of_getElem? (i := 5) rfl)) (ty := .byte) (v' := (.int (nar .byte (0 : Int32)))) (by decide) rfl (fits_nar_byte _) g_1 rfl fun T7 h7 X7 W7 F7 => ?_
    have F_v_8 := Fld.other W7 F_v_4 (Or.inr (slot_ne (C := "java/lang/String") (Or.inr (hw _ (List.mem_of_getElem? (i := 20) rfl))) (Or.inr (hw _ (List.mem_of_getElem? (i := 21) rfl))) (by decide) (t := (.array .byte)) (t' := .byte) (by decide) (by decide)))
    have E_8 := Exa.wr W7 E_4
    have A_8 := A_4.other W7 (Ne.symm ne12)
    have AL_8 := AL.other W7 (Ne.symm ne_a1_b3)
    have K_9 : Keep h0 h7 [a1] := K_5.wr W7 (Or.inl (List.mem_of_getElem? (i := 0) rfl))
    refine w_aloadN X7 (pc' := 52) d3_51 rfl rfl rfl ?_
    refine w_aload X7 (pc' := 54) d3_52 rfl rfl rfl ?_
    refine w_putfield X7 (pc' := 57) d3_54 (host := "") (Or.inl (hw _ (List.mem_of_getElem? (i := 24) rfl))) Via.refl F_v_8 E_8 (Or.inr ⟨(hw _ (List.mem_of_getElem? (i := 20) rfl)), rfl, rfl⟩) (hw _ (List.mem_of_getElem? (i := 5) rfl)) (ty := (.array .byte)) (by decide) rfl rfl g_1 rfl fun T10 h10 X10 W10 F10 => ?_
    have F7_11 := Fld.other W10 F7 (Or.inr (slot_ne (C := "java/lang/String") (Or.inr (hw _ (List.mem_of_getElem? (i := 21) rfl))) (Or.inr (hw _ (List.mem_of_getElem? (i := 20) rfl))) (by decide) (t := .byte) (t' := (.array .byte)) (by decide) (by decide)))
    have E_11 := Exa.wr W10 E_8
    have A_11 := A_8.other W10 (Ne.symm ne12)
    have AL_11 := AL_8.other W10 (Ne.symm ne_a1_b3)
    have K_12 : Keep h0 h10 [a1] := K_9.wr W10 (Or.inl (List.mem_of_getElem? (i := 0) rfl))
    exact w_return X10 d3_57 ⟨K_12, Or.inl ⟨b3, E_11, F7_11, F10, AL_11, hall⟩⟩ (by decide) (by decide)
  · skip
    refine w_astore X3 (pc' := 41) (l' := #[.val (.ref a1), .val (.ref a2), .val (.int (0 : Int32)), .val (.int (4 : Int32)), .val .null, .val (.ref b3)]) d3_39 rfl rfl rfl ?_
    refine w_aloadN X3 (pc' := 42) d3_41 rfl rfl rfl ?_
    refine w_aload X3 (pc' := 44) d3_42 rfl rfl rfl ?_
    refine w_iloadN X3 (pc' := 45) d3_44 rfl rfl ?_
    refine w_staticV X3 (pc' := 48) d3_45 (rm_cfl4_1 hw (h0 := h3) (sd_size X3) b3 AU) (hw _ (List.mem_of_getElem? (i := 54) rfl)) (hw _ (List.mem_of_getElem? (i := 55) rfl)) (hw _ (List.mem_of_getElem? (i := 49) rfl)) (hw _ (List.mem_of_getElem? (i := 56) rfl)) (by decide) [(.ref b3), (.int (4 : Int32))] [(.ref a1)] pd_12 rfl rfl rfl rfl 1 (Nat.le_refl _) (by decide) (by decide) (by decide) (by decide) rfl fun T13 h13 v13 X13 q13 => ?_
    obtain ⟨rfl, rfl⟩ := q13
    refine w_putfieldN X13 (pc' := 51) d3_48 (hw _ (List.mem_of_getElem? (i := 25) rfl)) Via.refl F_c_4 E_4 (Or.inr ⟨(hw _ (List.mem_of_getElem? (i := 21) rfl)), rfl, rfl⟩) (hw _ (List.mem_of_getElem? (i := 5) rfl)) (ty := .byte) (v' := (.int (nar .byte (1 : Int32)))) (by decide) rfl (fits_nar_byte _) g_1 rfl fun T14 h14 X14 W14 F14 => ?_
    have F_v_15 := Fld.other W14 F_v_4 (Or.inr (slot_ne (C := "java/lang/String") (Or.inr (hw _ (List.mem_of_getElem? (i := 20) rfl))) (Or.inr (hw _ (List.mem_of_getElem? (i := 21) rfl))) (by decide) (t := (.array .byte)) (t' := .byte) (by decide) (by decide)))
    have E_15 := Exa.wr W14 E_4
    have A_15 := A_4.other W14 (Ne.symm ne12)
    have AU_15 := AU.other W14 (Ne.symm ne_a1_b3)
    have K_16 : Keep h0 h14 [a1] := K_5.wr W14 (Or.inl (List.mem_of_getElem? (i := 0) rfl))
    refine w_aloadN X14 (pc' := 52) d3_51 rfl rfl rfl ?_
    refine w_aload X14 (pc' := 54) d3_52 rfl rfl rfl ?_
    refine w_putfield X14 (pc' := 57) d3_54 (host := "") (Or.inl (hw _ (List.mem_of_getElem? (i := 24) rfl))) Via.refl F_v_15 E_15 (Or.inr ⟨(hw _ (List.mem_of_getElem? (i := 20) rfl)), rfl, rfl⟩) (hw _ (List.mem_of_getElem? (i := 5) rfl)) (ty := (.array .byte)) (by decide) rfl rfl g_1 rfl fun T17 h17 X17 W17 F17 => ?_
    have F14_18 := Fld.other W17 F14 (Or.inr (slot_ne (C := "java/lang/String") (Or.inr (hw _ (List.mem_of_getElem? (i := 21) rfl))) (Or.inr (hw _ (List.mem_of_getElem? (i := 20) rfl))) (by decide) (t := .byte) (t' := (.array .byte)) (by decide) (by decide)))
    have E_18 := Exa.wr W17 E_15
    have A_18 := A_15.other W17 (Ne.symm ne12)
    have AU_18 := AU_15.other W17 (Ne.symm ne_a1_b3)
    have K_19 : Keep h0 h17 [a1] := K_16.wr W17 (Or.inl (List.mem_of_getElem? (i := 0) rfl))
    exact w_return X17 d3_57 ⟨K_19, Or.inr ⟨b3, E_18, F14_18, F17, AU_18⟩⟩ (by decide) (by decide)
set_option maxRecDepth 65536 in
set_option maxHeartbeats 40000000 in
theorem rm_sc4 {l : Launch} {Z : State} {a0 : Array Value} (hw : ∀ d ∈ tables_1, d.before a0 Z = true) {n0 : Nat} {h0 : Heap} (Z0 : n0 ≤ h0.size) (a1 a2 : Addr) {zc : Int32} (S_c : Sta Z h0 "java/lang/String" "COMPACT_STRINGS" "Z" (.int zc)) (hzc : ¬ zc = (0 : Int32)) {fm : Value} (S_f : Sta Z h0 "jdk/internal/util/Preconditions" "SIOOBE_FORMATTER" "Ljava/util/function/BiFunction;" fm) (hfm : fm.isRef = true) (S_a : Sta Z h0 "java/lang/StringUTF16" "$assertionsDisabled" "Z" (.int 1)) (S_h : Sta Z h0 "java/lang/StringUTF16" "HI_BYTE_SHIFT" "I" (.int 0)) (S_l : Sta Z h0 "java/lang/StringUTF16" "LO_BYTE_SHIFT" "I" (.int 8)) {c0 c1 c2 c3 : Int32} (R0 : own_R c0) (R1 : own_R c1) (R2 : own_R c2) (R3 : own_R c3) {f : Nat → Value} {u1 u2 : Value} (E_1 : Exa Z h0 a1 "java/lang/String") (F_v : Fld Z h0 a1 "java/lang/String" "value" "[B" u1) (F_c : Fld Z h0 a1 "java/lang/String" "coder" "B" u2) (g_1 : n0 ≤ a1) (A_2 : Ary Z h0 a2 .char 4 f) (ne12 : a1 ≠ a2) (hf0 : f 0 = .int c0) (hf1 : f 1 = .int c1) (hf2 : f 2 = .int c2) (hf3 : f 3 = .int c3)  :
    Con l Z n0 (⟨"java/lang/String", "<init>", "([C)V"⟩ : MethodName) jdk_42_method_3_code 2 none ({ frames := 5, cells := 2, slots := 12, locals := 74 } : Room) #[(.ref a1), (.ref a2)] h0 (Non (fun h => Keep h0 h [a1] ∧ StrU Z h a1 [c0, c1, c2, c3])) := by
  refine con_intro pn_2 Z0 (fr := fun m => mkF m 0 #[.val (.ref a1), .val (.ref a2)] []) (fun m => by first | (simp [entryFrame, mkF, argsToLocals, Value.category]; done) | rfl) ?_
  intro p e s m below s₁ hs0 X0
  refine w_aloadN X0 (pc' := 1) d2_0 rfl rfl rfl ?_
  refine w_aloadN X0 (pc' := 2) d2_1 rfl rfl rfl ?_
  refine w_iconst X0 (pc' := 3) (0 : Int32) d2_2 rfl rfl ?_
  refine w_aloadN X0 (pc' := 4) d2_3 rfl rfl rfl ?_
  refine w_arraylength X0 (pc' := 5) (4 : Int32) d2_4 A_2 (by decide) rfl ?_
  refine w_aconst_null X0 (pc' := 6) d2_5 rfl ?_
  refine w_specialN X0 (pc' := 9) d2_6 (rm_sv4 hw (h0 := h0) (sd_size X0) a1 a2 S_c hzc S_f hfm S_a S_h S_l R0 R1 R2 R3 E_1 F_v F_c g_1 A_2 ne12 hf0 hf1 hf2 hf3) (hw _ (List.mem_of_getElem? (i := 11) rfl)) (hw _ (List.mem_of_getElem? (i := 12) rfl)) (hw _ (List.mem_of_getElem? (i := 6) rfl)) (hw _ (List.mem_of_getElem? (i := 14) rfl)) rfl (by decide) [(.ref a2), (.int (0 : Int32)), (.int (4 : Int32)), .null] [] pd_3 rfl rfl rfl rfl 0 (Nat.le_refl _) (by decide) (by decide) (by decide) (by decide) rfl fun T1 h1 X1 q1 => ?_
  obtain ⟨K1, U1⟩ := q1
  have E_2 := E_1.keep K1
  have A_2 := A_2.keep K1 (ninS (Ne.symm ne12) nin0)
  have K_3r : Keep h0 _ [a1] := (Keep.refl h0 [a1])
  have K_3 : Keep h0 h1 [a1] := K_3r.trans K1 (allS (Or.inl (List.mem_of_getElem? (i := 0) rfl)) all0)
  exact w_return X1 d2_9 ⟨K_3, U1⟩ (by decide) (by decide)
set_option maxRecDepth 65536 in
set_option maxHeartbeats 40000000 in
theorem rm_mk4 {l : Launch} {Z : State} {a0 : Array Value} (hw : ∀ d ∈ tables_1, d.before a0 Z = true) {n0 : Nat} {h0 : Heap} (Z0 : n0 ≤ h0.size) (c0 c1 c2 c3 : Int32) {zc : Int32} (S_c : Sta Z h0 "java/lang/String" "COMPACT_STRINGS" "Z" (.int zc)) (hzc : ¬ zc = (0 : Int32)) {fm : Value} (S_f : Sta Z h0 "jdk/internal/util/Preconditions" "SIOOBE_FORMATTER" "Ljava/util/function/BiFunction;" fm) (hfm : fm.isRef = true) (S_a : Sta Z h0 "java/lang/StringUTF16" "$assertionsDisabled" "Z" (.int 1)) (S_h : Sta Z h0 "java/lang/StringUTF16" "HI_BYTE_SHIFT" "I" (.int 0)) (S_l : Sta Z h0 "java/lang/StringUTF16" "LO_BYTE_SHIFT" "I" (.int 8)) (R0 : own_R c0) (R1 : own_R c1) (R2 : own_R c2) (R3 : own_R c3) :
    Con l Z n0 (⟨"com/example/admitwire/admitwire/core/TimestampDigitsPinLaw", "make", "(ICCCC)Ljava/lang/String;"⟩ : MethodName) method_3_code 5 (some (.object "java/lang/String")) ({ frames := 6, cells := 4, slots := 20, locals := 88 } : Room) #[(.int (4 : Int32)), (.int c0), (.int c1), (.int c2), (.int c3)] h0 (Val (fun v h => ∃ b : Addr, v = .ref b ∧ Ext h0 h ∧ StrU Z h b [c0, c1, c2, c3])) := by
  refine con_intro pn_1 Z0 (fr := fun m => mkF m 0 #[.val (.int (4 : Int32)), .val (.int c0), .val (.int c1), .val (.int c2), .val (.int c3)] []) (fun m => by first | (simp [entryFrame, mkF, argsToLocals, Value.category]; done) | rfl) ?_
  intro p e s m below s₁ hs0 X0
  refine w_iloadN X0 (pc' := 1) d1_0 rfl rfl ?_
  refine w_if_ne X0 15 4 d1_1 (by decide) rfl rfl (fun hc1 => ?_) (fun hc1 => by exfalso; revert hc1; decide)
  refine w_iloadN X0 (pc' := 16) d1_15 rfl rfl ?_
  refine w_iconst X0 (pc' := 17) (1 : Int32) d1_16 rfl rfl ?_
  refine w_icmp_ne X0 35 20 d1_17 (by decide) rfl rfl (fun hc17 => ?_) (fun hc17 => by exfalso; revert hc17; decide)
  refine w_iloadN X0 (pc' := 36) d1_35 rfl rfl ?_
  refine w_iconst X0 (pc' := 37) (2 : Int32) d1_36 rfl rfl ?_
  refine w_icmp_ne X0 59 40 d1_37 (by decide) rfl rfl (fun hc37 => ?_) (fun hc37 => by exfalso; revert hc37; decide)
  refine w_iloadN X0 (pc' := 60) d1_59 rfl rfl ?_
  refine w_iconst X0 (pc' := 61) (3 : Int32) d1_60 rfl rfl ?_
  refine w_icmp_ne X0 87 64 d1_61 (by decide) rfl rfl (fun hc61 => ?_) (fun hc61 => by exfalso; revert hc61; decide)
  refine w_new X0 (pc' := 90) d1_87 (hw _ (List.mem_of_getElem? (i := 4) rfl)) (hw _ (List.mem_of_getElem? (i := 5) rfl)) (hw _ (List.mem_of_getElem? (i := 6) rfl)) (by decide) (by decide) rfl fun T1 h1 b1 g1 gn1 X1 E1 A1 D1 => ?_
  have K_b1 : Keep h0 _ [] := (Keep.refl h0 [])
  have sz_b1 : h0.size ≤ b1 := sz_fresh g1 K_b1
  have K_3 : Keep h0 h1 [] := K_b1.ext E1
  have Fvalue_1 : Fld Z h1 b1 "java/lang/String" "value" "[B" .null := D1 (Or.inr (hw _ (List.mem_of_getElem? (i := 20) rfl))) (ty := (.array .byte)) (by decide)
  have Fcoder_1 : Fld Z h1 b1 "java/lang/String" "coder" "B" (.int (0 : Int32)) := D1 (Or.inr (hw _ (List.mem_of_getElem? (i := 21) rfl))) (ty := .byte) (by decide)
  refine w_dup X1 (pc' := 91) d1_90 rfl rfl ?_
  refine w_iconst X1 (pc' := 92) (4 : Int32) d1_91 rfl rfl ?_
  refine w_newarray X1 (pc' := 94) 4 4 d1_92 (hw _ (List.mem_of_getElem? (i := 7) rfl)) (by decide) (by decide) (by decide) (by decide) (by decide) rfl fun T4 h4 b4 g4 gn4 X4 E4 A4 => ?_
  have ne_b1_b4 : b1 ≠ b4 := ne_new g4 Fvalue_1.lt
  have sz_b4 : h0.size ≤ b4 := sz_fresh g4 K_3
  have Fvalue_5 := Fld.ext E4 Fvalue_1
  have Fcoder_5 := Fld.ext E4 Fcoder_1
  have A1_5 := Exa.ext E4 A1
  have K_6 : Keep h0 h4 [] := K_3.ext E4
  replace A4 : Ary Z h4 b4 .char 4 (fun _ => (.int (0 : Int32))) := A4
  refine w_dup X4 (pc' := 95) d1_94 rfl rfl ?_
  refine w_iconst X4 (pc' := 96) (0 : Int32) d1_95 rfl rfl ?_
  refine w_iloadN X4 (pc' := 97) d1_96 rfl rfl ?_
  refine w_castore X4 (pc' := 98) 0 d1_97 A4 (by decide) (by decide) gn4 rfl fun T7 h7 X7 W7 A7 => ?_
  have Fvalue_8 := Fld.other W7 Fvalue_5 (Or.inl ne_b1_b4)
  have Fcoder_8 := Fld.other W7 Fcoder_5 (Or.inl ne_b1_b4)
  have A1_8 := Exa.wr W7 A1_5
  have K_9 : Keep h0 h7 [] := K_6.wr W7 (Or.inr sz_b4)
  refine w_dup X7 (pc' := 99) d1_98 rfl rfl ?_
  refine w_iconst X7 (pc' := 100) (1 : Int32) d1_99 rfl rfl ?_
  refine w_iloadN X7 (pc' := 101) d1_100 rfl rfl ?_
  refine w_castore X7 (pc' := 102) 1 d1_101 A7 (by decide) (by decide) gn4 rfl fun T10 h10 X10 W10 A10 => ?_
  have Fvalue_11 := Fld.other W10 Fvalue_8 (Or.inl ne_b1_b4)
  have Fcoder_11 := Fld.other W10 Fcoder_8 (Or.inl ne_b1_b4)
  have A1_11 := Exa.wr W10 A1_8
  have K_12 : Keep h0 h10 [] := K_9.wr W10 (Or.inr sz_b4)
  refine w_dup X10 (pc' := 103) d1_102 rfl rfl ?_
  refine w_iconst X10 (pc' := 104) (2 : Int32) d1_103 rfl rfl ?_
  refine w_iloadN X10 (pc' := 105) d1_104 rfl rfl ?_
  refine w_castore X10 (pc' := 106) 2 d1_105 A10 (by decide) (by decide) gn4 rfl fun T13 h13 X13 W13 A13 => ?_
  have Fvalue_14 := Fld.other W13 Fvalue_11 (Or.inl ne_b1_b4)
  have Fcoder_14 := Fld.other W13 Fcoder_11 (Or.inl ne_b1_b4)
  have A1_14 := Exa.wr W13 A1_11
  have K_15 : Keep h0 h13 [] := K_12.wr W13 (Or.inr sz_b4)
  refine w_dup X13 (pc' := 107) d1_106 rfl rfl ?_
  refine w_iconst X13 (pc' := 108) (3 : Int32) d1_107 rfl rfl ?_
  refine w_iload X13 (pc' := 110) d1_108 rfl rfl ?_
  refine w_castore X13 (pc' := 111) 3 d1_110 A13 (by decide) (by decide) gn4 rfl fun T16 h16 X16 W16 A16 => ?_
  have Fvalue_17 := Fld.other W16 Fvalue_14 (Or.inl ne_b1_b4)
  have Fcoder_17 := Fld.other W16 Fcoder_14 (Or.inl ne_b1_b4)
  have A1_17 := Exa.wr W16 A1_14
  have K_18 : Keep h0 h16 [] := K_15.wr W16 (Or.inr sz_b4)
  have hf0 : (upd (upd (upd (upd (fun _ => (.int (0 : Int32))) 0 (.int (nar .char c0))) 1 (.int (nar .char c1))) 2 (.int (nar .char c2))) 3 (.int (nar .char c3))) 0 = .int c0 := by show Value.int (nar .char c0) = _; exact congrArg Value.int (own_i2c R0)
  have hf1 : (upd (upd (upd (upd (fun _ => (.int (0 : Int32))) 0 (.int (nar .char c0))) 1 (.int (nar .char c1))) 2 (.int (nar .char c2))) 3 (.int (nar .char c3))) 1 = .int c1 := by show Value.int (nar .char c1) = _; exact congrArg Value.int (own_i2c R1)
  have hf2 : (upd (upd (upd (upd (fun _ => (.int (0 : Int32))) 0 (.int (nar .char c0))) 1 (.int (nar .char c1))) 2 (.int (nar .char c2))) 3 (.int (nar .char c3))) 2 = .int c2 := by show Value.int (nar .char c2) = _; exact congrArg Value.int (own_i2c R2)
  have hf3 : (upd (upd (upd (upd (fun _ => (.int (0 : Int32))) 0 (.int (nar .char c0))) 1 (.int (nar .char c1))) 2 (.int (nar .char c2))) 3 (.int (nar .char c3))) 3 = .int c3 := by show Value.int (nar .char c3) = _; exact congrArg Value.int (own_i2c R3)
  refine w_specialN X16 (pc' := 114) d1_111 (rm_sc4 hw (h0 := h16) (sd_size X16) b1 b4 (Sta.ext (kext K_18) S_c) hzc (Sta.ext (kext K_18) S_f) hfm (Sta.ext (kext K_18) S_a) (Sta.ext (kext K_18) S_h) (Sta.ext (kext K_18) S_l) R0 R1 R2 R3 A1_17 Fvalue_17 Fcoder_17 gn1 A16 ne_b1_b4 hf0 hf1 hf2 hf3) (hw _ (List.mem_of_getElem? (i := 8) rfl)) (hw _ (List.mem_of_getElem? (i := 9) rfl)) (hw _ (List.mem_of_getElem? (i := 6) rfl)) (hw _ (List.mem_of_getElem? (i := 10) rfl)) rfl (by decide) [(.ref b4)] [(.ref b1)] pd_2 rfl rfl rfl rfl 1 (Nat.le_refl _) (by decide) (by decide) (by decide) (by decide) rfl fun T19 h19 X19 q19 => ?_
  obtain ⟨K19, U19⟩ := q19
  have A1_20 := A1_17.keep K19
  have A16_20 := A16.keep K19 (ninS (Ne.symm ne_b1_b4) nin0)
  have K_21 : Keep h0 h19 [] := K_18.trans K19 (allS (Or.inr sz_b1) all0)
  exact w_areturn X19 d1_114 rfl rfl rfl ⟨_, rfl, kext K_21, U19⟩ (by decide) (by decide)
set_option maxRecDepth 65536 in
set_option maxHeartbeats 40000000 in
theorem rm_sv0 {l : Launch} {Z : State} {a0 : Array Value} (hw : ∀ d ∈ tables_1, d.before a0 Z = true) {n0 : Nat} {h0 : Heap} (Z0 : n0 ≤ h0.size) (a1 a2 : Addr) (E_1 : Exa Z h0 a1 "java/lang/String") (F_v : Fld Z h0 a1 "java/lang/String" "value" "[B" .null) (F_c : Fld Z h0 a1 "java/lang/String" "coder" "B" (.int 0)) (g_1 : n0 ≤ a1)  :
    ConW l Z own_EL n0 (⟨"java/lang/String", "<init>", "([CIILjava/lang/Void;)V"⟩ : MethodName) jdk_42_method_149_code 6 none ({ frames := 1, cells := 4, slots := 8, locals := 12 } : Room) #[(.ref a1), (.ref a2), (.int (0 : Int32)), (.int (0 : Int32)), .null] h0 (Non (fun h => Keep h0 h [a1] ∧ StrU Z h a1 [])) := by
  refine conW_intro pn_3 Z0 (fr := fun m => mkF m 0 #[.val (.ref a1), .val (.ref a2), .val (.int (0 : Int32)), .val (.int (0 : Int32)), .val .null, .unset] []) (fun m => by first | (simp [entryFrame, mkF, argsToLocals, Value.category]; done) | rfl) ?_
  intro p e s m below s₁ hs0 F0 X0
  have sf_a1 : Safe Z own_EL s.vm h0 a1 := Safe.fresh (sd_alike X0) F_v (Ord.of E_1 (hw _ (List.mem_of_getElem? (i := 5) rfl)))
  refine w_aloadN X0 (pc' := 1) d3_0 rfl rfl rfl ?_
  refine w_initO X0 (pc' := 4) d3_1 (hw _ (List.mem_of_getElem? (i := 15) rfl)) (hw _ (List.mem_of_getElem? (i := 16) rfl)) (hw _ (List.mem_of_getElem? (i := 17) rfl)) rfl (by decide) 0 (Nat.le_refl _) (by decide) rfl fun T1 X1 => ?_
  refine w_iloadN X1 (pc' := 5) d3_4 rfl rfl ?_
  refine w_if_ne X1 27 8 d3_5 (by decide) rfl rfl (fun hc5 => by exfalso; revert hc5; decide) (fun hc5 => ?_)
  refine w_aloadN X1 (pc' := 9) d3_8 rfl rfl rfl ?_
  refine w_ldcW2 X1 F0 (pc' := 11) (text := "") [] 0 d3_9 (hw _ (List.mem_of_getElem? (i := 18) rfl)) (own_wS hw) (own_hEL hw) (List.mem_of_getElem? (i := 0) rfl) (by decide) (by decide) (by decide) (by decide) (by decide) (by decide) rfl fun T2 h2 vm2 a2 b2 X2 F2 C2 E2 Ea2 Fc2 Fv2 A2 hne2 => ?_
  have sf_2 := C2.safe E_1.lt sf_a1
  have ne_2 := hne2 _ sf_2
  have F_v_3 := Fld.ext E2 F_v
  have F_c_3 := Fld.ext E2 F_c
  have E_3 := Exa.ext E2 E_1
  have K_4r : Keep h0 _ [a1] := (Keep.refl h0 [a1])
  have K_4 : Keep h0 h2 [a1] := K_4r.ext E2
  refine w_getfield X2 (pc' := 14) d3_11 (host := "") (Or.inl (hw _ (List.mem_of_getElem? (i := 24) rfl))) Via.refl Fv2 rfl fun T5 X5 => ?_
  refine w_putfield X5 (pc' := 17) d3_14 (host := "") (Or.inl (hw _ (List.mem_of_getElem? (i := 24) rfl))) Via.refl F_v_3 E_3 (Or.inr ⟨(hw _ (List.mem_of_getElem? (i := 20) rfl)), rfl, rfl⟩) (hw _ (List.mem_of_getElem? (i := 5) rfl)) (ty := (.array .byte)) (by decide) rfl rfl g_1 rfl fun T6 h6 X6 W6 F6 => ?_
  obtain ⟨F2_7, sf_a1_7⟩ := F2.wr2 W6 sf_2
  have F_c_7 := Fld.other W6 F_c_3 (Or.inr (slot_ne (C := "java/lang/String") (Or.inr (hw _ (List.mem_of_getElem? (i := 21) rfl))) (Or.inr (hw _ (List.mem_of_getElem? (i := 20) rfl))) (by decide) (t := .byte) (t' := (.array .byte)) (by decide) (by decide)))
  have Fv2_7 := Fld.other W6 Fv2 (Or.inl (Ne.symm ne_2.1))
  have Fc2_7 := Fld.other W6 Fc2 (Or.inl (Ne.symm ne_2.1))
  have E_7 := Exa.wr W6 E_3
  have Ea2_7 := Exa.wr W6 Ea2
  have A2_7 := A2.other W6 (Ne.symm ne_2.2)
  have K_8 : Keep h0 h6 [a1] := K_4.wr W6 (Or.inl (List.mem_of_getElem? (i := 0) rfl))
  refine w_aloadN X6 (pc' := 18) d3_17 rfl rfl rfl ?_
  refine w_ldcW2 X6 F2_7 (pc' := 20) (text := "") [] 0 d3_18 (hw _ (List.mem_of_getElem? (i := 18) rfl)) (own_wS hw) (own_hEL hw) (List.mem_of_getElem? (i := 0) rfl) (by decide) (by decide) (by decide) (by decide) (by decide) (by decide) rfl fun T9 h9 vm9 a9 b9 X9 F9 C9 E9 Ea9 Fc9 Fv9 A9 hne9 => ?_
  have sf_9 := C9.safe E_7.lt sf_a1_7
  have ne_9 := hne9 _ sf_9
  have F_c_10 := Fld.ext E9 F_c_7
  have Fv2_10 := Fld.ext E9 Fv2_7
  have Fc2_10 := Fld.ext E9 Fc2_7
  have F6_10 := Fld.ext E9 F6
  have E_10 := Exa.ext E9 E_7
  have Ea2_10 := Exa.ext E9 Ea2_7
  have A2_10 := A2_7.ext E9
  have K_11 : Keep h0 h9 [a1] := K_8.ext E9
  refine w_getfield X9 (pc' := 23) d3_20 (host := "") (Or.inl (hw _ (List.mem_of_getElem? (i := 25) rfl))) Via.refl Fc9 rfl fun T12 X12 => ?_
  refine w_putfieldN X12 (pc' := 26) d3_23 (hw _ (List.mem_of_getElem? (i := 25) rfl)) Via.refl F_c_10 E_10 (Or.inr ⟨(hw _ (List.mem_of_getElem? (i := 21) rfl)), rfl, rfl⟩) (hw _ (List.mem_of_getElem? (i := 5) rfl)) (ty := .byte) (v' := (.int (nar .byte (0 : Int32)))) (by decide) rfl (fits_nar_byte _) g_1 rfl fun T13 h13 X13 W13 F13 => ?_
  obtain ⟨F9_14, sf_a1_14⟩ := F9.wr2 W13 sf_9
  have Fv2_14 := Fld.other W13 Fv2_10 (Or.inl (Ne.symm ne_2.1))
  have Fc2_14 := Fld.other W13 Fc2_10 (Or.inl (Ne.symm ne_2.1))
  have F6_14 := Fld.other W13 F6_10 (Or.inr (slot_ne (C := "java/lang/String") (Or.inr (hw _ (List.mem_of_getElem? (i := 20) rfl))) (Or.inr (hw _ (List.mem_of_getElem? (i := 21) rfl))) (by decide) (t := (.array .byte)) (t' := .byte) (by decide) (by decide)))
  have Fv9_14 := Fld.other W13 Fv9 (Or.inl (Ne.symm ne_9.1))
  have Fc9_14 := Fld.other W13 Fc9 (Or.inl (Ne.symm ne_9.1))
  have E_14 := Exa.wr W13 E_10
  have Ea2_14 := Exa.wr W13 Ea2_10
  have Ea9_14 := Exa.wr W13 Ea9
  have A2_14 := A2_10.other W13 (Ne.symm ne_2.2)
  have A9_14 := A9.other W13 (Ne.symm ne_9.2)
  have K_15 : Keep h0 h13 [a1] := K_11.wr W13 (Or.inl (List.mem_of_getElem? (i := 0) rfl))
  exact w_returnW X13 F9_14 (own_hEL hw) d3_26 ⟨K_15, Or.inl ⟨b2, E_14, F13, F6_14, A2_14.congr (fun i hi => absurd hi (Nat.not_lt_zero i)), fun i hi => absurd hi (Nat.not_lt_zero i)⟩⟩ (by decide) (by decide)
set_option maxRecDepth 65536 in
set_option maxHeartbeats 40000000 in
theorem rm_sc0 {l : Launch} {Z : State} {a0 : Array Value} (hw : ∀ d ∈ tables_1, d.before a0 Z = true) {n0 : Nat} {h0 : Heap} (Z0 : n0 ≤ h0.size) (a1 a2 : Addr) (E_1 : Exa Z h0 a1 "java/lang/String") (F_v : Fld Z h0 a1 "java/lang/String" "value" "[B" .null) (F_c : Fld Z h0 a1 "java/lang/String" "coder" "B" (.int 0)) (g_1 : n0 ≤ a1) {f : Nat → Value} (A_2 : Ary Z h0 a2 .char 0 f) :
    ConW l Z own_EL n0 (⟨"java/lang/String", "<init>", "([C)V"⟩ : MethodName) jdk_42_method_3_code 2 none ({ frames := 2, cells := 4, slots := 8, locals := 29 } : Room) #[(.ref a1), (.ref a2)] h0 (Non (fun h => Keep h0 h [a1] ∧ StrU Z h a1 [])) := by
  refine conW_intro pn_2 Z0 (fr := fun m => mkF m 0 #[.val (.ref a1), .val (.ref a2)] []) (fun m => by first | (simp [entryFrame, mkF, argsToLocals, Value.category]; done) | rfl) ?_
  intro p e s m below s₁ hs0 F0 X0
  refine w_aloadN X0 (pc' := 1) d2_0 rfl rfl rfl ?_
  refine w_aloadN X0 (pc' := 2) d2_1 rfl rfl rfl ?_
  refine w_iconst X0 (pc' := 3) (0 : Int32) d2_2 rfl rfl ?_
  refine w_aloadN X0 (pc' := 4) d2_3 rfl rfl rfl ?_
  refine w_arraylength X0 (pc' := 5) (0 : Int32) d2_4 A_2 (by decide) rfl ?_
  refine w_aconst_null X0 (pc' := 6) d2_5 rfl ?_
  refine w_specialNW X0 F0 (pc' := 9) d2_6 (rm_sv0 hw (h0 := h0) (sd_size X0) a1 a2 E_1 F_v F_c g_1) (hw _ (List.mem_of_getElem? (i := 11) rfl)) (hw _ (List.mem_of_getElem? (i := 12) rfl)) (hw _ (List.mem_of_getElem? (i := 6) rfl)) (hw _ (List.mem_of_getElem? (i := 14) rfl)) rfl (own_hEL hw) (by decide) [(.ref a2), (.int (0 : Int32)), (.int (0 : Int32)), .null] [] pd_3 rfl rfl rfl rfl 0 (Nat.le_refl _) (by decide) (by decide) (by decide) (by decide) rfl fun T1 h1 vm1 X1 F1 q1 => ?_
  obtain ⟨K1, U1⟩ := q1
  have E_2 := E_1.keep K1
  have K_3r : Keep h0 _ [a1] := (Keep.refl h0 [a1])
  have K_3 : Keep h0 h1 [a1] := K_3r.trans K1 (allS (Or.inl (List.mem_of_getElem? (i := 0) rfl)) all0)
  exact w_returnW X1 F1 (own_hEL hw) d2_9 ⟨K_3, U1⟩ (by decide) (by decide)
set_option maxRecDepth 65536 in
set_option maxHeartbeats 40000000 in
theorem rm_mk0 {l : Launch} {Z : State} {a0 : Array Value} (hw : ∀ d ∈ tables_1, d.before a0 Z = true) {n0 : Nat} {h0 : Heap} (Z0 : n0 ≤ h0.size) (c0 c1 c2 c3 : Int32)  :
    ConW l Z own_EL n0 (⟨"com/example/admitwire/admitwire/core/TimestampDigitsPinLaw", "make", "(ICCCC)Ljava/lang/String;"⟩ : MethodName) method_3_code 5 (some (.object "java/lang/String")) ({ frames := 3, cells := 6, slots := 12, locals := 43 } : Room) #[(.int (0 : Int32)), (.int c0), (.int c1), (.int c2), (.int c3)] h0 (Val (fun v h => ∃ b : Addr, v = .ref b ∧ Ext h0 h ∧ StrU Z h b [])) := by
  refine conW_intro pn_1 Z0 (fr := fun m => mkF m 0 #[.val (.int (0 : Int32)), .val (.int c0), .val (.int c1), .val (.int c2), .val (.int c3)] []) (fun m => by first | (simp [entryFrame, mkF, argsToLocals, Value.category]; done) | rfl) ?_
  intro p e s m below s₁ hs0 F0 X0
  refine w_iloadN X0 (pc' := 1) d1_0 rfl rfl ?_
  refine w_if_ne X0 15 4 d1_1 (by decide) rfl rfl (fun hc1 => by exfalso; revert hc1; decide) (fun hc1 => ?_)
  refine w_new X0 (pc' := 7) d1_4 (hw _ (List.mem_of_getElem? (i := 4) rfl)) (hw _ (List.mem_of_getElem? (i := 5) rfl)) (hw _ (List.mem_of_getElem? (i := 6) rfl)) (by decide) (by decide) rfl fun T1 h1 b1 g1 gn1 X1 E1 A1 D1 => ?_
  have K_b1 : Keep h0 _ [] := (Keep.refl h0 [])
  have sz_b1 : h0.size ≤ b1 := sz_fresh g1 K_b1
  have sf_b1 := F0.safe_new E1 g1
  have F0_2 := F0.ext E1
  have K_3 : Keep h0 h1 [] := K_b1.ext E1
  have Fvalue_1 : Fld Z h1 b1 "java/lang/String" "value" "[B" .null := D1 (Or.inr (hw _ (List.mem_of_getElem? (i := 20) rfl))) (ty := (.array .byte)) (by decide)
  have Fcoder_1 : Fld Z h1 b1 "java/lang/String" "coder" "B" (.int (0 : Int32)) := D1 (Or.inr (hw _ (List.mem_of_getElem? (i := 21) rfl))) (ty := .byte) (by decide)
  refine w_dup X1 (pc' := 8) d1_7 rfl rfl ?_
  refine w_iconst X1 (pc' := 9) (0 : Int32) d1_8 rfl rfl ?_
  refine w_newarray X1 (pc' := 11) 0 0 d1_9 (hw _ (List.mem_of_getElem? (i := 7) rfl)) (by decide) (by decide) (by decide) (by decide) (by decide) rfl fun T4 h4 b4 g4 gn4 X4 E4 A4 => ?_
  have ne_b1_b4 : b1 ≠ b4 := ne_new g4 Fvalue_1.lt
  have sz_b4 : h0.size ≤ b4 := sz_fresh g4 K_3
  have F0_5 := F0_2.ext E4
  have Fvalue_5 := Fld.ext E4 Fvalue_1
  have Fcoder_5 := Fld.ext E4 Fcoder_1
  have A1_5 := Exa.ext E4 A1
  have K_6 : Keep h0 h4 [] := K_3.ext E4
  replace A4 : Ary Z h4 b4 .char 0 (fun _ => (.int (0 : Int32))) := A4
  refine w_specialNW X4 F0_5 (pc' := 14) d1_11 (rm_sc0 hw (h0 := h4) (sd_size X4) b1 b4 A1_5 Fvalue_5 Fcoder_5 gn1 A4) (hw _ (List.mem_of_getElem? (i := 8) rfl)) (hw _ (List.mem_of_getElem? (i := 9) rfl)) (hw _ (List.mem_of_getElem? (i := 6) rfl)) (hw _ (List.mem_of_getElem? (i := 10) rfl)) rfl (own_hEL hw) (by decide) [(.ref b4)] [(.ref b1)] pd_2 rfl rfl rfl rfl 1 (Nat.le_refl _) (by decide) (by decide) (by decide) (by decide) rfl fun T7 h7 vm7 X7 F7 q7 => ?_
  obtain ⟨K7, U7⟩ := q7
  have A1_8 := A1_5.keep K7
  have A4_8 := A4.keep K7 (ninS (Ne.symm ne_b1_b4) nin0)
  have K_9 : Keep h0 h7 [] := K_6.trans K7 (allS (Or.inr sz_b1) all0)
  exact w_areturnW X7 F7 (own_hEL hw) d1_14 rfl rfl rfl ⟨_, rfl, kext K_9, U7⟩ (by decide) (by decide)
theorem own_m7 (x : Int32) : (x &&& (7 : Int32)).toInt = x.toInt % 8 := Jvm.Kit.i32_mask x 7 (k := 3) (by decide) (by decide)
theorem own_n5 (x : Int32) : (x &&& (7 : Int32)) % (5 : Int32) = 0 ∨ (x &&& (7 : Int32)) % (5 : Int32) = 1 ∨ (x &&& (7 : Int32)) % (5 : Int32) = 2 ∨ (x &&& (7 : Int32)) % (5 : Int32) = 3 ∨ (x &&& (7 : Int32)) % (5 : Int32) = 4 := by
  have e1 := own_m7 x
  have e2 : ((x &&& (7 : Int32)) % (5 : Int32)).toInt = (x &&& (7 : Int32)).toInt % 5 := by rw [Jvm.Kit.i32_rem_nonneg (by omega)]; rfl
  have : ((x &&& (7 : Int32)) % (5 : Int32)).toInt = 0 ∨ ((x &&& (7 : Int32)) % (5 : Int32)).toInt = 1 ∨ ((x &&& (7 : Int32)) % (5 : Int32)).toInt = 2 ∨ ((x &&& (7 : Int32)) % (5 : Int32)).toInt = 3 ∨ ((x &&& (7 : Int32)) % (5 : Int32)).toInt = 4 := by omega
  rcases this with q | q | q | q | q
  · exact Or.inl (Int32.toInt_inj.mp q)
  · exact Or.inr (Or.inl (Int32.toInt_inj.mp q))
  · exact Or.inr (Or.inr (Or.inl (Int32.toInt_inj.mp q)))
  · exact Or.inr (Or.inr (Or.inr (Or.inl (Int32.toInt_inj.mp q))))
  · exact Or.inr (Or.inr (Or.inr (Or.inr (Int32.toInt_inj.mp q))))
theorem own_fr0 (x : Int32) : ¬ (x &&& (7 : Int32)) < (0 : Int32) := by
  have e1 := own_m7 x
  by_cases q : 0 ≤ (x &&& (7 : Int32)).toInt
  · rw [Int32.lt_iff_toInt_lt, show (0 : Int32).toInt = 0 from by decide]; omega
  · have : False := by omega
    exact this.elim
theorem own_fr1 (x : Int32) : (x &&& (7 : Int32)) = 0 ∨ ¬ (x &&& (7 : Int32)) < (1 : Int32) := by
  have e1 := own_m7 x
  by_cases q : 1 ≤ (x &&& (7 : Int32)).toInt
  · right; rw [Int32.lt_iff_toInt_lt, show (1 : Int32).toInt = 1 from by decide]; omega
  · have : (x &&& (7 : Int32)).toInt = 0 := by omega
    have q0 := this
    left; exact Int32.toInt_inj.mp q0
theorem own_fr2 (x : Int32) : (x &&& (7 : Int32)) = 0 ∨ (x &&& (7 : Int32)) = 1 ∨ ¬ (x &&& (7 : Int32)) < (2 : Int32) := by
  have e1 := own_m7 x
  by_cases q : 2 ≤ (x &&& (7 : Int32)).toInt
  · right; right; rw [Int32.lt_iff_toInt_lt, show (2 : Int32).toInt = 2 from by decide]; omega
  · have : (x &&& (7 : Int32)).toInt = 0 ∨ (x &&& (7 : Int32)).toInt = 1 := by omega
    rcases this with q0 | q1
    · left; exact Int32.toInt_inj.mp q0
    · right; left; exact Int32.toInt_inj.mp q1
theorem own_fr3 (x : Int32) : (x &&& (7 : Int32)) = 0 ∨ (x &&& (7 : Int32)) = 1 ∨ (x &&& (7 : Int32)) = 2 ∨ ¬ (x &&& (7 : Int32)) < (3 : Int32) := by
  have e1 := own_m7 x
  by_cases q : 3 ≤ (x &&& (7 : Int32)).toInt
  · right; right; right; rw [Int32.lt_iff_toInt_lt, show (3 : Int32).toInt = 3 from by decide]; omega
  · have : (x &&& (7 : Int32)).toInt = 0 ∨ (x &&& (7 : Int32)).toInt = 1 ∨ (x &&& (7 : Int32)).toInt = 2 := by omega
    rcases this with q0 | q1 | q2
    · left; exact Int32.toInt_inj.mp q0
    · right; left; exact Int32.toInt_inj.mp q1
    · right; right; left; exact Int32.toInt_inj.mp q2
theorem own_fr4 (x : Int32) : (x &&& (7 : Int32)) = 0 ∨ (x &&& (7 : Int32)) = 1 ∨ (x &&& (7 : Int32)) = 2 ∨ (x &&& (7 : Int32)) = 3 ∨ ¬ (x &&& (7 : Int32)) < (4 : Int32) := by
  have e1 := own_m7 x
  by_cases q : 4 ≤ (x &&& (7 : Int32)).toInt
  · right; right; right; right; rw [Int32.lt_iff_toInt_lt, show (4 : Int32).toInt = 4 from by decide]; omega
  · have : (x &&& (7 : Int32)).toInt = 0 ∨ (x &&& (7 : Int32)).toInt = 1 ∨ (x &&& (7 : Int32)).toInt = 2 ∨ (x &&& (7 : Int32)).toInt = 3 := by omega
    rcases this with q0 | q1 | q2 | q3
    · left; exact Int32.toInt_inj.mp q0
    · right; left; exact Int32.toInt_inj.mp q1
    · right; right; left; exact Int32.toInt_inj.mp q2
    · right; right; right; left; exact Int32.toInt_inj.mp q3
theorem pn_0 : plainFor (⟨"com/example/admitwire/admitwire/core/TimestampDigitsPinLaw", "law", "(IIIIII)Z"⟩ : MethodName) = true := plainFor_of_name (by first | (simp [plainName, overriddenIn]; done) | decide +kernel)
theorem pd_0 : parseMethodDescriptor "(IIIIII)Z" = some ⟨[.int, .int, .int, .int, .int, .int], some .boolean⟩ := by decide +kernel
set_option maxRecDepth 65536 in
set_option maxHeartbeats 40000000 in
theorem rm0 {l : Launch} {Z : State} {a0 : Array Value} (hw : ∀ d ∈ tables_1, d.before a0 Z = true) {n0 : Nat} {h0 : Heap} (Z0 : n0 ≤ h0.size) (p1 p2 p3 p4 p5 p6 : Int32) (Zn : h0.size ≤ n0) {zc : Int32} (S_c : Sta Z h0 "java/lang/String" "COMPACT_STRINGS" "Z" (.int zc)) (hzc : ¬ zc = (0 : Int32)) {fm : Value} (S_f : Sta Z h0 "jdk/internal/util/Preconditions" "SIOOBE_FORMATTER" "Ljava/util/function/BiFunction;" fm) (hfm : fm.isRef = true) (S_a : Sta Z h0 "java/lang/StringUTF16" "$assertionsDisabled" "Z" (.int 1)) (S_h : Sta Z h0 "java/lang/StringUTF16" "HI_BYTE_SHIFT" "I" (.int 0)) (S_l : Sta Z h0 "java/lang/StringUTF16" "LO_BYTE_SHIFT" "I" (.int 8))  :
    ConW l Z own_EL n0 x code maxLocals ret room_1 #[(.int p1), (.int p2), (.int p3), (.int p4), (.int p5), (.int p6)] h0 (Val (fun v _ => v = .int 1)) := by
  refine conW_intro pn_0 Z0 (fr := fun m => mkF m 0 #[.val (.int p1), .val (.int p2), .val (.int p3), .val (.int p4), .val (.int p5), .val (.int p6), .unset, .unset, .unset, .unset, .unset, .unset, .unset, .unset] []) (fun m => by first | (simp [entryFrame, mkF, argsToLocals, Value.category, maxLocals]; done) | rfl) ?_
  intro p e s m below s₁ hs0 F0 X0
  have R0 := own_cr p1
  have R1 := own_cr p2
  have R2 := own_cr p3
  have R3 := own_cr p4
  refine w_iloadN X0 (pc' := 1) at_0 rfl rfl ?_
  refine w_i2c X0 (pc' := 2) at_1 rfl ?_
  refine w_istore X0 (pc' := 4) (l' := #[.val (.int p1), .val (.int p2), .val (.int p3), .val (.int p4), .val (.int p5), .val (.int p6), .val (.int (p1.toUInt32.toUInt16.toUInt32.toInt32)), .unset, .unset, .unset, .unset, .unset, .unset, .unset]) at_2 rfl rfl ?_
  refine w_iloadN X0 (pc' := 5) at_4 rfl rfl ?_
  refine w_i2c X0 (pc' := 6) at_5 rfl ?_
  refine w_istore X0 (pc' := 8) (l' := #[.val (.int p1), .val (.int p2), .val (.int p3), .val (.int p4), .val (.int p5), .val (.int p6), .val (.int (p1.toUInt32.toUInt16.toUInt32.toInt32)), .val (.int (p2.toUInt32.toUInt16.toUInt32.toInt32)), .unset, .unset, .unset, .unset, .unset, .unset]) at_6 rfl rfl ?_
  refine w_iloadN X0 (pc' := 9) at_8 rfl rfl ?_
  refine w_i2c X0 (pc' := 10) at_9 rfl ?_
  refine w_istore X0 (pc' := 12) (l' := #[.val (.int p1), .val (.int p2), .val (.int p3), .val (.int p4), .val (.int p5), .val (.int p6), .val (.int (p1.toUInt32.toUInt16.toUInt32.toInt32)), .val (.int (p2.toUInt32.toUInt16.toUInt32.toInt32)), .val (.int (p3.toUInt32.toUInt16.toUInt32.toInt32)), .unset, .unset, .unset, .unset, .unset]) at_10 rfl rfl ?_
  refine w_iloadN X0 (pc' := 13) at_12 rfl rfl ?_
  refine w_i2c X0 (pc' := 14) at_13 rfl ?_
  refine w_istore X0 (pc' := 16) (l' := #[.val (.int p1), .val (.int p2), .val (.int p3), .val (.int p4), .val (.int p5), .val (.int p6), .val (.int (p1.toUInt32.toUInt16.toUInt32.toInt32)), .val (.int (p2.toUInt32.toUInt16.toUInt32.toInt32)), .val (.int (p3.toUInt32.toUInt16.toUInt32.toInt32)), .val (.int (p4.toUInt32.toUInt16.toUInt32.toInt32)), .unset, .unset, .unset, .unset]) at_14 rfl rfl ?_
  refine w_iload X0 (pc' := 18) at_16 rfl rfl ?_
  refine w_bipush X0 (pc' := 20) (7 : Int32) at_18 rfl rfl ?_
  refine w_iand X0 (pc' := 21) at_20 rfl ?_
  refine w_iconst X0 (pc' := 22) (5 : Int32) at_21 rfl rfl ?_
  refine w_irem X0 (pc' := 23) at_22 (by decide) rfl ?_
  refine w_istore X0 (pc' := 25) (l' := #[.val (.int p1), .val (.int p2), .val (.int p3), .val (.int p4), .val (.int p5), .val (.int p6), .val (.int (p1.toUInt32.toUInt16.toUInt32.toInt32)), .val (.int (p2.toUInt32.toUInt16.toUInt32.toInt32)), .val (.int (p3.toUInt32.toUInt16.toUInt32.toInt32)), .val (.int (p4.toUInt32.toUInt16.toUInt32.toInt32)), .val (.int ((p5 &&& (7 : Int32)) % (5 : Int32))), .unset, .unset, .unset]) at_23 rfl rfl ?_
  have hz := own_n5 p5
  generalize ((p5 &&& (7 : Int32)) % (5 : Int32)) = n10 at hz ⊢
  rcases hz with rfl | rfl | rfl | rfl | rfl
  · skip
    show Go p e below _ (s₁.setTop (mkF m 25 #[.val (.int p1), .val (.int p2), .val (.int p3), .val (.int p4), .val (.int p5), .val (.int p6), .val (.int (p1.toUInt32.toUInt16.toUInt32.toInt32)), .val (.int (p2.toUInt32.toUInt16.toUInt32.toInt32)), .val (.int (p3.toUInt32.toUInt16.toUInt32.toInt32)), .val (.int (p4.toUInt32.toUInt16.toUInt32.toInt32)), .val (.int (0 : Int32)), .unset, .unset, .unset] []))
    refine w_iload X0 (pc' := 27) at_25 rfl rfl ?_
    refine w_bipush X0 (pc' := 29) (7 : Int32) at_27 rfl rfl ?_
    refine w_iand X0 (pc' := 30) at_29 rfl ?_
    refine w_istore X0 (pc' := 32) (l' := #[.val (.int p1), .val (.int p2), .val (.int p3), .val (.int p4), .val (.int p5), .val (.int p6), .val (.int (p1.toUInt32.toUInt16.toUInt32.toInt32)), .val (.int (p2.toUInt32.toUInt16.toUInt32.toInt32)), .val (.int (p3.toUInt32.toUInt16.toUInt32.toInt32)), .val (.int (p4.toUInt32.toUInt16.toUInt32.toInt32)), .val (.int (0 : Int32)), .val (.int (p6 &&& (7 : Int32))), .unset, .unset]) at_30 rfl rfl ?_
    refine w_iload X0 (pc' := 34) at_32 rfl rfl ?_
    refine w_iload X0 (pc' := 36) at_34 rfl rfl ?_
    refine w_iload X0 (pc' := 38) at_36 rfl rfl ?_
    refine w_iload X0 (pc' := 40) at_38 rfl rfl ?_
    refine w_iload X0 (pc' := 42) at_40 rfl rfl ?_
    refine w_staticVW X0 F0 (pc' := 45) at_42 (rm_mk0 hw (h0 := h0) (sd_size X0) (p1.toUInt32.toUInt16.toUInt32.toInt32) (p2.toUInt32.toUInt16.toUInt32.toInt32) (p3.toUInt32.toUInt16.toUInt32.toInt32) (p4.toUInt32.toUInt16.toUInt32.toInt32)) (hw _ (List.mem_of_getElem? (i := 0) rfl)) (hw _ (List.mem_of_getElem? (i := 1) rfl)) (hw _ (List.mem_of_getElem? (i := 2) rfl)) (hw _ (List.mem_of_getElem? (i := 3) rfl)) (own_hEL hw) (by decide) [(.int (0 : Int32)), (.int (p1.toUInt32.toUInt16.toUInt32.toInt32)), (.int (p2.toUInt32.toUInt16.toUInt32.toInt32)), (.int (p3.toUInt32.toUInt16.toUInt32.toInt32)), (.int (p4.toUInt32.toUInt16.toUInt32.toInt32))] [] pd_1 rfl rfl rfl rfl 0 (Nat.le_refl _) (by decide) (by decide) (by decide) (by decide) rfl fun T1 h1 vm1 v1 X1 F1 q1 => ?_
    obtain ⟨b1, rfl, E1, U⟩ := q1
    refine w_astore X1 (pc' := 47) (l' := #[.val (.int p1), .val (.int p2), .val (.int p3), .val (.int p4), .val (.int p5), .val (.int p6), .val (.int (p1.toUInt32.toUInt16.toUInt32.toInt32)), .val (.int (p2.toUInt32.toUInt16.toUInt32.toInt32)), .val (.int (p3.toUInt32.toUInt16.toUInt32.toInt32)), .val (.int (p4.toUInt32.toUInt16.toUInt32.toInt32)), .val (.int (0 : Int32)), .val (.int (p6 &&& (7 : Int32))), .val (.ref b1), .unset]) at_45 rfl rfl rfl ?_
    have hz := own_fr0 p6
    generalize (p6 &&& (7 : Int32)) = f11 at hz ⊢
    have hx := hz
    · skip
      show Go p e below _ (T1.setTop (mkF m 47 #[.val (.int p1), .val (.int p2), .val (.int p3), .val (.int p4), .val (.int p5), .val (.int p6), .val (.int (p1.toUInt32.toUInt16.toUInt32.toInt32)), .val (.int (p2.toUInt32.toUInt16.toUInt32.toInt32)), .val (.int (p3.toUInt32.toUInt16.toUInt32.toInt32)), .val (.int (p4.toUInt32.toUInt16.toUInt32.toInt32)), .val (.int (0 : Int32)), .val (.int f11), .val (.ref b1), .unset] []))
      refine w_aload X1 (pc' := 49) at_47 rfl rfl rfl ?_
      refine w_iload X1 (pc' := 51) at_49 rfl rfl ?_
      refine w_staticV X1 (pc' := 54) at_51 (rm_dg0_x hw (h0 := h1) (sd_size X1) b1 f11 (Sta.ext (sd_ext X1 hs0 Zn) S_c) hzc (Sta.ext (sd_ext X1 hs0 Zn) S_f) hfm (Sta.ext (sd_ext X1 hs0 Zn) S_a) (Sta.ext (sd_ext X1 hs0 Zn) S_h) (Sta.ext (sd_ext X1 hs0 Zn) S_l)  U hx) (hw _ (List.mem_of_getElem? (i := 26) rfl)) (hw _ (List.mem_of_getElem? (i := 27) rfl)) (hw _ (List.mem_of_getElem? (i := 28) rfl)) (hw _ (List.mem_of_getElem? (i := 29) rfl)) (by decide) [(.ref b1), (.int f11)] [] pd_5 rfl rfl rfl rfl 0 (Nat.le_refl _) (by decide) (by decide) (by decide) (by decide) rfl fun T3 h3 v3 X3 q3 => ?_
      obtain ⟨rfl, rfl⟩ := q3
      refine w_istore X3 (pc' := 56) (l' := #[.val (.int p1), .val (.int p2), .val (.int p3), .val (.int p4), .val (.int p5), .val (.int p6), .val (.int (p1.toUInt32.toUInt16.toUInt32.toInt32)), .val (.int (p2.toUInt32.toUInt16.toUInt32.toInt32)), .val (.int (p3.toUInt32.toUInt16.toUInt32.toInt32)), .val (.int (p4.toUInt32.toUInt16.toUInt32.toInt32)), .val (.int (0 : Int32)), .val (.int f11), .val (.ref b1), .val (.int (0 : Int32))]) at_54 rfl rfl ?_
      refine w_iload X3 (pc' := 58) at_56 rfl rfl ?_
      refine w_iload X3 (pc' := 60) at_58 rfl rfl ?_
      refine w_iload X3 (pc' := 62) at_60 rfl rfl ?_
      refine w_iload X3 (pc' := 64) at_62 rfl rfl ?_
      refine w_iload X3 (pc' := 66) at_64 rfl rfl ?_
      refine w_iload X3 (pc' := 68) at_66 rfl rfl ?_
      refine w_iload X3 (pc' := 70) at_68 rfl rfl ?_
      refine w_staticV X3 (pc' := 73) at_70 (rm_ex0_x hw (h0 := h1) (sd_size X3) f11 (p1.toUInt32.toUInt16.toUInt32.toInt32) (p2.toUInt32.toUInt16.toUInt32.toInt32) (p3.toUInt32.toUInt16.toUInt32.toInt32) (p4.toUInt32.toUInt16.toUInt32.toInt32) hx) (hw _ (List.mem_of_getElem? (i := 41) rfl)) (hw _ (List.mem_of_getElem? (i := 42) rfl)) (hw _ (List.mem_of_getElem? (i := 2) rfl)) (hw _ (List.mem_of_getElem? (i := 43) rfl)) (by decide) [(.int (0 : Int32)), (.int f11), (.int (p1.toUInt32.toUInt16.toUInt32.toInt32)), (.int (p2.toUInt32.toUInt16.toUInt32.toInt32)), (.int (p3.toUInt32.toUInt16.toUInt32.toInt32)), (.int (p4.toUInt32.toUInt16.toUInt32.toInt32))] [(.int (0 : Int32))] pd_8 rfl rfl rfl rfl 1 (Nat.le_refl _) (by decide) (by decide) (by decide) (by decide) rfl fun T4 h4 v4 X4 q4 => ?_
      obtain ⟨rfl, rfl⟩ := q4
      refine w_icmp_ne X4 80 76 at_73 (by decide) rfl rfl (fun hc73 => by exfalso; revert hc73; decide) (fun hc73 => ?_)
      refine w_iconst X4 (pc' := 77) (1 : Int32) at_76 rfl rfl ?_
      refine w_goto X4 (pc' := 81) at_77 (by decide) rfl ?_
      exact w_zreturnW X4 F1 (own_hEL hw) at_81 rfl (by decide) (by decide)
  · skip
    show Go p e below _ (s₁.setTop (mkF m 25 #[.val (.int p1), .val (.int p2), .val (.int p3), .val (.int p4), .val (.int p5), .val (.int p6), .val (.int (p1.toUInt32.toUInt16.toUInt32.toInt32)), .val (.int (p2.toUInt32.toUInt16.toUInt32.toInt32)), .val (.int (p3.toUInt32.toUInt16.toUInt32.toInt32)), .val (.int (p4.toUInt32.toUInt16.toUInt32.toInt32)), .val (.int (1 : Int32)), .unset, .unset, .unset] []))
    refine w_iload X0 (pc' := 27) at_25 rfl rfl ?_
    refine w_bipush X0 (pc' := 29) (7 : Int32) at_27 rfl rfl ?_
    refine w_iand X0 (pc' := 30) at_29 rfl ?_
    refine w_istore X0 (pc' := 32) (l' := #[.val (.int p1), .val (.int p2), .val (.int p3), .val (.int p4), .val (.int p5), .val (.int p6), .val (.int (p1.toUInt32.toUInt16.toUInt32.toInt32)), .val (.int (p2.toUInt32.toUInt16.toUInt32.toInt32)), .val (.int (p3.toUInt32.toUInt16.toUInt32.toInt32)), .val (.int (p4.toUInt32.toUInt16.toUInt32.toInt32)), .val (.int (1 : Int32)), .val (.int (p6 &&& (7 : Int32))), .unset, .unset]) at_30 rfl rfl ?_
    refine w_iload X0 (pc' := 34) at_32 rfl rfl ?_
    refine w_iload X0 (pc' := 36) at_34 rfl rfl ?_
    refine w_iload X0 (pc' := 38) at_36 rfl rfl ?_
    refine w_iload X0 (pc' := 40) at_38 rfl rfl ?_
    refine w_iload X0 (pc' := 42) at_40 rfl rfl ?_
    refine w_staticV X0 (pc' := 45) at_42 (rm_mk1 hw (h0 := h0) (sd_size X0) (p1.toUInt32.toUInt16.toUInt32.toInt32) (p2.toUInt32.toUInt16.toUInt32.toInt32) (p3.toUInt32.toUInt16.toUInt32.toInt32) (p4.toUInt32.toUInt16.toUInt32.toInt32) (Sta.ext (sd_ext X0 hs0 Zn) S_c) hzc (Sta.ext (sd_ext X0 hs0 Zn) S_f) hfm (Sta.ext (sd_ext X0 hs0 Zn) S_a) (Sta.ext (sd_ext X0 hs0 Zn) S_h) (Sta.ext (sd_ext X0 hs0 Zn) S_l) R0 R1 R2 R3) (hw _ (List.mem_of_getElem? (i := 0) rfl)) (hw _ (List.mem_of_getElem? (i := 1) rfl)) (hw _ (List.mem_of_getElem? (i := 2) rfl)) (hw _ (List.mem_of_getElem? (i := 3) rfl)) (by decide) [(.int (1 : Int32)), (.int (p1.toUInt32.toUInt16.toUInt32.toInt32)), (.int (p2.toUInt32.toUInt16.toUInt32.toInt32)), (.int (p3.toUInt32.toUInt16.toUInt32.toInt32)), (.int (p4.toUInt32.toUInt16.toUInt32.toInt32))] [] pd_1 rfl rfl rfl rfl 0 (Nat.le_refl _) (by decide) (by decide) (by decide) (by decide) rfl fun T5 h5 v5 X5 q5 => ?_
    obtain ⟨b5, rfl, E5, U⟩ := q5
    have F0_6 := F0.ext E5
    refine w_astore X5 (pc' := 47) (l' := #[.val (.int p1), .val (.int p2), .val (.int p3), .val (.int p4), .val (.int p5), .val (.int p6), .val (.int (p1.toUInt32.toUInt16.toUInt32.toInt32)), .val (.int (p2.toUInt32.toUInt16.toUInt32.toInt32)), .val (.int (p3.toUInt32.toUInt16.toUInt32.toInt32)), .val (.int (p4.toUInt32.toUInt16.toUInt32.toInt32)), .val (.int (1 : Int32)), .val (.int (p6 &&& (7 : Int32))), .val (.ref b5), .unset]) at_45 rfl rfl rfl ?_
    have hz := own_fr1 p6
    generalize (p6 &&& (7 : Int32)) = f11 at hz ⊢
    rcases hz with rfl | hx
    · skip
      show Go p e below _ (T5.setTop (mkF m 47 #[.val (.int p1), .val (.int p2), .val (.int p3), .val (.int p4), .val (.int p5), .val (.int p6), .val (.int (p1.toUInt32.toUInt16.toUInt32.toInt32)), .val (.int (p2.toUInt32.toUInt16.toUInt32.toInt32)), .val (.int (p3.toUInt32.toUInt16.toUInt32.toInt32)), .val (.int (p4.toUInt32.toUInt16.toUInt32.toInt32)), .val (.int (1 : Int32)), .val (.int (0 : Int32)), .val (.ref b5), .unset] []))
      refine w_aload X5 (pc' := 49) at_47 rfl rfl rfl ?_
      refine w_iload X5 (pc' := 51) at_49 rfl rfl ?_
      refine w_staticV X5 (pc' := 54) at_51 (rm_dg1_0 hw (h0 := h5) (sd_size X5) b5 (Sta.ext (sd_ext X5 hs0 Zn) S_c) hzc (Sta.ext (sd_ext X5 hs0 Zn) S_f) hfm (Sta.ext (sd_ext X5 hs0 Zn) S_a) (Sta.ext (sd_ext X5 hs0 Zn) S_h) (Sta.ext (sd_ext X5 hs0 Zn) S_l) R0 U) (hw _ (List.mem_of_getElem? (i := 26) rfl)) (hw _ (List.mem_of_getElem? (i := 27) rfl)) (hw _ (List.mem_of_getElem? (i := 28) rfl)) (hw _ (List.mem_of_getElem? (i := 29) rfl)) (by decide) [(.ref b5), (.int (0 : Int32))] [] pd_5 rfl rfl rfl rfl 0 (Nat.le_refl _) (by decide) (by decide) (by decide) (by decide) rfl fun T7 h7 v7 X7 q7 => ?_
      obtain ⟨rfl, rfl⟩ := q7
      refine w_istore X7 (pc' := 56) (l' := #[.val (.int p1), .val (.int p2), .val (.int p3), .val (.int p4), .val (.int p5), .val (.int p6), .val (.int (p1.toUInt32.toUInt16.toUInt32.toInt32)), .val (.int (p2.toUInt32.toUInt16.toUInt32.toInt32)), .val (.int (p3.toUInt32.toUInt16.toUInt32.toInt32)), .val (.int (p4.toUInt32.toUInt16.toUInt32.toInt32)), .val (.int (1 : Int32)), .val (.int (0 : Int32)), .val (.ref b5), .val (.int (own_run [(p1.toUInt32.toUInt16.toUInt32.toInt32)]))]) at_54 rfl rfl ?_
      refine w_iload X7 (pc' := 58) at_56 rfl rfl ?_
      refine w_iload X7 (pc' := 60) at_58 rfl rfl ?_
      refine w_iload X7 (pc' := 62) at_60 rfl rfl ?_
      refine w_iload X7 (pc' := 64) at_62 rfl rfl ?_
      refine w_iload X7 (pc' := 66) at_64 rfl rfl ?_
      refine w_iload X7 (pc' := 68) at_66 rfl rfl ?_
      refine w_iload X7 (pc' := 70) at_68 rfl rfl ?_
      refine w_staticV X7 (pc' := 73) at_70 (rm_ex1_0 hw (h0 := h5) (sd_size X7) (p1.toUInt32.toUInt16.toUInt32.toInt32) (p2.toUInt32.toUInt16.toUInt32.toInt32) (p3.toUInt32.toUInt16.toUInt32.toInt32) (p4.toUInt32.toUInt16.toUInt32.toInt32)) (hw _ (List.mem_of_getElem? (i := 41) rfl)) (hw _ (List.mem_of_getElem? (i := 42) rfl)) (hw _ (List.mem_of_getElem? (i := 2) rfl)) (hw _ (List.mem_of_getElem? (i := 43) rfl)) (by decide) [(.int (1 : Int32)), (.int (0 : Int32)), (.int (p1.toUInt32.toUInt16.toUInt32.toInt32)), (.int (p2.toUInt32.toUInt16.toUInt32.toInt32)), (.int (p3.toUInt32.toUInt16.toUInt32.toInt32)), (.int (p4.toUInt32.toUInt16.toUInt32.toInt32))] [(.int (own_run [(p1.toUInt32.toUInt16.toUInt32.toInt32)]))] pd_8 rfl rfl rfl rfl 1 (Nat.le_refl _) (by decide) (by decide) (by decide) (by decide) rfl fun T8 h8 v8 X8 q8 => ?_
      obtain ⟨rfl, rfl⟩ := q8
      refine w_icmp_ne X8 80 76 at_73 (by decide) rfl rfl (fun hc73 => by exfalso; exact hc73 rfl) (fun hc73 => ?_)
      refine w_iconst X8 (pc' := 77) (1 : Int32) at_76 rfl rfl ?_
      refine w_goto X8 (pc' := 81) at_77 (by decide) rfl ?_
      exact w_zreturnW X8 F0_6 (own_hEL hw) at_81 rfl (by decide) (by decide)
    · skip
      show Go p e below _ (T5.setTop (mkF m 47 #[.val (.int p1), .val (.int p2), .val (.int p3), .val (.int p4), .val (.int p5), .val (.int p6), .val (.int (p1.toUInt32.toUInt16.toUInt32.toInt32)), .val (.int (p2.toUInt32.toUInt16.toUInt32.toInt32)), .val (.int (p3.toUInt32.toUInt16.toUInt32.toInt32)), .val (.int (p4.toUInt32.toUInt16.toUInt32.toInt32)), .val (.int (1 : Int32)), .val (.int f11), .val (.ref b5), .unset] []))
      refine w_aload X5 (pc' := 49) at_47 rfl rfl rfl ?_
      refine w_iload X5 (pc' := 51) at_49 rfl rfl ?_
      refine w_staticV X5 (pc' := 54) at_51 (rm_dg1_x hw (h0 := h5) (sd_size X5) b5 f11 (Sta.ext (sd_ext X5 hs0 Zn) S_c) hzc (Sta.ext (sd_ext X5 hs0 Zn) S_f) hfm (Sta.ext (sd_ext X5 hs0 Zn) S_a) (Sta.ext (sd_ext X5 hs0 Zn) S_h) (Sta.ext (sd_ext X5 hs0 Zn) S_l) R0 U hx) (hw _ (List.mem_of_getElem? (i := 26) rfl)) (hw _ (List.mem_of_getElem? (i := 27) rfl)) (hw _ (List.mem_of_getElem? (i := 28) rfl)) (hw _ (List.mem_of_getElem? (i := 29) rfl)) (by decide) [(.ref b5), (.int f11)] [] pd_5 rfl rfl rfl rfl 0 (Nat.le_refl _) (by decide) (by decide) (by decide) (by decide) rfl fun T9 h9 v9 X9 q9 => ?_
      obtain ⟨rfl, rfl⟩ := q9
      refine w_istore X9 (pc' := 56) (l' := #[.val (.int p1), .val (.int p2), .val (.int p3), .val (.int p4), .val (.int p5), .val (.int p6), .val (.int (p1.toUInt32.toUInt16.toUInt32.toInt32)), .val (.int (p2.toUInt32.toUInt16.toUInt32.toInt32)), .val (.int (p3.toUInt32.toUInt16.toUInt32.toInt32)), .val (.int (p4.toUInt32.toUInt16.toUInt32.toInt32)), .val (.int (1 : Int32)), .val (.int f11), .val (.ref b5), .val (.int (0 : Int32))]) at_54 rfl rfl ?_
      refine w_iload X9 (pc' := 58) at_56 rfl rfl ?_
      refine w_iload X9 (pc' := 60) at_58 rfl rfl ?_
      refine w_iload X9 (pc' := 62) at_60 rfl rfl ?_
      refine w_iload X9 (pc' := 64) at_62 rfl rfl ?_
      refine w_iload X9 (pc' := 66) at_64 rfl rfl ?_
      refine w_iload X9 (pc' := 68) at_66 rfl rfl ?_
      refine w_iload X9 (pc' := 70) at_68 rfl rfl ?_
      refine w_staticV X9 (pc' := 73) at_70 (rm_ex1_x hw (h0 := h5) (sd_size X9) f11 (p1.toUInt32.toUInt16.toUInt32.toInt32) (p2.toUInt32.toUInt16.toUInt32.toInt32) (p3.toUInt32.toUInt16.toUInt32.toInt32) (p4.toUInt32.toUInt16.toUInt32.toInt32) hx) (hw _ (List.mem_of_getElem? (i := 41) rfl)) (hw _ (List.mem_of_getElem? (i := 42) rfl)) (hw _ (List.mem_of_getElem? (i := 2) rfl)) (hw _ (List.mem_of_getElem? (i := 43) rfl)) (by decide) [(.int (1 : Int32)), (.int f11), (.int (p1.toUInt32.toUInt16.toUInt32.toInt32)), (.int (p2.toUInt32.toUInt16.toUInt32.toInt32)), (.int (p3.toUInt32.toUInt16.toUInt32.toInt32)), (.int (p4.toUInt32.toUInt16.toUInt32.toInt32))] [(.int (0 : Int32))] pd_8 rfl rfl rfl rfl 1 (Nat.le_refl _) (by decide) (by decide) (by decide) (by decide) rfl fun T10 h10 v10 X10 q10 => ?_
      obtain ⟨rfl, rfl⟩ := q10
      refine w_icmp_ne X10 80 76 at_73 (by decide) rfl rfl (fun hc73 => by exfalso; revert hc73; decide) (fun hc73 => ?_)
      refine w_iconst X10 (pc' := 77) (1 : Int32) at_76 rfl rfl ?_
      refine w_goto X10 (pc' := 81) at_77 (by decide) rfl ?_
      exact w_zreturnW X10 F0_6 (own_hEL hw) at_81 rfl (by decide) (by decide)
  · skip
    show Go p e below _ (s₁.setTop (mkF m 25 #[.val (.int p1), .val (.int p2), .val (.int p3), .val (.int p4), .val (.int p5), .val (.int p6), .val (.int (p1.toUInt32.toUInt16.toUInt32.toInt32)), .val (.int (p2.toUInt32.toUInt16.toUInt32.toInt32)), .val (.int (p3.toUInt32.toUInt16.toUInt32.toInt32)), .val (.int (p4.toUInt32.toUInt16.toUInt32.toInt32)), .val (.int (2 : Int32)), .unset, .unset, .unset] []))
    refine w_iload X0 (pc' := 27) at_25 rfl rfl ?_
    refine w_bipush X0 (pc' := 29) (7 : Int32) at_27 rfl rfl ?_
    refine w_iand X0 (pc' := 30) at_29 rfl ?_
    refine w_istore X0 (pc' := 32) (l' := #[.val (.int p1), .val (.int p2), .val (.int p3), .val (.int p4), .val (.int p5), .val (.int p6), .val (.int (p1.toUInt32.toUInt16.toUInt32.toInt32)), .val (.int (p2.toUInt32.toUInt16.toUInt32.toInt32)), .val (.int (p3.toUInt32.toUInt16.toUInt32.toInt32)), .val (.int (p4.toUInt32.toUInt16.toUInt32.toInt32)), .val (.int (2 : Int32)), .val (.int (p6 &&& (7 : Int32))), .unset, .unset]) at_30 rfl rfl ?_
    refine w_iload X0 (pc' := 34) at_32 rfl rfl ?_
    refine w_iload X0 (pc' := 36) at_34 rfl rfl ?_
    refine w_iload X0 (pc' := 38) at_36 rfl rfl ?_
    refine w_iload X0 (pc' := 40) at_38 rfl rfl ?_
    refine w_iload X0 (pc' := 42) at_40 rfl rfl ?_
    refine w_staticV X0 (pc' := 45) at_42 (rm_mk2 hw (h0 := h0) (sd_size X0) (p1.toUInt32.toUInt16.toUInt32.toInt32) (p2.toUInt32.toUInt16.toUInt32.toInt32) (p3.toUInt32.toUInt16.toUInt32.toInt32) (p4.toUInt32.toUInt16.toUInt32.toInt32) (Sta.ext (sd_ext X0 hs0 Zn) S_c) hzc (Sta.ext (sd_ext X0 hs0 Zn) S_f) hfm (Sta.ext (sd_ext X0 hs0 Zn) S_a) (Sta.ext (sd_ext X0 hs0 Zn) S_h) (Sta.ext (sd_ext X0 hs0 Zn) S_l) R0 R1 R2 R3) (hw _ (List.mem_of_getElem? (i := 0) rfl)) (hw _ (List.mem_of_getElem? (i := 1) rfl)) (hw _ (List.mem_of_getElem? (i := 2) rfl)) (hw _ (List.mem_of_getElem? (i := 3) rfl)) (by decide) [(.int (2 : Int32)), (.int (p1.toUInt32.toUInt16.toUInt32.toInt32)), (.int (p2.toUInt32.toUInt16.toUInt32.toInt32)), (.int (p3.toUInt32.toUInt16.toUInt32.toInt32)), (.int (p4.toUInt32.toUInt16.toUInt32.toInt32))] [] pd_1 rfl rfl rfl rfl 0 (Nat.le_refl _) (by decide) (by decide) (by decide) (by decide) rfl fun T11 h11 v11 X11 q11 => ?_
    obtain ⟨b11, rfl, E11, U⟩ := q11
    have F0_12 := F0.ext E11
    refine w_astore X11 (pc' := 47) (l' := #[.val (.int p1), .val (.int p2), .val (.int p3), .val (.int p4), .val (.int p5), .val (.int p6), .val (.int (p1.toUInt32.toUInt16.toUInt32.toInt32)), .val (.int (p2.toUInt32.toUInt16.toUInt32.toInt32)), .val (.int (p3.toUInt32.toUInt16.toUInt32.toInt32)), .val (.int (p4.toUInt32.toUInt16.toUInt32.toInt32)), .val (.int (2 : Int32)), .val (.int (p6 &&& (7 : Int32))), .val (.ref b11), .unset]) at_45 rfl rfl rfl ?_
    have hz := own_fr2 p6
    generalize (p6 &&& (7 : Int32)) = f11 at hz ⊢
    rcases hz with rfl | rfl | hx
    · skip
      show Go p e below _ (T11.setTop (mkF m 47 #[.val (.int p1), .val (.int p2), .val (.int p3), .val (.int p4), .val (.int p5), .val (.int p6), .val (.int (p1.toUInt32.toUInt16.toUInt32.toInt32)), .val (.int (p2.toUInt32.toUInt16.toUInt32.toInt32)), .val (.int (p3.toUInt32.toUInt16.toUInt32.toInt32)), .val (.int (p4.toUInt32.toUInt16.toUInt32.toInt32)), .val (.int (2 : Int32)), .val (.int (0 : Int32)), .val (.ref b11), .unset] []))
      refine w_aload X11 (pc' := 49) at_47 rfl rfl rfl ?_
      refine w_iload X11 (pc' := 51) at_49 rfl rfl ?_
      refine w_staticV X11 (pc' := 54) at_51 (rm_dg2_0 hw (h0 := h11) (sd_size X11) b11 (Sta.ext (sd_ext X11 hs0 Zn) S_c) hzc (Sta.ext (sd_ext X11 hs0 Zn) S_f) hfm (Sta.ext (sd_ext X11 hs0 Zn) S_a) (Sta.ext (sd_ext X11 hs0 Zn) S_h) (Sta.ext (sd_ext X11 hs0 Zn) S_l) R0 R1 U) (hw _ (List.mem_of_getElem? (i := 26) rfl)) (hw _ (List.mem_of_getElem? (i := 27) rfl)) (hw _ (List.mem_of_getElem? (i := 28) rfl)) (hw _ (List.mem_of_getElem? (i := 29) rfl)) (by decide) [(.ref b11), (.int (0 : Int32))] [] pd_5 rfl rfl rfl rfl 0 (Nat.le_refl _) (by decide) (by decide) (by decide) (by decide) rfl fun T13 h13 v13 X13 q13 => ?_
      obtain ⟨rfl, rfl⟩ := q13
      refine w_istore X13 (pc' := 56) (l' := #[.val (.int p1), .val (.int p2), .val (.int p3), .val (.int p4), .val (.int p5), .val (.int p6), .val (.int (p1.toUInt32.toUInt16.toUInt32.toInt32)), .val (.int (p2.toUInt32.toUInt16.toUInt32.toInt32)), .val (.int (p3.toUInt32.toUInt16.toUInt32.toInt32)), .val (.int (p4.toUInt32.toUInt16.toUInt32.toInt32)), .val (.int (2 : Int32)), .val (.int (0 : Int32)), .val (.ref b11), .val (.int (own_run [(p1.toUInt32.toUInt16.toUInt32.toInt32), (p2.toUInt32.toUInt16.toUInt32.toInt32)]))]) at_54 rfl rfl ?_
      refine w_iload X13 (pc' := 58) at_56 rfl rfl ?_
      refine w_iload X13 (pc' := 60) at_58 rfl rfl ?_
      refine w_iload X13 (pc' := 62) at_60 rfl rfl ?_
      refine w_iload X13 (pc' := 64) at_62 rfl rfl ?_
      refine w_iload X13 (pc' := 66) at_64 rfl rfl ?_
      refine w_iload X13 (pc' := 68) at_66 rfl rfl ?_
      refine w_iload X13 (pc' := 70) at_68 rfl rfl ?_
      refine w_staticV X13 (pc' := 73) at_70 (rm_ex2_0 hw (h0 := h11) (sd_size X13) (p1.toUInt32.toUInt16.toUInt32.toInt32) (p2.toUInt32.toUInt16.toUInt32.toInt32) (p3.toUInt32.toUInt16.toUInt32.toInt32) (p4.toUInt32.toUInt16.toUInt32.toInt32)) (hw _ (List.mem_of_getElem? (i := 41) rfl)) (hw _ (List.mem_of_getElem? (i := 42) rfl)) (hw _ (List.mem_of_getElem? (i := 2) rfl)) (hw _ (List.mem_of_getElem? (i := 43) rfl)) (by decide) [(.int (2 : Int32)), (.int (0 : Int32)), (.int (p1.toUInt32.toUInt16.toUInt32.toInt32)), (.int (p2.toUInt32.toUInt16.toUInt32.toInt32)), (.int (p3.toUInt32.toUInt16.toUInt32.toInt32)), (.int (p4.toUInt32.toUInt16.toUInt32.toInt32))] [(.int (own_run [(p1.toUInt32.toUInt16.toUInt32.toInt32), (p2.toUInt32.toUInt16.toUInt32.toInt32)]))] pd_8 rfl rfl rfl rfl 1 (Nat.le_refl _) (by decide) (by decide) (by decide) (by decide) rfl fun T14 h14 v14 X14 q14 => ?_
      obtain ⟨rfl, rfl⟩ := q14
      refine w_icmp_ne X14 80 76 at_73 (by decide) rfl rfl (fun hc73 => by exfalso; exact hc73 rfl) (fun hc73 => ?_)
      refine w_iconst X14 (pc' := 77) (1 : Int32) at_76 rfl rfl ?_
      refine w_goto X14 (pc' := 81) at_77 (by decide) rfl ?_
      exact w_zreturnW X14 F0_12 (own_hEL hw) at_81 rfl (by decide) (by decide)
    · skip
      show Go p e below _ (T11.setTop (mkF m 47 #[.val (.int p1), .val (.int p2), .val (.int p3), .val (.int p4), .val (.int p5), .val (.int p6), .val (.int (p1.toUInt32.toUInt16.toUInt32.toInt32)), .val (.int (p2.toUInt32.toUInt16.toUInt32.toInt32)), .val (.int (p3.toUInt32.toUInt16.toUInt32.toInt32)), .val (.int (p4.toUInt32.toUInt16.toUInt32.toInt32)), .val (.int (2 : Int32)), .val (.int (1 : Int32)), .val (.ref b11), .unset] []))
      refine w_aload X11 (pc' := 49) at_47 rfl rfl rfl ?_
      refine w_iload X11 (pc' := 51) at_49 rfl rfl ?_
      refine w_staticV X11 (pc' := 54) at_51 (rm_dg2_1 hw (h0 := h11) (sd_size X11) b11 (Sta.ext (sd_ext X11 hs0 Zn) S_c) hzc (Sta.ext (sd_ext X11 hs0 Zn) S_f) hfm (Sta.ext (sd_ext X11 hs0 Zn) S_a) (Sta.ext (sd_ext X11 hs0 Zn) S_h) (Sta.ext (sd_ext X11 hs0 Zn) S_l) R0 R1 U) (hw _ (List.mem_of_getElem? (i := 26) rfl)) (hw _ (List.mem_of_getElem? (i := 27) rfl)) (hw _ (List.mem_of_getElem? (i := 28) rfl)) (hw _ (List.mem_of_getElem? (i := 29) rfl)) (by decide) [(.ref b11), (.int (1 : Int32))] [] pd_5 rfl rfl rfl rfl 0 (Nat.le_refl _) (by decide) (by decide) (by decide) (by decide) rfl fun T15 h15 v15 X15 q15 => ?_
      obtain ⟨rfl, rfl⟩ := q15
      refine w_istore X15 (pc' := 56) (l' := #[.val (.int p1), .val (.int p2), .val (.int p3), .val (.int p4), .val (.int p5), .val (.int p6), .val (.int (p1.toUInt32.toUInt16.toUInt32.toInt32)), .val (.int (p2.toUInt32.toUInt16.toUInt32.toInt32)), .val (.int (p3.toUInt32.toUInt16.toUInt32.toInt32)), .val (.int (p4.toUInt32.toUInt16.toUInt32.toInt32)), .val (.int (2 : Int32)), .val (.int (1 : Int32)), .val (.ref b11), .val (.int (own_run [(p2.toUInt32.toUInt16.toUInt32.toInt32)]))]) at_54 rfl rfl ?_
      refine w_iload X15 (pc' := 58) at_56 rfl rfl ?_
      refine w_iload X15 (pc' := 60) at_58 rfl rfl ?_
      refine w_iload X15 (pc' := 62) at_60 rfl rfl ?_
      refine w_iload X15 (pc' := 64) at_62 rfl rfl ?_
      refine w_iload X15 (pc' := 66) at_64 rfl rfl ?_
      refine w_iload X15 (pc' := 68) at_66 rfl rfl ?_
      refine w_iload X15 (pc' := 70) at_68 rfl rfl ?_
      refine w_staticV X15 (pc' := 73) at_70 (rm_ex2_1 hw (h0 := h11) (sd_size X15) (p1.toUInt32.toUInt16.toUInt32.toInt32) (p2.toUInt32.toUInt16.toUInt32.toInt32) (p3.toUInt32.toUInt16.toUInt32.toInt32) (p4.toUInt32.toUInt16.toUInt32.toInt32)) (hw _ (List.mem_of_getElem? (i := 41) rfl)) (hw _ (List.mem_of_getElem? (i := 42) rfl)) (hw _ (List.mem_of_getElem? (i := 2) rfl)) (hw _ (List.mem_of_getElem? (i := 43) rfl)) (by decide) [(.int (2 : Int32)), (.int (1 : Int32)), (.int (p1.toUInt32.toUInt16.toUInt32.toInt32)), (.int (p2.toUInt32.toUInt16.toUInt32.toInt32)), (.int (p3.toUInt32.toUInt16.toUInt32.toInt32)), (.int (p4.toUInt32.toUInt16.toUInt32.toInt32))] [(.int (own_run [(p2.toUInt32.toUInt16.toUInt32.toInt32)]))] pd_8 rfl rfl rfl rfl 1 (Nat.le_refl _) (by decide) (by decide) (by decide) (by decide) rfl fun T16 h16 v16 X16 q16 => ?_
      obtain ⟨rfl, rfl⟩ := q16
      refine w_icmp_ne X16 80 76 at_73 (by decide) rfl rfl (fun hc73 => by exfalso; exact hc73 rfl) (fun hc73 => ?_)
      refine w_iconst X16 (pc' := 77) (1 : Int32) at_76 rfl rfl ?_
      refine w_goto X16 (pc' := 81) at_77 (by decide) rfl ?_
      exact w_zreturnW X16 F0_12 (own_hEL hw) at_81 rfl (by decide) (by decide)
    · skip
      show Go p e below _ (T11.setTop (mkF m 47 #[.val (.int p1), .val (.int p2), .val (.int p3), .val (.int p4), .val (.int p5), .val (.int p6), .val (.int (p1.toUInt32.toUInt16.toUInt32.toInt32)), .val (.int (p2.toUInt32.toUInt16.toUInt32.toInt32)), .val (.int (p3.toUInt32.toUInt16.toUInt32.toInt32)), .val (.int (p4.toUInt32.toUInt16.toUInt32.toInt32)), .val (.int (2 : Int32)), .val (.int f11), .val (.ref b11), .unset] []))
      refine w_aload X11 (pc' := 49) at_47 rfl rfl rfl ?_
      refine w_iload X11 (pc' := 51) at_49 rfl rfl ?_
      refine w_staticV X11 (pc' := 54) at_51 (rm_dg2_x hw (h0 := h11) (sd_size X11) b11 f11 (Sta.ext (sd_ext X11 hs0 Zn) S_c) hzc (Sta.ext (sd_ext X11 hs0 Zn) S_f) hfm (Sta.ext (sd_ext X11 hs0 Zn) S_a) (Sta.ext (sd_ext X11 hs0 Zn) S_h) (Sta.ext (sd_ext X11 hs0 Zn) S_l) R0 R1 U hx) (hw _ (List.mem_of_getElem? (i := 26) rfl)) (hw _ (List.mem_of_getElem? (i := 27) rfl)) (hw _ (List.mem_of_getElem? (i := 28) rfl)) (hw _ (List.mem_of_getElem? (i := 29) rfl)) (by decide) [(.ref b11), (.int f11)] [] pd_5 rfl rfl rfl rfl 0 (Nat.le_refl _) (by decide) (by decide) (by decide) (by decide) rfl fun T17 h17 v17 X17 q17 => ?_
      obtain ⟨rfl, rfl⟩ := q17
      refine w_istore X17 (pc' := 56) (l' := #[.val (.int p1), .val (.int p2), .val (.int p3), .val (.int p4), .val (.int p5), .val (.int p6), .val (.int (p1.toUInt32.toUInt16.toUInt32.toInt32)), .val (.int (p2.toUInt32.toUInt16.toUInt32.toInt32)), .val (.int (p3.toUInt32.toUInt16.toUInt32.toInt32)), .val (.int (p4.toUInt32.toUInt16.toUInt32.toInt32)), .val (.int (2 : Int32)), .val (.int f11), .val (.ref b11), .val (.int (0 : Int32))]) at_54 rfl rfl ?_
      refine w_iload X17 (pc' := 58) at_56 rfl rfl ?_
      refine w_iload X17 (pc' := 60) at_58 rfl rfl ?_
      refine w_iload X17 (pc' := 62) at_60 rfl rfl ?_
      refine w_iload X17 (pc' := 64) at_62 rfl rfl ?_
      refine w_iload X17 (pc' := 66) at_64 rfl rfl ?_
      refine w_iload X17 (pc' := 68) at_66 rfl rfl ?_
      refine w_iload X17 (pc' := 70) at_68 rfl rfl ?_
      refine w_staticV X17 (pc' := 73) at_70 (rm_ex2_x hw (h0 := h11) (sd_size X17) f11 (p1.toUInt32.toUInt16.toUInt32.toInt32) (p2.toUInt32.toUInt16.toUInt32.toInt32) (p3.toUInt32.toUInt16.toUInt32.toInt32) (p4.toUInt32.toUInt16.toUInt32.toInt32) hx) (hw _ (List.mem_of_getElem? (i := 41) rfl)) (hw _ (List.mem_of_getElem? (i := 42) rfl)) (hw _ (List.mem_of_getElem? (i := 2) rfl)) (hw _ (List.mem_of_getElem? (i := 43) rfl)) (by decide) [(.int (2 : Int32)), (.int f11), (.int (p1.toUInt32.toUInt16.toUInt32.toInt32)), (.int (p2.toUInt32.toUInt16.toUInt32.toInt32)), (.int (p3.toUInt32.toUInt16.toUInt32.toInt32)), (.int (p4.toUInt32.toUInt16.toUInt32.toInt32))] [(.int (0 : Int32))] pd_8 rfl rfl rfl rfl 1 (Nat.le_refl _) (by decide) (by decide) (by decide) (by decide) rfl fun T18 h18 v18 X18 q18 => ?_
      obtain ⟨rfl, rfl⟩ := q18
      refine w_icmp_ne X18 80 76 at_73 (by decide) rfl rfl (fun hc73 => by exfalso; revert hc73; decide) (fun hc73 => ?_)
      refine w_iconst X18 (pc' := 77) (1 : Int32) at_76 rfl rfl ?_
      refine w_goto X18 (pc' := 81) at_77 (by decide) rfl ?_
      exact w_zreturnW X18 F0_12 (own_hEL hw) at_81 rfl (by decide) (by decide)
  · skip
    show Go p e below _ (s₁.setTop (mkF m 25 #[.val (.int p1), .val (.int p2), .val (.int p3), .val (.int p4), .val (.int p5), .val (.int p6), .val (.int (p1.toUInt32.toUInt16.toUInt32.toInt32)), .val (.int (p2.toUInt32.toUInt16.toUInt32.toInt32)), .val (.int (p3.toUInt32.toUInt16.toUInt32.toInt32)), .val (.int (p4.toUInt32.toUInt16.toUInt32.toInt32)), .val (.int (3 : Int32)), .unset, .unset, .unset] []))
    refine w_iload X0 (pc' := 27) at_25 rfl rfl ?_
    refine w_bipush X0 (pc' := 29) (7 : Int32) at_27 rfl rfl ?_
    refine w_iand X0 (pc' := 30) at_29 rfl ?_
    refine w_istore X0 (pc' := 32) (l' := #[.val (.int p1), .val (.int p2), .val (.int p3), .val (.int p4), .val (.int p5), .val (.int p6), .val (.int (p1.toUInt32.toUInt16.toUInt32.toInt32)), .val (.int (p2.toUInt32.toUInt16.toUInt32.toInt32)), .val (.int (p3.toUInt32.toUInt16.toUInt32.toInt32)), .val (.int (p4.toUInt32.toUInt16.toUInt32.toInt32)), .val (.int (3 : Int32)), .val (.int (p6 &&& (7 : Int32))), .unset, .unset]) at_30 rfl rfl ?_
    refine w_iload X0 (pc' := 34) at_32 rfl rfl ?_
    refine w_iload X0 (pc' := 36) at_34 rfl rfl ?_
    refine w_iload X0 (pc' := 38) at_36 rfl rfl ?_
    refine w_iload X0 (pc' := 40) at_38 rfl rfl ?_
    refine w_iload X0 (pc' := 42) at_40 rfl rfl ?_
    refine w_staticV X0 (pc' := 45) at_42 (rm_mk3 hw (h0 := h0) (sd_size X0) (p1.toUInt32.toUInt16.toUInt32.toInt32) (p2.toUInt32.toUInt16.toUInt32.toInt32) (p3.toUInt32.toUInt16.toUInt32.toInt32) (p4.toUInt32.toUInt16.toUInt32.toInt32) (Sta.ext (sd_ext X0 hs0 Zn) S_c) hzc (Sta.ext (sd_ext X0 hs0 Zn) S_f) hfm (Sta.ext (sd_ext X0 hs0 Zn) S_a) (Sta.ext (sd_ext X0 hs0 Zn) S_h) (Sta.ext (sd_ext X0 hs0 Zn) S_l) R0 R1 R2 R3) (hw _ (List.mem_of_getElem? (i := 0) rfl)) (hw _ (List.mem_of_getElem? (i := 1) rfl)) (hw _ (List.mem_of_getElem? (i := 2) rfl)) (hw _ (List.mem_of_getElem? (i := 3) rfl)) (by decide) [(.int (3 : Int32)), (.int (p1.toUInt32.toUInt16.toUInt32.toInt32)), (.int (p2.toUInt32.toUInt16.toUInt32.toInt32)), (.int (p3.toUInt32.toUInt16.toUInt32.toInt32)), (.int (p4.toUInt32.toUInt16.toUInt32.toInt32))] [] pd_1 rfl rfl rfl rfl 0 (Nat.le_refl _) (by decide) (by decide) (by decide) (by decide) rfl fun T19 h19 v19 X19 q19 => ?_
    obtain ⟨b19, rfl, E19, U⟩ := q19
    have F0_20 := F0.ext E19
    refine w_astore X19 (pc' := 47) (l' := #[.val (.int p1), .val (.int p2), .val (.int p3), .val (.int p4), .val (.int p5), .val (.int p6), .val (.int (p1.toUInt32.toUInt16.toUInt32.toInt32)), .val (.int (p2.toUInt32.toUInt16.toUInt32.toInt32)), .val (.int (p3.toUInt32.toUInt16.toUInt32.toInt32)), .val (.int (p4.toUInt32.toUInt16.toUInt32.toInt32)), .val (.int (3 : Int32)), .val (.int (p6 &&& (7 : Int32))), .val (.ref b19), .unset]) at_45 rfl rfl rfl ?_
    have hz := own_fr3 p6
    generalize (p6 &&& (7 : Int32)) = f11 at hz ⊢
    rcases hz with rfl | rfl | rfl | hx
    · skip
      show Go p e below _ (T19.setTop (mkF m 47 #[.val (.int p1), .val (.int p2), .val (.int p3), .val (.int p4), .val (.int p5), .val (.int p6), .val (.int (p1.toUInt32.toUInt16.toUInt32.toInt32)), .val (.int (p2.toUInt32.toUInt16.toUInt32.toInt32)), .val (.int (p3.toUInt32.toUInt16.toUInt32.toInt32)), .val (.int (p4.toUInt32.toUInt16.toUInt32.toInt32)), .val (.int (3 : Int32)), .val (.int (0 : Int32)), .val (.ref b19), .unset] []))
      refine w_aload X19 (pc' := 49) at_47 rfl rfl rfl ?_
      refine w_iload X19 (pc' := 51) at_49 rfl rfl ?_
      refine w_staticV X19 (pc' := 54) at_51 (rm_dg3_0 hw (h0 := h19) (sd_size X19) b19 (Sta.ext (sd_ext X19 hs0 Zn) S_c) hzc (Sta.ext (sd_ext X19 hs0 Zn) S_f) hfm (Sta.ext (sd_ext X19 hs0 Zn) S_a) (Sta.ext (sd_ext X19 hs0 Zn) S_h) (Sta.ext (sd_ext X19 hs0 Zn) S_l) R0 R1 R2 U) (hw _ (List.mem_of_getElem? (i := 26) rfl)) (hw _ (List.mem_of_getElem? (i := 27) rfl)) (hw _ (List.mem_of_getElem? (i := 28) rfl)) (hw _ (List.mem_of_getElem? (i := 29) rfl)) (by decide) [(.ref b19), (.int (0 : Int32))] [] pd_5 rfl rfl rfl rfl 0 (Nat.le_refl _) (by decide) (by decide) (by decide) (by decide) rfl fun T21 h21 v21 X21 q21 => ?_
      obtain ⟨rfl, rfl⟩ := q21
      refine w_istore X21 (pc' := 56) (l' := #[.val (.int p1), .val (.int p2), .val (.int p3), .val (.int p4), .val (.int p5), .val (.int p6), .val (.int (p1.toUInt32.toUInt16.toUInt32.toInt32)), .val (.int (p2.toUInt32.toUInt16.toUInt32.toInt32)), .val (.int (p3.toUInt32.toUInt16.toUInt32.toInt32)), .val (.int (p4.toUInt32.toUInt16.toUInt32.toInt32)), .val (.int (3 : Int32)), .val (.int (0 : Int32)), .val (.ref b19), .val (.int (own_run [(p1.toUInt32.toUInt16.toUInt32.toInt32), (p2.toUInt32.toUInt16.toUInt32.toInt32), (p3.toUInt32.toUInt16.toUInt32.toInt32)]))]) at_54 rfl rfl ?_
      refine w_iload X21 (pc' := 58) at_56 rfl rfl ?_
      refine w_iload X21 (pc' := 60) at_58 rfl rfl ?_
      refine w_iload X21 (pc' := 62) at_60 rfl rfl ?_
      refine w_iload X21 (pc' := 64) at_62 rfl rfl ?_
      refine w_iload X21 (pc' := 66) at_64 rfl rfl ?_
      refine w_iload X21 (pc' := 68) at_66 rfl rfl ?_
      refine w_iload X21 (pc' := 70) at_68 rfl rfl ?_
      refine w_staticV X21 (pc' := 73) at_70 (rm_ex3_0 hw (h0 := h19) (sd_size X21) (p1.toUInt32.toUInt16.toUInt32.toInt32) (p2.toUInt32.toUInt16.toUInt32.toInt32) (p3.toUInt32.toUInt16.toUInt32.toInt32) (p4.toUInt32.toUInt16.toUInt32.toInt32)) (hw _ (List.mem_of_getElem? (i := 41) rfl)) (hw _ (List.mem_of_getElem? (i := 42) rfl)) (hw _ (List.mem_of_getElem? (i := 2) rfl)) (hw _ (List.mem_of_getElem? (i := 43) rfl)) (by decide) [(.int (3 : Int32)), (.int (0 : Int32)), (.int (p1.toUInt32.toUInt16.toUInt32.toInt32)), (.int (p2.toUInt32.toUInt16.toUInt32.toInt32)), (.int (p3.toUInt32.toUInt16.toUInt32.toInt32)), (.int (p4.toUInt32.toUInt16.toUInt32.toInt32))] [(.int (own_run [(p1.toUInt32.toUInt16.toUInt32.toInt32), (p2.toUInt32.toUInt16.toUInt32.toInt32), (p3.toUInt32.toUInt16.toUInt32.toInt32)]))] pd_8 rfl rfl rfl rfl 1 (Nat.le_refl _) (by decide) (by decide) (by decide) (by decide) rfl fun T22 h22 v22 X22 q22 => ?_
      obtain ⟨rfl, rfl⟩ := q22
      refine w_icmp_ne X22 80 76 at_73 (by decide) rfl rfl (fun hc73 => by exfalso; exact hc73 rfl) (fun hc73 => ?_)
      refine w_iconst X22 (pc' := 77) (1 : Int32) at_76 rfl rfl ?_
      refine w_goto X22 (pc' := 81) at_77 (by decide) rfl ?_
      exact w_zreturnW X22 F0_20 (own_hEL hw) at_81 rfl (by decide) (by decide)
    · skip
      show Go p e below _ (T19.setTop (mkF m 47 #[.val (.int p1), .val (.int p2), .val (.int p3), .val (.int p4), .val (.int p5), .val (.int p6), .val (.int (p1.toUInt32.toUInt16.toUInt32.toInt32)), .val (.int (p2.toUInt32.toUInt16.toUInt32.toInt32)), .val (.int (p3.toUInt32.toUInt16.toUInt32.toInt32)), .val (.int (p4.toUInt32.toUInt16.toUInt32.toInt32)), .val (.int (3 : Int32)), .val (.int (1 : Int32)), .val (.ref b19), .unset] []))
      refine w_aload X19 (pc' := 49) at_47 rfl rfl rfl ?_
      refine w_iload X19 (pc' := 51) at_49 rfl rfl ?_
      refine w_staticV X19 (pc' := 54) at_51 (rm_dg3_1 hw (h0 := h19) (sd_size X19) b19 (Sta.ext (sd_ext X19 hs0 Zn) S_c) hzc (Sta.ext (sd_ext X19 hs0 Zn) S_f) hfm (Sta.ext (sd_ext X19 hs0 Zn) S_a) (Sta.ext (sd_ext X19 hs0 Zn) S_h) (Sta.ext (sd_ext X19 hs0 Zn) S_l) R0 R1 R2 U) (hw _ (List.mem_of_getElem? (i := 26) rfl)) (hw _ (List.mem_of_getElem? (i := 27) rfl)) (hw _ (List.mem_of_getElem? (i := 28) rfl)) (hw _ (List.mem_of_getElem? (i := 29) rfl)) (by decide) [(.ref b19), (.int (1 : Int32))] [] pd_5 rfl rfl rfl rfl 0 (Nat.le_refl _) (by decide) (by decide) (by decide) (by decide) rfl fun T23 h23 v23 X23 q23 => ?_
      obtain ⟨rfl, rfl⟩ := q23
      refine w_istore X23 (pc' := 56) (l' := #[.val (.int p1), .val (.int p2), .val (.int p3), .val (.int p4), .val (.int p5), .val (.int p6), .val (.int (p1.toUInt32.toUInt16.toUInt32.toInt32)), .val (.int (p2.toUInt32.toUInt16.toUInt32.toInt32)), .val (.int (p3.toUInt32.toUInt16.toUInt32.toInt32)), .val (.int (p4.toUInt32.toUInt16.toUInt32.toInt32)), .val (.int (3 : Int32)), .val (.int (1 : Int32)), .val (.ref b19), .val (.int (own_run [(p2.toUInt32.toUInt16.toUInt32.toInt32), (p3.toUInt32.toUInt16.toUInt32.toInt32)]))]) at_54 rfl rfl ?_
      refine w_iload X23 (pc' := 58) at_56 rfl rfl ?_
      refine w_iload X23 (pc' := 60) at_58 rfl rfl ?_
      refine w_iload X23 (pc' := 62) at_60 rfl rfl ?_
      refine w_iload X23 (pc' := 64) at_62 rfl rfl ?_
      refine w_iload X23 (pc' := 66) at_64 rfl rfl ?_
      refine w_iload X23 (pc' := 68) at_66 rfl rfl ?_
      refine w_iload X23 (pc' := 70) at_68 rfl rfl ?_
      refine w_staticV X23 (pc' := 73) at_70 (rm_ex3_1 hw (h0 := h19) (sd_size X23) (p1.toUInt32.toUInt16.toUInt32.toInt32) (p2.toUInt32.toUInt16.toUInt32.toInt32) (p3.toUInt32.toUInt16.toUInt32.toInt32) (p4.toUInt32.toUInt16.toUInt32.toInt32)) (hw _ (List.mem_of_getElem? (i := 41) rfl)) (hw _ (List.mem_of_getElem? (i := 42) rfl)) (hw _ (List.mem_of_getElem? (i := 2) rfl)) (hw _ (List.mem_of_getElem? (i := 43) rfl)) (by decide) [(.int (3 : Int32)), (.int (1 : Int32)), (.int (p1.toUInt32.toUInt16.toUInt32.toInt32)), (.int (p2.toUInt32.toUInt16.toUInt32.toInt32)), (.int (p3.toUInt32.toUInt16.toUInt32.toInt32)), (.int (p4.toUInt32.toUInt16.toUInt32.toInt32))] [(.int (own_run [(p2.toUInt32.toUInt16.toUInt32.toInt32), (p3.toUInt32.toUInt16.toUInt32.toInt32)]))] pd_8 rfl rfl rfl rfl 1 (Nat.le_refl _) (by decide) (by decide) (by decide) (by decide) rfl fun T24 h24 v24 X24 q24 => ?_
      obtain ⟨rfl, rfl⟩ := q24
      refine w_icmp_ne X24 80 76 at_73 (by decide) rfl rfl (fun hc73 => by exfalso; exact hc73 rfl) (fun hc73 => ?_)
      refine w_iconst X24 (pc' := 77) (1 : Int32) at_76 rfl rfl ?_
      refine w_goto X24 (pc' := 81) at_77 (by decide) rfl ?_
      exact w_zreturnW X24 F0_20 (own_hEL hw) at_81 rfl (by decide) (by decide)
    · skip
      show Go p e below _ (T19.setTop (mkF m 47 #[.val (.int p1), .val (.int p2), .val (.int p3), .val (.int p4), .val (.int p5), .val (.int p6), .val (.int (p1.toUInt32.toUInt16.toUInt32.toInt32)), .val (.int (p2.toUInt32.toUInt16.toUInt32.toInt32)), .val (.int (p3.toUInt32.toUInt16.toUInt32.toInt32)), .val (.int (p4.toUInt32.toUInt16.toUInt32.toInt32)), .val (.int (3 : Int32)), .val (.int (2 : Int32)), .val (.ref b19), .unset] []))
      refine w_aload X19 (pc' := 49) at_47 rfl rfl rfl ?_
      refine w_iload X19 (pc' := 51) at_49 rfl rfl ?_
      refine w_staticV X19 (pc' := 54) at_51 (rm_dg3_2 hw (h0 := h19) (sd_size X19) b19 (Sta.ext (sd_ext X19 hs0 Zn) S_c) hzc (Sta.ext (sd_ext X19 hs0 Zn) S_f) hfm (Sta.ext (sd_ext X19 hs0 Zn) S_a) (Sta.ext (sd_ext X19 hs0 Zn) S_h) (Sta.ext (sd_ext X19 hs0 Zn) S_l) R0 R1 R2 U) (hw _ (List.mem_of_getElem? (i := 26) rfl)) (hw _ (List.mem_of_getElem? (i := 27) rfl)) (hw _ (List.mem_of_getElem? (i := 28) rfl)) (hw _ (List.mem_of_getElem? (i := 29) rfl)) (by decide) [(.ref b19), (.int (2 : Int32))] [] pd_5 rfl rfl rfl rfl 0 (Nat.le_refl _) (by decide) (by decide) (by decide) (by decide) rfl fun T25 h25 v25 X25 q25 => ?_
      obtain ⟨rfl, rfl⟩ := q25
      refine w_istore X25 (pc' := 56) (l' := #[.val (.int p1), .val (.int p2), .val (.int p3), .val (.int p4), .val (.int p5), .val (.int p6), .val (.int (p1.toUInt32.toUInt16.toUInt32.toInt32)), .val (.int (p2.toUInt32.toUInt16.toUInt32.toInt32)), .val (.int (p3.toUInt32.toUInt16.toUInt32.toInt32)), .val (.int (p4.toUInt32.toUInt16.toUInt32.toInt32)), .val (.int (3 : Int32)), .val (.int (2 : Int32)), .val (.ref b19), .val (.int (own_run [(p3.toUInt32.toUInt16.toUInt32.toInt32)]))]) at_54 rfl rfl ?_
      refine w_iload X25 (pc' := 58) at_56 rfl rfl ?_
      refine w_iload X25 (pc' := 60) at_58 rfl rfl ?_
      refine w_iload X25 (pc' := 62) at_60 rfl rfl ?_
      refine w_iload X25 (pc' := 64) at_62 rfl rfl ?_
      refine w_iload X25 (pc' := 66) at_64 rfl rfl ?_
      refine w_iload X25 (pc' := 68) at_66 rfl rfl ?_
      refine w_iload X25 (pc' := 70) at_68 rfl rfl ?_
      refine w_staticV X25 (pc' := 73) at_70 (rm_ex3_2 hw (h0 := h19) (sd_size X25) (p1.toUInt32.toUInt16.toUInt32.toInt32) (p2.toUInt32.toUInt16.toUInt32.toInt32) (p3.toUInt32.toUInt16.toUInt32.toInt32) (p4.toUInt32.toUInt16.toUInt32.toInt32)) (hw _ (List.mem_of_getElem? (i := 41) rfl)) (hw _ (List.mem_of_getElem? (i := 42) rfl)) (hw _ (List.mem_of_getElem? (i := 2) rfl)) (hw _ (List.mem_of_getElem? (i := 43) rfl)) (by decide) [(.int (3 : Int32)), (.int (2 : Int32)), (.int (p1.toUInt32.toUInt16.toUInt32.toInt32)), (.int (p2.toUInt32.toUInt16.toUInt32.toInt32)), (.int (p3.toUInt32.toUInt16.toUInt32.toInt32)), (.int (p4.toUInt32.toUInt16.toUInt32.toInt32))] [(.int (own_run [(p3.toUInt32.toUInt16.toUInt32.toInt32)]))] pd_8 rfl rfl rfl rfl 1 (Nat.le_refl _) (by decide) (by decide) (by decide) (by decide) rfl fun T26 h26 v26 X26 q26 => ?_
      obtain ⟨rfl, rfl⟩ := q26
      refine w_icmp_ne X26 80 76 at_73 (by decide) rfl rfl (fun hc73 => by exfalso; exact hc73 rfl) (fun hc73 => ?_)
      refine w_iconst X26 (pc' := 77) (1 : Int32) at_76 rfl rfl ?_
      refine w_goto X26 (pc' := 81) at_77 (by decide) rfl ?_
      exact w_zreturnW X26 F0_20 (own_hEL hw) at_81 rfl (by decide) (by decide)
    · skip
      show Go p e below _ (T19.setTop (mkF m 47 #[.val (.int p1), .val (.int p2), .val (.int p3), .val (.int p4), .val (.int p5), .val (.int p6), .val (.int (p1.toUInt32.toUInt16.toUInt32.toInt32)), .val (.int (p2.toUInt32.toUInt16.toUInt32.toInt32)), .val (.int (p3.toUInt32.toUInt16.toUInt32.toInt32)), .val (.int (p4.toUInt32.toUInt16.toUInt32.toInt32)), .val (.int (3 : Int32)), .val (.int f11), .val (.ref b19), .unset] []))
      refine w_aload X19 (pc' := 49) at_47 rfl rfl rfl ?_
      refine w_iload X19 (pc' := 51) at_49 rfl rfl ?_
      refine w_staticV X19 (pc' := 54) at_51 (rm_dg3_x hw (h0 := h19) (sd_size X19) b19 f11 (Sta.ext (sd_ext X19 hs0 Zn) S_c) hzc (Sta.ext (sd_ext X19 hs0 Zn) S_f) hfm (Sta.ext (sd_ext X19 hs0 Zn) S_a) (Sta.ext (sd_ext X19 hs0 Zn) S_h) (Sta.ext (sd_ext X19 hs0 Zn) S_l) R0 R1 R2 U hx) (hw _ (List.mem_of_getElem? (i := 26) rfl)) (hw _ (List.mem_of_getElem? (i := 27) rfl)) (hw _ (List.mem_of_getElem? (i := 28) rfl)) (hw _ (List.mem_of_getElem? (i := 29) rfl)) (by decide) [(.ref b19), (.int f11)] [] pd_5 rfl rfl rfl rfl 0 (Nat.le_refl _) (by decide) (by decide) (by decide) (by decide) rfl fun T27 h27 v27 X27 q27 => ?_
      obtain ⟨rfl, rfl⟩ := q27
      refine w_istore X27 (pc' := 56) (l' := #[.val (.int p1), .val (.int p2), .val (.int p3), .val (.int p4), .val (.int p5), .val (.int p6), .val (.int (p1.toUInt32.toUInt16.toUInt32.toInt32)), .val (.int (p2.toUInt32.toUInt16.toUInt32.toInt32)), .val (.int (p3.toUInt32.toUInt16.toUInt32.toInt32)), .val (.int (p4.toUInt32.toUInt16.toUInt32.toInt32)), .val (.int (3 : Int32)), .val (.int f11), .val (.ref b19), .val (.int (0 : Int32))]) at_54 rfl rfl ?_
      refine w_iload X27 (pc' := 58) at_56 rfl rfl ?_
      refine w_iload X27 (pc' := 60) at_58 rfl rfl ?_
      refine w_iload X27 (pc' := 62) at_60 rfl rfl ?_
      refine w_iload X27 (pc' := 64) at_62 rfl rfl ?_
      refine w_iload X27 (pc' := 66) at_64 rfl rfl ?_
      refine w_iload X27 (pc' := 68) at_66 rfl rfl ?_
      refine w_iload X27 (pc' := 70) at_68 rfl rfl ?_
      refine w_staticV X27 (pc' := 73) at_70 (rm_ex3_x hw (h0 := h19) (sd_size X27) f11 (p1.toUInt32.toUInt16.toUInt32.toInt32) (p2.toUInt32.toUInt16.toUInt32.toInt32) (p3.toUInt32.toUInt16.toUInt32.toInt32) (p4.toUInt32.toUInt16.toUInt32.toInt32) hx) (hw _ (List.mem_of_getElem? (i := 41) rfl)) (hw _ (List.mem_of_getElem? (i := 42) rfl)) (hw _ (List.mem_of_getElem? (i := 2) rfl)) (hw _ (List.mem_of_getElem? (i := 43) rfl)) (by decide) [(.int (3 : Int32)), (.int f11), (.int (p1.toUInt32.toUInt16.toUInt32.toInt32)), (.int (p2.toUInt32.toUInt16.toUInt32.toInt32)), (.int (p3.toUInt32.toUInt16.toUInt32.toInt32)), (.int (p4.toUInt32.toUInt16.toUInt32.toInt32))] [(.int (0 : Int32))] pd_8 rfl rfl rfl rfl 1 (Nat.le_refl _) (by decide) (by decide) (by decide) (by decide) rfl fun T28 h28 v28 X28 q28 => ?_
      obtain ⟨rfl, rfl⟩ := q28
      refine w_icmp_ne X28 80 76 at_73 (by decide) rfl rfl (fun hc73 => by exfalso; revert hc73; decide) (fun hc73 => ?_)
      refine w_iconst X28 (pc' := 77) (1 : Int32) at_76 rfl rfl ?_
      refine w_goto X28 (pc' := 81) at_77 (by decide) rfl ?_
      exact w_zreturnW X28 F0_20 (own_hEL hw) at_81 rfl (by decide) (by decide)
  · skip
    show Go p e below _ (s₁.setTop (mkF m 25 #[.val (.int p1), .val (.int p2), .val (.int p3), .val (.int p4), .val (.int p5), .val (.int p6), .val (.int (p1.toUInt32.toUInt16.toUInt32.toInt32)), .val (.int (p2.toUInt32.toUInt16.toUInt32.toInt32)), .val (.int (p3.toUInt32.toUInt16.toUInt32.toInt32)), .val (.int (p4.toUInt32.toUInt16.toUInt32.toInt32)), .val (.int (4 : Int32)), .unset, .unset, .unset] []))
    refine w_iload X0 (pc' := 27) at_25 rfl rfl ?_
    refine w_bipush X0 (pc' := 29) (7 : Int32) at_27 rfl rfl ?_
    refine w_iand X0 (pc' := 30) at_29 rfl ?_
    refine w_istore X0 (pc' := 32) (l' := #[.val (.int p1), .val (.int p2), .val (.int p3), .val (.int p4), .val (.int p5), .val (.int p6), .val (.int (p1.toUInt32.toUInt16.toUInt32.toInt32)), .val (.int (p2.toUInt32.toUInt16.toUInt32.toInt32)), .val (.int (p3.toUInt32.toUInt16.toUInt32.toInt32)), .val (.int (p4.toUInt32.toUInt16.toUInt32.toInt32)), .val (.int (4 : Int32)), .val (.int (p6 &&& (7 : Int32))), .unset, .unset]) at_30 rfl rfl ?_
    refine w_iload X0 (pc' := 34) at_32 rfl rfl ?_
    refine w_iload X0 (pc' := 36) at_34 rfl rfl ?_
    refine w_iload X0 (pc' := 38) at_36 rfl rfl ?_
    refine w_iload X0 (pc' := 40) at_38 rfl rfl ?_
    refine w_iload X0 (pc' := 42) at_40 rfl rfl ?_
    refine w_staticV X0 (pc' := 45) at_42 (rm_mk4 hw (h0 := h0) (sd_size X0) (p1.toUInt32.toUInt16.toUInt32.toInt32) (p2.toUInt32.toUInt16.toUInt32.toInt32) (p3.toUInt32.toUInt16.toUInt32.toInt32) (p4.toUInt32.toUInt16.toUInt32.toInt32) (Sta.ext (sd_ext X0 hs0 Zn) S_c) hzc (Sta.ext (sd_ext X0 hs0 Zn) S_f) hfm (Sta.ext (sd_ext X0 hs0 Zn) S_a) (Sta.ext (sd_ext X0 hs0 Zn) S_h) (Sta.ext (sd_ext X0 hs0 Zn) S_l) R0 R1 R2 R3) (hw _ (List.mem_of_getElem? (i := 0) rfl)) (hw _ (List.mem_of_getElem? (i := 1) rfl)) (hw _ (List.mem_of_getElem? (i := 2) rfl)) (hw _ (List.mem_of_getElem? (i := 3) rfl)) (by decide) [(.int (4 : Int32)), (.int (p1.toUInt32.toUInt16.toUInt32.toInt32)), (.int (p2.toUInt32.toUInt16.toUInt32.toInt32)), (.int (p3.toUInt32.toUInt16.toUInt32.toInt32)), (.int (p4.toUInt32.toUInt16.toUInt32.toInt32))] [] pd_1 rfl rfl rfl rfl 0 (Nat.le_refl _) (by decide) (by decide) (by decide) (by decide) rfl fun T29 h29 v29 X29 q29 => ?_
    obtain ⟨b29, rfl, E29, U⟩ := q29
    have F0_30 := F0.ext E29
    refine w_astore X29 (pc' := 47) (l' := #[.val (.int p1), .val (.int p2), .val (.int p3), .val (.int p4), .val (.int p5), .val (.int p6), .val (.int (p1.toUInt32.toUInt16.toUInt32.toInt32)), .val (.int (p2.toUInt32.toUInt16.toUInt32.toInt32)), .val (.int (p3.toUInt32.toUInt16.toUInt32.toInt32)), .val (.int (p4.toUInt32.toUInt16.toUInt32.toInt32)), .val (.int (4 : Int32)), .val (.int (p6 &&& (7 : Int32))), .val (.ref b29), .unset]) at_45 rfl rfl rfl ?_
    have hz := own_fr4 p6
    generalize (p6 &&& (7 : Int32)) = f11 at hz ⊢
    rcases hz with rfl | rfl | rfl | rfl | hx
    · skip
      show Go p e below _ (T29.setTop (mkF m 47 #[.val (.int p1), .val (.int p2), .val (.int p3), .val (.int p4), .val (.int p5), .val (.int p6), .val (.int (p1.toUInt32.toUInt16.toUInt32.toInt32)), .val (.int (p2.toUInt32.toUInt16.toUInt32.toInt32)), .val (.int (p3.toUInt32.toUInt16.toUInt32.toInt32)), .val (.int (p4.toUInt32.toUInt16.toUInt32.toInt32)), .val (.int (4 : Int32)), .val (.int (0 : Int32)), .val (.ref b29), .unset] []))
      refine w_aload X29 (pc' := 49) at_47 rfl rfl rfl ?_
      refine w_iload X29 (pc' := 51) at_49 rfl rfl ?_
      refine w_staticV X29 (pc' := 54) at_51 (rm_dg4_0 hw (h0 := h29) (sd_size X29) b29 (Sta.ext (sd_ext X29 hs0 Zn) S_c) hzc (Sta.ext (sd_ext X29 hs0 Zn) S_f) hfm (Sta.ext (sd_ext X29 hs0 Zn) S_a) (Sta.ext (sd_ext X29 hs0 Zn) S_h) (Sta.ext (sd_ext X29 hs0 Zn) S_l) R0 R1 R2 R3 U) (hw _ (List.mem_of_getElem? (i := 26) rfl)) (hw _ (List.mem_of_getElem? (i := 27) rfl)) (hw _ (List.mem_of_getElem? (i := 28) rfl)) (hw _ (List.mem_of_getElem? (i := 29) rfl)) (by decide) [(.ref b29), (.int (0 : Int32))] [] pd_5 rfl rfl rfl rfl 0 (Nat.le_refl _) (by decide) (by decide) (by decide) (by decide) rfl fun T31 h31 v31 X31 q31 => ?_
      obtain ⟨rfl, rfl⟩ := q31
      refine w_istore X31 (pc' := 56) (l' := #[.val (.int p1), .val (.int p2), .val (.int p3), .val (.int p4), .val (.int p5), .val (.int p6), .val (.int (p1.toUInt32.toUInt16.toUInt32.toInt32)), .val (.int (p2.toUInt32.toUInt16.toUInt32.toInt32)), .val (.int (p3.toUInt32.toUInt16.toUInt32.toInt32)), .val (.int (p4.toUInt32.toUInt16.toUInt32.toInt32)), .val (.int (4 : Int32)), .val (.int (0 : Int32)), .val (.ref b29), .val (.int (own_run [(p1.toUInt32.toUInt16.toUInt32.toInt32), (p2.toUInt32.toUInt16.toUInt32.toInt32), (p3.toUInt32.toUInt16.toUInt32.toInt32), (p4.toUInt32.toUInt16.toUInt32.toInt32)]))]) at_54 rfl rfl ?_
      refine w_iload X31 (pc' := 58) at_56 rfl rfl ?_
      refine w_iload X31 (pc' := 60) at_58 rfl rfl ?_
      refine w_iload X31 (pc' := 62) at_60 rfl rfl ?_
      refine w_iload X31 (pc' := 64) at_62 rfl rfl ?_
      refine w_iload X31 (pc' := 66) at_64 rfl rfl ?_
      refine w_iload X31 (pc' := 68) at_66 rfl rfl ?_
      refine w_iload X31 (pc' := 70) at_68 rfl rfl ?_
      refine w_staticV X31 (pc' := 73) at_70 (rm_ex4_0 hw (h0 := h29) (sd_size X31) (p1.toUInt32.toUInt16.toUInt32.toInt32) (p2.toUInt32.toUInt16.toUInt32.toInt32) (p3.toUInt32.toUInt16.toUInt32.toInt32) (p4.toUInt32.toUInt16.toUInt32.toInt32)) (hw _ (List.mem_of_getElem? (i := 41) rfl)) (hw _ (List.mem_of_getElem? (i := 42) rfl)) (hw _ (List.mem_of_getElem? (i := 2) rfl)) (hw _ (List.mem_of_getElem? (i := 43) rfl)) (by decide) [(.int (4 : Int32)), (.int (0 : Int32)), (.int (p1.toUInt32.toUInt16.toUInt32.toInt32)), (.int (p2.toUInt32.toUInt16.toUInt32.toInt32)), (.int (p3.toUInt32.toUInt16.toUInt32.toInt32)), (.int (p4.toUInt32.toUInt16.toUInt32.toInt32))] [(.int (own_run [(p1.toUInt32.toUInt16.toUInt32.toInt32), (p2.toUInt32.toUInt16.toUInt32.toInt32), (p3.toUInt32.toUInt16.toUInt32.toInt32), (p4.toUInt32.toUInt16.toUInt32.toInt32)]))] pd_8 rfl rfl rfl rfl 1 (Nat.le_refl _) (by decide) (by decide) (by decide) (by decide) rfl fun T32 h32 v32 X32 q32 => ?_
      obtain ⟨rfl, rfl⟩ := q32
      refine w_icmp_ne X32 80 76 at_73 (by decide) rfl rfl (fun hc73 => by exfalso; exact hc73 rfl) (fun hc73 => ?_)
      refine w_iconst X32 (pc' := 77) (1 : Int32) at_76 rfl rfl ?_
      refine w_goto X32 (pc' := 81) at_77 (by decide) rfl ?_
      exact w_zreturnW X32 F0_30 (own_hEL hw) at_81 rfl (by decide) (by decide)
    · skip
      show Go p e below _ (T29.setTop (mkF m 47 #[.val (.int p1), .val (.int p2), .val (.int p3), .val (.int p4), .val (.int p5), .val (.int p6), .val (.int (p1.toUInt32.toUInt16.toUInt32.toInt32)), .val (.int (p2.toUInt32.toUInt16.toUInt32.toInt32)), .val (.int (p3.toUInt32.toUInt16.toUInt32.toInt32)), .val (.int (p4.toUInt32.toUInt16.toUInt32.toInt32)), .val (.int (4 : Int32)), .val (.int (1 : Int32)), .val (.ref b29), .unset] []))
      refine w_aload X29 (pc' := 49) at_47 rfl rfl rfl ?_
      refine w_iload X29 (pc' := 51) at_49 rfl rfl ?_
      refine w_staticV X29 (pc' := 54) at_51 (rm_dg4_1 hw (h0 := h29) (sd_size X29) b29 (Sta.ext (sd_ext X29 hs0 Zn) S_c) hzc (Sta.ext (sd_ext X29 hs0 Zn) S_f) hfm (Sta.ext (sd_ext X29 hs0 Zn) S_a) (Sta.ext (sd_ext X29 hs0 Zn) S_h) (Sta.ext (sd_ext X29 hs0 Zn) S_l) R0 R1 R2 R3 U) (hw _ (List.mem_of_getElem? (i := 26) rfl)) (hw _ (List.mem_of_getElem? (i := 27) rfl)) (hw _ (List.mem_of_getElem? (i := 28) rfl)) (hw _ (List.mem_of_getElem? (i := 29) rfl)) (by decide) [(.ref b29), (.int (1 : Int32))] [] pd_5 rfl rfl rfl rfl 0 (Nat.le_refl _) (by decide) (by decide) (by decide) (by decide) rfl fun T33 h33 v33 X33 q33 => ?_
      obtain ⟨rfl, rfl⟩ := q33
      refine w_istore X33 (pc' := 56) (l' := #[.val (.int p1), .val (.int p2), .val (.int p3), .val (.int p4), .val (.int p5), .val (.int p6), .val (.int (p1.toUInt32.toUInt16.toUInt32.toInt32)), .val (.int (p2.toUInt32.toUInt16.toUInt32.toInt32)), .val (.int (p3.toUInt32.toUInt16.toUInt32.toInt32)), .val (.int (p4.toUInt32.toUInt16.toUInt32.toInt32)), .val (.int (4 : Int32)), .val (.int (1 : Int32)), .val (.ref b29), .val (.int (own_run [(p2.toUInt32.toUInt16.toUInt32.toInt32), (p3.toUInt32.toUInt16.toUInt32.toInt32), (p4.toUInt32.toUInt16.toUInt32.toInt32)]))]) at_54 rfl rfl ?_
      refine w_iload X33 (pc' := 58) at_56 rfl rfl ?_
      refine w_iload X33 (pc' := 60) at_58 rfl rfl ?_
      refine w_iload X33 (pc' := 62) at_60 rfl rfl ?_
      refine w_iload X33 (pc' := 64) at_62 rfl rfl ?_
      refine w_iload X33 (pc' := 66) at_64 rfl rfl ?_
      refine w_iload X33 (pc' := 68) at_66 rfl rfl ?_
      refine w_iload X33 (pc' := 70) at_68 rfl rfl ?_
      refine w_staticV X33 (pc' := 73) at_70 (rm_ex4_1 hw (h0 := h29) (sd_size X33) (p1.toUInt32.toUInt16.toUInt32.toInt32) (p2.toUInt32.toUInt16.toUInt32.toInt32) (p3.toUInt32.toUInt16.toUInt32.toInt32) (p4.toUInt32.toUInt16.toUInt32.toInt32)) (hw _ (List.mem_of_getElem? (i := 41) rfl)) (hw _ (List.mem_of_getElem? (i := 42) rfl)) (hw _ (List.mem_of_getElem? (i := 2) rfl)) (hw _ (List.mem_of_getElem? (i := 43) rfl)) (by decide) [(.int (4 : Int32)), (.int (1 : Int32)), (.int (p1.toUInt32.toUInt16.toUInt32.toInt32)), (.int (p2.toUInt32.toUInt16.toUInt32.toInt32)), (.int (p3.toUInt32.toUInt16.toUInt32.toInt32)), (.int (p4.toUInt32.toUInt16.toUInt32.toInt32))] [(.int (own_run [(p2.toUInt32.toUInt16.toUInt32.toInt32), (p3.toUInt32.toUInt16.toUInt32.toInt32), (p4.toUInt32.toUInt16.toUInt32.toInt32)]))] pd_8 rfl rfl rfl rfl 1 (Nat.le_refl _) (by decide) (by decide) (by decide) (by decide) rfl fun T34 h34 v34 X34 q34 => ?_
      obtain ⟨rfl, rfl⟩ := q34
      refine w_icmp_ne X34 80 76 at_73 (by decide) rfl rfl (fun hc73 => by exfalso; exact hc73 rfl) (fun hc73 => ?_)
      refine w_iconst X34 (pc' := 77) (1 : Int32) at_76 rfl rfl ?_
      refine w_goto X34 (pc' := 81) at_77 (by decide) rfl ?_
      exact w_zreturnW X34 F0_30 (own_hEL hw) at_81 rfl (by decide) (by decide)
    · skip
      show Go p e below _ (T29.setTop (mkF m 47 #[.val (.int p1), .val (.int p2), .val (.int p3), .val (.int p4), .val (.int p5), .val (.int p6), .val (.int (p1.toUInt32.toUInt16.toUInt32.toInt32)), .val (.int (p2.toUInt32.toUInt16.toUInt32.toInt32)), .val (.int (p3.toUInt32.toUInt16.toUInt32.toInt32)), .val (.int (p4.toUInt32.toUInt16.toUInt32.toInt32)), .val (.int (4 : Int32)), .val (.int (2 : Int32)), .val (.ref b29), .unset] []))
      refine w_aload X29 (pc' := 49) at_47 rfl rfl rfl ?_
      refine w_iload X29 (pc' := 51) at_49 rfl rfl ?_
      refine w_staticV X29 (pc' := 54) at_51 (rm_dg4_2 hw (h0 := h29) (sd_size X29) b29 (Sta.ext (sd_ext X29 hs0 Zn) S_c) hzc (Sta.ext (sd_ext X29 hs0 Zn) S_f) hfm (Sta.ext (sd_ext X29 hs0 Zn) S_a) (Sta.ext (sd_ext X29 hs0 Zn) S_h) (Sta.ext (sd_ext X29 hs0 Zn) S_l) R0 R1 R2 R3 U) (hw _ (List.mem_of_getElem? (i := 26) rfl)) (hw _ (List.mem_of_getElem? (i := 27) rfl)) (hw _ (List.mem_of_getElem? (i := 28) rfl)) (hw _ (List.mem_of_getElem? (i := 29) rfl)) (by decide) [(.ref b29), (.int (2 : Int32))] [] pd_5 rfl rfl rfl rfl 0 (Nat.le_refl _) (by decide) (by decide) (by decide) (by decide) rfl fun T35 h35 v35 X35 q35 => ?_
      obtain ⟨rfl, rfl⟩ := q35
      refine w_istore X35 (pc' := 56) (l' := #[.val (.int p1), .val (.int p2), .val (.int p3), .val (.int p4), .val (.int p5), .val (.int p6), .val (.int (p1.toUInt32.toUInt16.toUInt32.toInt32)), .val (.int (p2.toUInt32.toUInt16.toUInt32.toInt32)), .val (.int (p3.toUInt32.toUInt16.toUInt32.toInt32)), .val (.int (p4.toUInt32.toUInt16.toUInt32.toInt32)), .val (.int (4 : Int32)), .val (.int (2 : Int32)), .val (.ref b29), .val (.int (own_run [(p3.toUInt32.toUInt16.toUInt32.toInt32), (p4.toUInt32.toUInt16.toUInt32.toInt32)]))]) at_54 rfl rfl ?_
      refine w_iload X35 (pc' := 58) at_56 rfl rfl ?_
      refine w_iload X35 (pc' := 60) at_58 rfl rfl ?_
      refine w_iload X35 (pc' := 62) at_60 rfl rfl ?_
      refine w_iload X35 (pc' := 64) at_62 rfl rfl ?_
      refine w_iload X35 (pc' := 66) at_64 rfl rfl ?_
      refine w_iload X35 (pc' := 68) at_66 rfl rfl ?_
      refine w_iload X35 (pc' := 70) at_68 rfl rfl ?_
      refine w_staticV X35 (pc' := 73) at_70 (rm_ex4_2 hw (h0 := h29) (sd_size X35) (p1.toUInt32.toUInt16.toUInt32.toInt32) (p2.toUInt32.toUInt16.toUInt32.toInt32) (p3.toUInt32.toUInt16.toUInt32.toInt32) (p4.toUInt32.toUInt16.toUInt32.toInt32)) (hw _ (List.mem_of_getElem? (i := 41) rfl)) (hw _ (List.mem_of_getElem? (i := 42) rfl)) (hw _ (List.mem_of_getElem? (i := 2) rfl)) (hw _ (List.mem_of_getElem? (i := 43) rfl)) (by decide) [(.int (4 : Int32)), (.int (2 : Int32)), (.int (p1.toUInt32.toUInt16.toUInt32.toInt32)), (.int (p2.toUInt32.toUInt16.toUInt32.toInt32)), (.int (p3.toUInt32.toUInt16.toUInt32.toInt32)), (.int (p4.toUInt32.toUInt16.toUInt32.toInt32))] [(.int (own_run [(p3.toUInt32.toUInt16.toUInt32.toInt32), (p4.toUInt32.toUInt16.toUInt32.toInt32)]))] pd_8 rfl rfl rfl rfl 1 (Nat.le_refl _) (by decide) (by decide) (by decide) (by decide) rfl fun T36 h36 v36 X36 q36 => ?_
      obtain ⟨rfl, rfl⟩ := q36
      refine w_icmp_ne X36 80 76 at_73 (by decide) rfl rfl (fun hc73 => by exfalso; exact hc73 rfl) (fun hc73 => ?_)
      refine w_iconst X36 (pc' := 77) (1 : Int32) at_76 rfl rfl ?_
      refine w_goto X36 (pc' := 81) at_77 (by decide) rfl ?_
      exact w_zreturnW X36 F0_30 (own_hEL hw) at_81 rfl (by decide) (by decide)
    · skip
      show Go p e below _ (T29.setTop (mkF m 47 #[.val (.int p1), .val (.int p2), .val (.int p3), .val (.int p4), .val (.int p5), .val (.int p6), .val (.int (p1.toUInt32.toUInt16.toUInt32.toInt32)), .val (.int (p2.toUInt32.toUInt16.toUInt32.toInt32)), .val (.int (p3.toUInt32.toUInt16.toUInt32.toInt32)), .val (.int (p4.toUInt32.toUInt16.toUInt32.toInt32)), .val (.int (4 : Int32)), .val (.int (3 : Int32)), .val (.ref b29), .unset] []))
      refine w_aload X29 (pc' := 49) at_47 rfl rfl rfl ?_
      refine w_iload X29 (pc' := 51) at_49 rfl rfl ?_
      refine w_staticV X29 (pc' := 54) at_51 (rm_dg4_3 hw (h0 := h29) (sd_size X29) b29 (Sta.ext (sd_ext X29 hs0 Zn) S_c) hzc (Sta.ext (sd_ext X29 hs0 Zn) S_f) hfm (Sta.ext (sd_ext X29 hs0 Zn) S_a) (Sta.ext (sd_ext X29 hs0 Zn) S_h) (Sta.ext (sd_ext X29 hs0 Zn) S_l) R0 R1 R2 R3 U) (hw _ (List.mem_of_getElem? (i := 26) rfl)) (hw _ (List.mem_of_getElem? (i := 27) rfl)) (hw _ (List.mem_of_getElem? (i := 28) rfl)) (hw _ (List.mem_of_getElem? (i := 29) rfl)) (by decide) [(.ref b29), (.int (3 : Int32))] [] pd_5 rfl rfl rfl rfl 0 (Nat.le_refl _) (by decide) (by decide) (by decide) (by decide) rfl fun T37 h37 v37 X37 q37 => ?_
      obtain ⟨rfl, rfl⟩ := q37
      refine w_istore X37 (pc' := 56) (l' := #[.val (.int p1), .val (.int p2), .val (.int p3), .val (.int p4), .val (.int p5), .val (.int p6), .val (.int (p1.toUInt32.toUInt16.toUInt32.toInt32)), .val (.int (p2.toUInt32.toUInt16.toUInt32.toInt32)), .val (.int (p3.toUInt32.toUInt16.toUInt32.toInt32)), .val (.int (p4.toUInt32.toUInt16.toUInt32.toInt32)), .val (.int (4 : Int32)), .val (.int (3 : Int32)), .val (.ref b29), .val (.int (own_run [(p4.toUInt32.toUInt16.toUInt32.toInt32)]))]) at_54 rfl rfl ?_
      refine w_iload X37 (pc' := 58) at_56 rfl rfl ?_
      refine w_iload X37 (pc' := 60) at_58 rfl rfl ?_
      refine w_iload X37 (pc' := 62) at_60 rfl rfl ?_
      refine w_iload X37 (pc' := 64) at_62 rfl rfl ?_
      refine w_iload X37 (pc' := 66) at_64 rfl rfl ?_
      refine w_iload X37 (pc' := 68) at_66 rfl rfl ?_
      refine w_iload X37 (pc' := 70) at_68 rfl rfl ?_
      refine w_staticV X37 (pc' := 73) at_70 (rm_ex4_3 hw (h0 := h29) (sd_size X37) (p1.toUInt32.toUInt16.toUInt32.toInt32) (p2.toUInt32.toUInt16.toUInt32.toInt32) (p3.toUInt32.toUInt16.toUInt32.toInt32) (p4.toUInt32.toUInt16.toUInt32.toInt32)) (hw _ (List.mem_of_getElem? (i := 41) rfl)) (hw _ (List.mem_of_getElem? (i := 42) rfl)) (hw _ (List.mem_of_getElem? (i := 2) rfl)) (hw _ (List.mem_of_getElem? (i := 43) rfl)) (by decide) [(.int (4 : Int32)), (.int (3 : Int32)), (.int (p1.toUInt32.toUInt16.toUInt32.toInt32)), (.int (p2.toUInt32.toUInt16.toUInt32.toInt32)), (.int (p3.toUInt32.toUInt16.toUInt32.toInt32)), (.int (p4.toUInt32.toUInt16.toUInt32.toInt32))] [(.int (own_run [(p4.toUInt32.toUInt16.toUInt32.toInt32)]))] pd_8 rfl rfl rfl rfl 1 (Nat.le_refl _) (by decide) (by decide) (by decide) (by decide) rfl fun T38 h38 v38 X38 q38 => ?_
      obtain ⟨rfl, rfl⟩ := q38
      refine w_icmp_ne X38 80 76 at_73 (by decide) rfl rfl (fun hc73 => by exfalso; exact hc73 rfl) (fun hc73 => ?_)
      refine w_iconst X38 (pc' := 77) (1 : Int32) at_76 rfl rfl ?_
      refine w_goto X38 (pc' := 81) at_77 (by decide) rfl ?_
      exact w_zreturnW X38 F0_30 (own_hEL hw) at_81 rfl (by decide) (by decide)
    · skip
      show Go p e below _ (T29.setTop (mkF m 47 #[.val (.int p1), .val (.int p2), .val (.int p3), .val (.int p4), .val (.int p5), .val (.int p6), .val (.int (p1.toUInt32.toUInt16.toUInt32.toInt32)), .val (.int (p2.toUInt32.toUInt16.toUInt32.toInt32)), .val (.int (p3.toUInt32.toUInt16.toUInt32.toInt32)), .val (.int (p4.toUInt32.toUInt16.toUInt32.toInt32)), .val (.int (4 : Int32)), .val (.int f11), .val (.ref b29), .unset] []))
      refine w_aload X29 (pc' := 49) at_47 rfl rfl rfl ?_
      refine w_iload X29 (pc' := 51) at_49 rfl rfl ?_
      refine w_staticV X29 (pc' := 54) at_51 (rm_dg4_x hw (h0 := h29) (sd_size X29) b29 f11 (Sta.ext (sd_ext X29 hs0 Zn) S_c) hzc (Sta.ext (sd_ext X29 hs0 Zn) S_f) hfm (Sta.ext (sd_ext X29 hs0 Zn) S_a) (Sta.ext (sd_ext X29 hs0 Zn) S_h) (Sta.ext (sd_ext X29 hs0 Zn) S_l) R0 R1 R2 R3 U hx) (hw _ (List.mem_of_getElem? (i := 26) rfl)) (hw _ (List.mem_of_getElem? (i := 27) rfl)) (hw _ (List.mem_of_getElem? (i := 28) rfl)) (hw _ (List.mem_of_getElem? (i := 29) rfl)) (by decide) [(.ref b29), (.int f11)] [] pd_5 rfl rfl rfl rfl 0 (Nat.le_refl _) (by decide) (by decide) (by decide) (by decide) rfl fun T39 h39 v39 X39 q39 => ?_
      obtain ⟨rfl, rfl⟩ := q39
      refine w_istore X39 (pc' := 56) (l' := #[.val (.int p1), .val (.int p2), .val (.int p3), .val (.int p4), .val (.int p5), .val (.int p6), .val (.int (p1.toUInt32.toUInt16.toUInt32.toInt32)), .val (.int (p2.toUInt32.toUInt16.toUInt32.toInt32)), .val (.int (p3.toUInt32.toUInt16.toUInt32.toInt32)), .val (.int (p4.toUInt32.toUInt16.toUInt32.toInt32)), .val (.int (4 : Int32)), .val (.int f11), .val (.ref b29), .val (.int (0 : Int32))]) at_54 rfl rfl ?_
      refine w_iload X39 (pc' := 58) at_56 rfl rfl ?_
      refine w_iload X39 (pc' := 60) at_58 rfl rfl ?_
      refine w_iload X39 (pc' := 62) at_60 rfl rfl ?_
      refine w_iload X39 (pc' := 64) at_62 rfl rfl ?_
      refine w_iload X39 (pc' := 66) at_64 rfl rfl ?_
      refine w_iload X39 (pc' := 68) at_66 rfl rfl ?_
      refine w_iload X39 (pc' := 70) at_68 rfl rfl ?_
      refine w_staticV X39 (pc' := 73) at_70 (rm_ex4_x hw (h0 := h29) (sd_size X39) f11 (p1.toUInt32.toUInt16.toUInt32.toInt32) (p2.toUInt32.toUInt16.toUInt32.toInt32) (p3.toUInt32.toUInt16.toUInt32.toInt32) (p4.toUInt32.toUInt16.toUInt32.toInt32) hx) (hw _ (List.mem_of_getElem? (i := 41) rfl)) (hw _ (List.mem_of_getElem? (i := 42) rfl)) (hw _ (List.mem_of_getElem? (i := 2) rfl)) (hw _ (List.mem_of_getElem? (i := 43) rfl)) (by decide) [(.int (4 : Int32)), (.int f11), (.int (p1.toUInt32.toUInt16.toUInt32.toInt32)), (.int (p2.toUInt32.toUInt16.toUInt32.toInt32)), (.int (p3.toUInt32.toUInt16.toUInt32.toInt32)), (.int (p4.toUInt32.toUInt16.toUInt32.toInt32))] [(.int (0 : Int32))] pd_8 rfl rfl rfl rfl 1 (Nat.le_refl _) (by decide) (by decide) (by decide) (by decide) rfl fun T40 h40 v40 X40 q40 => ?_
      obtain ⟨rfl, rfl⟩ := q40
      refine w_icmp_ne X40 80 76 at_73 (by decide) rfl rfl (fun hc73 => by exfalso; revert hc73; decide) (fun hc73 => ?_)
      refine w_iconst X40 (pc' := 77) (1 : Int32) at_76 rfl rfl ?_
      refine w_goto X40 (pc' := 81) at_77 (by decide) rfl ?_
      exact w_zreturnW X40 F0_30 (own_hEL hw) at_81 rfl (by decide) (by decide)
theorem own_eqI {a : Term} {k : Int32} {args : Array Value} {s : State} (h : (Jvm.Cond.eq a (.int k)).value args s none s [] = some true) : a.eval args s none [] s = some (.int k) := by
  cases ha : a.eval args s none [] s with
  | none => simp [Cond.value, ha] at h
  | some x => cases x <;> simp [Cond.value, ha, Term.eval] at h; subst h; rfl
theorem own_isR {a : Term} {args : Array Value} {s : State} (h : (Jvm.Cond.isRef a).value args s none s [] = some true) : ∃ v, a.eval args s none [] s = some v ∧ v.isRef = true := by
  cases ha : a.eval args s none [] s with
  | none => simp [Cond.value, ha] at h
  | some x => refine ⟨x, rfl, ?_⟩; cases x <;> first | rfl | (simp [Cond.value, ha] at h)
set_option maxRecDepth 65536 in
set_option maxHeartbeats 40000000 in
theorem comes_1 {Post : Tables → Env → Array Value → State → Outcome → State → Prop} (hpost : ∀ tb e args s v u, (limb_1_1.after args s (.returned v) u = true ∧ limb_1_2.after args s (.returned v) u = true ∧ True) → FramedW s (.returned v) u (Jvm.fieldLocs frame_1_writes args s ++ Jvm.arrayLocs frame_1_arrays args s ++ Jvm.staticLocs frame_1_statics s) 24 1152 → Post tb e args s (.returned v) u) :
    ArmFor flags0 classFile x code maxLocals ret World_1 tables_1 room_1 Calls_1 rest_1 Pre_1 Post := by
  intro l hfl _ _ p e ha hc hk s m args below hf hA hF happ hP
  obtain ⟨hcalls, hrest, hpre⟩ := hP
  obtain ⟨-, -, -, hnamed, -, -, -, hat⟩ := (Spec.applies_iff hf).mp happ
  obtain ⟨hg, hn⟩ := and_e (Cond.before_iff.mp (show (Jvm.Cond.and given_1 narrow_1).before args s = true from hpre))
  obtain ⟨hcount, k0⟩ := and_e hg
  obtain ⟨ka0, k1⟩ := and_e k0
  obtain ⟨ka1, k2⟩ := and_e k1
  obtain ⟨ka2, k3⟩ := and_e k2
  obtain ⟨ka3, k4⟩ := and_e k3
  obtain ⟨ka4, k5⟩ := and_e k4
  obtain ⟨w0, w1, w2, w3, w4, w5, rfl⟩ : ∃ w0 w1 w2 w3 w4 w5 : Value, args = #[w0, w1, w2, w3, w4, w5] := by
    have hs : args.size = 6 := by simpa [Cond.value, given_1] using hcount
    obtain ⟨L⟩ := args
    match L, hs with
    | [w0, w1, w2, w3, w4, w5], _ => exact ⟨w0, w1, w2, w3, w4, w5, rfl⟩
  have hw := fun d (hd : d ∈ tables_1) => atoms_spec (ws := Jvm.Cond.code x code maxLocals ret :: tables_1) hat d (List.mem_cons_of_mem _ hd)
  have hfit : Fit s := fun {y c} hc i hi => by
    obtain ⟨ha, rfl⟩ := Array.getElem?_eq_some_iff.mp hc
    have q := List.all_eq_true.mp ((Array.all_eq_true_iff_forall_mem.mp hF) _ (Array.getElem_mem ha)) i (List.mem_range.mpr hi)
    simpa [Array.getElem?_eq_getElem hi] using q
  obtain ⟨hsets, hown0⟩ := atoms_of _ (rest_1_c_eq ▸ (show rest_1_c.before _ s = true from hrest))
  have hr0 := Cond.before_iff.mp hown0
  obtain ⟨i0, ei0⟩ := is_v ka0
  obtain rfl : w0 = (.int i0) := Option.some.inj ei0
  obtain ⟨i1, ei1⟩ := is_v ka1
  obtain rfl : w1 = (.int i1) := Option.some.inj ei1
  obtain ⟨i2, ei2⟩ := is_v ka2
  obtain rfl : w2 = (.int i2) := Option.some.inj ei2
  obtain ⟨i3, ei3⟩ := is_v ka3
  obtain rfl : w3 = (.int i3) := Option.some.inj ei3
  obtain ⟨i4, ei4⟩ := is_v ka4
  obtain rfl : w4 = (.int i4) := Option.some.inj ei4
  obtain ⟨i5, ei5⟩ := is_v k5
  obtain rfl : w5 = (.int i5) := Option.some.inj ei5
  have z1 := Cond.before_iff.mp (hsets _ (List.mem_of_getElem? (i := 1) rfl))
  obtain ⟨zc, e_c⟩ := is_v z1
  have S_c : Sta s s.heap "java/lang/String" "COMPACT_STRINGS" "Z" (.int zc) := Sta.start e_c (Or.inl (hsets _ (List.mem_of_getElem? (i := 0) rfl)))
  have z2 := not_v (Cond.before_iff.mp (hsets _ (List.mem_of_getElem? (i := 2) rfl)))
  have hzc : ¬ zc = (0 : Int32) := fun q => by
    have t := eq_i e_c (Term.int_eval (0 : Int32)) (by rw [q])
    rw [t] at z2; cases z2
  obtain ⟨fm, e_f, hfm⟩ := own_isR (Cond.before_iff.mp (hsets _ (List.mem_of_getElem? (i := 8) rfl)))
  have S_f : Sta s s.heap "jdk/internal/util/Preconditions" "SIOOBE_FORMATTER" "Ljava/util/function/BiFunction;" fm := Sta.start e_f (Or.inl (hsets _ (List.mem_of_getElem? (i := 7) rfl)))
  have S_a : Sta s s.heap "java/lang/StringUTF16" "$assertionsDisabled" "Z" (.int 1) := Sta.start (own_eqI (Cond.before_iff.mp (hsets _ (List.mem_of_getElem? (i := 12) rfl)))) (Or.inl (hsets _ (List.mem_of_getElem? (i := 11) rfl)))
  have S_h : Sta s s.heap "java/lang/StringUTF16" "HI_BYTE_SHIFT" "I" (.int 0) := Sta.start (own_eqI (Cond.before_iff.mp (hsets _ (List.mem_of_getElem? (i := 15) rfl)))) (Or.inl (hsets _ (List.mem_of_getElem? (i := 14) rfl)))
  have S_l : Sta s s.heap "java/lang/StringUTF16" "LO_BYTE_SHIFT" "I" (.int 8) := Sta.start (own_eqI (Cond.before_iff.mp (hsets _ (List.mem_of_getElem? (i := 18) rfl)))) (Or.inl (hsets _ (List.mem_of_getElem? (i := 17) rfl)))
  have hC : CHv s own_EL s.vm s.heap := CHv.start (own_hEL hw) (fun p hp => hcalls.1 p hp) (hsets _ (List.mem_of_getElem? (i := 2) rfl)) (hw _ (List.mem_of_getElem? (i := 19) rfl)) (hw _ (List.mem_of_getElem? (i := 5) rfl))
  obtain ⟨n, o, h1, h2, h3, _, L, rfl, ⟨N, _, rfl, rfl⟩, -, hq⟩ := rm0 (l := l) hw (Nat.le_refl s.heap.size) i0 i1 i2 i3 i4 i5 (Nat.le_refl _) S_c hzc S_f hfm S_a S_h S_l tables_1 p e ha hc hk s m _ below hf ((Spec.applies_iff_loose hf).mp happ).1 ⟨rfl, State.Warmed39.refl s, rfl, hC⟩ trivial
  exact ⟨n, _, h1, h2, h3, hpost _ _ _ _ _ _ ⟨Cond.after_iff.mpr rfl, Cond.after_iff.mpr (eq_i res_at (Term.int_eval (1)) rfl), trivial⟩ ⟨hq.1, hq.2.1, hq.2.2.1, (hq.2.2.2.sift fun y hy => Or.inr (N y hy)).mono (by decide) (by decide)⟩⟩
theorem main_1_1 : Claimed_1_1 := comes_1 fun _ _ _ _ _ _ h hF => ⟨h.1, hF⟩
theorem main_1_2 : Claimed_1_2 := comes_1 fun _ _ _ _ _ _ h hF => ⟨h.2.1, hF⟩
end Jvm.Pilot.@@N@@
namespace Jvm.Pilot.@@N@@
open Jvm Jvm.ClassFile Sem Op Lib Jvm.Free Jvm.Stand Jvm.Pilot.@@N@@.Jvm.D
/-! MADE BY PROGRAM (witnessworld.py) out of the Statement's table words and the real class files: 20 classes; the members and pool entries that the words name. The judged class is class 1, her method 1. -/
namespace start1
open Jvm.ClassFile
def u (s : String) : CpInfo := .utf8 (stringToUtf16 s)
/-- a pool by its gaps: so many unusable entries, then the entry; so many at the end -/
def gap : Nat → List CpInfo → List CpInfo
  | 0, r => r
  | n + 1, r => .unusable :: gap n r
def poolList (es : List (Nat × CpInfo)) (last : Nat) : List CpInfo := es.foldr (fun e r => gap e.1 (e.2 :: r)) (gap last [])
def pool (es : List (Nat × CpInfo)) (last : Nat) : Array CpInfo := ⟨poolList es last⟩
def fileOf (pool : Array CpInfo) (this : Nat) (attrs : Array Attribute := #[]) (ms : Array MethodInfo := #[]) (fl : Nat := 33) (sup : Nat := 0) (ifs : Array Nat := #[]) (fds : Array FieldInfo := #[]) : ClassFile where
  minorVersion := 0
  majorVersion := 65
  constantPool := pool
  accessFlags := fl
  thisClass := this
  superClass := sup
  interfaces := ifs
  fields := fds
  methods := ms
  attributes := attrs
def plain (name : String) (sup : Option ClassId) : Class where
  name := name
  kind := .ordinary
  loader := none
  accessFlags := 33
  super := sup
  interfaces := #[]
  cf := none
  fields := #[]
  methods := #[]
  instanceTypes := #[]
  staticTypes := #[]
  resolved := #[]
  callSites := []
  init := .initialized
  statics := none
  mirror := none

def pool0 : Array CpInfo := pool [(5, u "<init>"), (0, u "()V"), (1, .class_ 10), (1, u "java/lang/Object")] 113

def k0c0 : Code := { maxStack := 0, maxLocals := 1, code := object_method_1_code, exceptionTable := #[], attributes := #[] }
def k0m0 : Method := { name := "<init>", desc := "()V", sig := { parameters := [], returnType := none }, accessFlags := 1, code := some k0c0 }
/-- java/lang/Object -/
def k0 : Class := { plain "java/lang/Object" none with
  accessFlags := 33
  interfaces := #[]
  cf := some (fileOf pool0 8 #[] #[{ accessFlags := 1, nameIndex := 5, descriptorIndex := 6, attributes := #[] }] 33 0 #[] #[])
  fields := #[]
  methods := #[k0m0]
  instanceTypes := #[]
  staticTypes := #[]
  resolved := Array.replicate 124 none
  statics := none }

def pool1 : Array CpInfo := pool [(2, .class_ 4), (1, u "java/lang/Object"), (0, u "<init>"), (0, u "()V"), (0, .methodref 8 9), (0, .class_ 10), (0, .nameAndType 11 12), (0, u "com/example/admitwire/admitwire/core/TimestampDigitsPinLaw"), (0, u "make"), (0, u "(ICCCC)Ljava/lang/String;"), (0, .methodref 14 15), (0, .class_ 16), (0, .nameAndType 17 18), (0, u "com/example/admitwire/admitwire/core/Timestamp"), (0, u "digits"), (0, u "(Ljava/lang/String;I)I"), (0, .methodref 8 20), (0, .nameAndType 21 22), (0, u "expected"), (0, u "(IICCCC)I"), (0, .class_ 24), (0, u "java/lang/String"), (0, .methodref 23 26), (0, .nameAndType 5 27), (0, u "([C)V"), (0, .methodref 8 29), (0, .nameAndType 30 31), (0, u "digitAt"), (0, u "(IICCCC)Z"), (2, u "law"), (0, u "(IIIIII)Z")] 3

def k1m0 : Method := { name := "<init>", desc := "()V", sig := { parameters := [], returnType := none }, accessFlags := 1, code := none }
def k1c1 : Code := { maxStack := 7, maxLocals := 14, code := code, exceptionTable := #[], attributes := #[] }
def k1m1 : Method := { name := "law", desc := "(IIIIII)Z", sig := { parameters := [.int, .int, .int, .int, .int, .int], returnType := some .boolean }, accessFlags := 9, code := some k1c1 }
def k1c2 : Code := { maxStack := 6, maxLocals := 5, code := method_3_code, exceptionTable := #[], attributes := #[] }
def k1m2 : Method := { name := "make", desc := "(ICCCC)Ljava/lang/String;", sig := { parameters := [.int, .char, .char, .char, .char], returnType := some (.object "java/lang/String") }, accessFlags := 10, code := some k1c2 }
def k1c3 : Code := { maxStack := 2, maxLocals := 7, code := method_4_code, exceptionTable := #[], attributes := #[] }
def k1m3 : Method := { name := "digitAt", desc := "(IICCCC)Z", sig := { parameters := [.int, .int, .char, .char, .char, .char], returnType := some .boolean }, accessFlags := 10, code := some k1c3 }
def k1c4 : Code := { maxStack := 6, maxLocals := 6, code := method_5_code, exceptionTable := #[], attributes := #[] }
def k1m4 : Method := { name := "expected", desc := "(IICCCC)I", sig := { parameters := [.int, .int, .char, .char, .char, .char], returnType := some .int }, accessFlags := 10, code := some k1c4 }
/-- com/example/admitwire/admitwire/core/TimestampDigitsPinLaw -/
def k1 : Class := { plain "com/example/admitwire/admitwire/core/TimestampDigitsPinLaw" (some 0) with
  accessFlags := 49
  interfaces := #[]
  cf := some (fileOf pool1 8 #[] #[{ accessFlags := 1, nameIndex := 5, descriptorIndex := 6, attributes := #[] }, { accessFlags := 9, nameIndex := 34, descriptorIndex := 35, attributes := #[] }, { accessFlags := 10, nameIndex := 11, descriptorIndex := 12, attributes := #[] }, { accessFlags := 10, nameIndex := 30, descriptorIndex := 31, attributes := #[] }, { accessFlags := 10, nameIndex := 21, descriptorIndex := 22, attributes := #[] }] 49 2 #[] #[])
  fields := #[]
  methods := #[k1m0, k1m1, k1m2, k1m3, k1m4]
  instanceTypes := #[]
  staticTypes := #[]
  resolved := Array.replicate 39 none
  statics := none }

def pool2 : Array CpInfo := pool [(1, .class_ 2), (0, u "java/io/Serializable"), (0, .class_ 4), (0, u "java/lang/Object")] 2

/-- java/io/Serializable -/
def k2 : Class := { plain "java/io/Serializable" (some 0) with
  accessFlags := 1537
  interfaces := #[]
  cf := some (fileOf pool2 1 #[] #[] 1537 3 #[] #[])
  fields := #[]
  methods := #[]
  instanceTypes := #[]
  staticTypes := #[]
  resolved := Array.replicate 7 none
  statics := none }

def pool3 : Array CpInfo := pool [(1, .class_ 2), (0, u "java/lang/Comparable"), (0, .class_ 4), (0, u "java/lang/Object")] 7

/-- java/lang/Comparable -/
def k3 : Class := { plain "java/lang/Comparable" (some 0) with
  accessFlags := 1537
  interfaces := #[]
  cf := some (fileOf pool3 1 #[] #[] 1537 3 #[] #[])
  fields := #[]
  methods := #[]
  instanceTypes := #[]
  staticTypes := #[]
  resolved := Array.replicate 12 none
  statics := none }

def pool4 : Array CpInfo := pool [(2, .class_ 4), (1, u "java/lang/CharSequence"), (42, .class_ 48), (0, u "java/lang/CharSequence$1CodePointIterator"), (10, .class_ 60), (0, u "java/lang/CharSequence$1CharIterator"), (5, .class_ 67), (0, u "java/lang/Object")] 63

/-- java/lang/CharSequence -/
def k4 : Class := { plain "java/lang/CharSequence" (some 0) with
  accessFlags := 1537
  interfaces := #[]
  cf := some (fileOf pool4 2 #[.nestMembers #[47, 59]] #[] 1537 66 #[] #[])
  fields := #[]
  methods := #[]
  instanceTypes := #[]
  staticTypes := #[]
  resolved := Array.replicate 131 none
  statics := none }

def pool5 : Array CpInfo := pool [(1, .class_ 2), (0, u "java/lang/constant/Constable"), (0, .class_ 4), (0, u "java/lang/Object")] 6

/-- java/lang/constant/Constable -/
def k5 : Class := { plain "java/lang/constant/Constable" (some 0) with
  accessFlags := 1537
  interfaces := #[]
  cf := some (fileOf pool5 1 #[] #[] 1537 3 #[] #[])
  fields := #[]
  methods := #[]
  instanceTypes := #[]
  staticTypes := #[]
  resolved := Array.replicate 11 none
  statics := none }

def pool6 : Array CpInfo := pool [(1, .class_ 2), (0, u "java/lang/constant/ConstantDesc"), (0, .class_ 4), (0, u "java/lang/Object")] 32

/-- java/lang/constant/ConstantDesc -/
def k6 : Class := { plain "java/lang/constant/ConstantDesc" (some 0) with
  accessFlags := 1537
  interfaces := #[]
  cf := some (fileOf pool6 1 #[] #[] 1537 3 #[] #[])
  fields := #[]
  methods := #[]
  instanceTypes := #[]
  staticTypes := #[]
  resolved := Array.replicate 37 none
  statics := none }

def pool7 : Array CpInfo := pool [(1, .methodref 2 3), (0, .class_ 4), (0, .nameAndType 5 6), (0, u "java/lang/Object"), (0, u "<init>"), (0, u "()V"), (0, .string 8), (0, u ""), (0, .fieldref 10 11), (0, .class_ 12), (0, .nameAndType 13 14), (0, u "java/lang/String"), (0, u "value"), (0, u "[B"), (0, .fieldref 10 16), (0, .nameAndType 17 18), (0, u "coder"), (0, u "B"), (2, u "hash"), (0, u "I"), (2, u "hashIsZero"), (0, u "Z"), (0, .methodref 10 28), (0, .nameAndType 5 29), (0, u "([CIILjava/lang/Void;)V"), (8, .fieldref 10 39), (0, .nameAndType 40 26), (0, u "COMPACT_STRINGS"), (1, .class_ 44), (1, u "java/lang/StringUTF16"), (0, u "compress"), (1, .methodref 42 48), (0, .nameAndType 49 50), (0, u "coderFromArrayLen"), (0, u "([BI)B"), (56, .class_ 109), (1, u "java/lang/StringLatin1"), (32, u "()Z"), (34, .methodref 42 178), (0, .nameAndType 45 179), (0, u "([CII)[B"), (154, u "()I"), (0, .methodref 10 336), (0, .nameAndType 17 337), (0, u "()B"), (25, u "([BI)C"), (27, u "(II)V"), (35, u "(I)C"), (64, .methodref 10 493), (0, .nameAndType 494 142), (0, u "isLatin1"), (0, .methodref 107 496), (0, .nameAndType 497 363), (0, u "charAt"), (0, .methodref 42 496), (2, u "checkIndex"), (5, u "length"), (67, .class_ 576), (0, u "java/lang/CharSequence"), (22, u "CASE_INSENSITIVE_ORDER"), (0, u "Ljava/util/Comparator;"), (409, u "([C)V"), (42, .fieldref 1054 1055), (0, .class_ 1056), (0, .nameAndType 1057 1058), (0, u "jdk/internal/util/Preconditions"), (0, u "SIOOBE_FORMATTER"), (0, u "Ljava/util/function/BiFunction;"), (0, .methodref 1054 1060), (0, .nameAndType 501 1061), (0, u "(IILjava/util/function/BiFunction;)I"), (39, u "serialPersistentFields"), (0, u "[Ljava/io/ObjectStreamField;"), (0, .class_ 1104), (0, u "java/lang/String$CaseInsensitiveComparator"), (1, .class_ 1107), (0, u "java/io/Serializable"), (0, .class_ 1109), (0, u "java/lang/Comparable"), (0, .class_ 1111), (0, u "java/lang/constant/Constable"), (0, .class_ 1113), (0, u "java/lang/constant/ConstantDesc"), (2, u "serialVersionUID"), (0, u "J"), (3, u "REPL"), (0, u "C"), (2, u "LATIN1"), (1, u "UTF16")] 323

def k7m0 : Method := { name := "<init>", desc := "()V", sig := { parameters := [], returnType := none }, accessFlags := 1, code := none }
def k7c1 : Code := { maxStack := 5, maxLocals := 2, code := jdk_42_method_3_code, exceptionTable := #[], attributes := #[] }
def k7m1 : Method := { name := "<init>", desc := "([C)V", sig := { parameters := [(.array .char)], returnType := none }, accessFlags := 1, code := some k7c1 }
def k7c2 : Code := { maxStack := 2, maxLocals := 1, code := jdk_42_method_54_code, exceptionTable := #[], attributes := #[] }
def k7m2 : Method := { name := "length", desc := "()I", sig := { parameters := [], returnType := some .int }, accessFlags := 1, code := some k7c2 }
def k7c3 : Code := { maxStack := 2, maxLocals := 2, code := jdk_42_method_56_code, exceptionTable := #[], attributes := #[] }
def k7m3 : Method := { name := "charAt", desc := "(I)C", sig := { parameters := [.int], returnType := some .char }, accessFlags := 1, code := some k7c3 }
def k7c4 : Code := { maxStack := 4, maxLocals := 6, code := jdk_42_method_149_code, exceptionTable := #[], attributes := #[] }
def k7m4 : Method := { name := "<init>", desc := "([CIILjava/lang/Void;)V", sig := { parameters := [(.array .char), .int, .int, (.object "java/lang/Void")], returnType := none }, accessFlags := 2, code := some k7c4 }
def k7c5 : Code := { maxStack := 1, maxLocals := 1, code := jdk_42_method_152_code, exceptionTable := #[], attributes := #[] }
def k7m5 : Method := { name := "coder", desc := "()B", sig := { parameters := [], returnType := some .byte }, accessFlags := 0, code := some k7c5 }
def k7c6 : Code := { maxStack := 1, maxLocals := 1, code := jdk_42_method_154_code, exceptionTable := #[], attributes := #[] }
def k7m6 : Method := { name := "isLatin1", desc := "()Z", sig := { parameters := [], returnType := some .boolean }, accessFlags := 0, code := some k7c6 }
def k7c7 : Code := { maxStack := 3, maxLocals := 2, code := jdk_42_method_155_code, exceptionTable := #[], attributes := #[] }
def k7m7 : Method := { name := "checkIndex", desc := "(II)V", sig := { parameters := [.int, .int], returnType := none }, accessFlags := 8, code := some k7c7 }
/-- java/lang/String -/
def k7 : Class := { plain "java/lang/String" (some 0) with
  accessFlags := 49
  interfaces := #[2, 3, 4, 5, 6]
  cf := some (fileOf pool7 10 #[.nestMembers #[1103]] #[{ accessFlags := 1, nameIndex := 5, descriptorIndex := 6, attributes := #[] }, { accessFlags := 1, nameIndex := 5, descriptorIndex := 1010, attributes := #[] }, { accessFlags := 1, nameIndex := 507, descriptorIndex := 334, attributes := #[] }, { accessFlags := 1, nameIndex := 497, descriptorIndex := 427, attributes := #[] }, { accessFlags := 2, nameIndex := 5, descriptorIndex := 29, attributes := #[] }, { accessFlags := 0, nameIndex := 17, descriptorIndex := 337, attributes := #[] }, { accessFlags := 0, nameIndex := 494, descriptorIndex := 142, attributes := #[] }, { accessFlags := 8, nameIndex := 501, descriptorIndex := 391, attributes := #[] }] 49 2 #[1106, 1108, 575, 1110, 1112] #[{ accessFlags := 18, nameIndex := 13, descriptorIndex := 14, attributes := #[] }, { accessFlags := 18, nameIndex := 17, descriptorIndex := 18, attributes := #[] }, { accessFlags := 2, nameIndex := 21, descriptorIndex := 22, attributes := #[] }, { accessFlags := 2, nameIndex := 25, descriptorIndex := 26, attributes := #[] }, { accessFlags := 26, nameIndex := 1116, descriptorIndex := 1117, attributes := #[] }, { accessFlags := 24, nameIndex := 40, descriptorIndex := 26, attributes := #[] }, { accessFlags := 26, nameIndex := 1101, descriptorIndex := 1102, attributes := #[] }, { accessFlags := 26, nameIndex := 1121, descriptorIndex := 1122, attributes := #[] }, { accessFlags := 25, nameIndex := 599, descriptorIndex := 600, attributes := #[] }, { accessFlags := 24, nameIndex := 1125, descriptorIndex := 18, attributes := #[] }, { accessFlags := 24, nameIndex := 1127, descriptorIndex := 18, attributes := #[] }])
  fields := #[{ name := "value", type := (.array .byte), accessFlags := 18, slot := 0, constantValue := 0 }, { name := "coder", type := .byte, accessFlags := 18, slot := 1, constantValue := 0 }, { name := "hash", type := .int, accessFlags := 2, slot := 2, constantValue := 0 }, { name := "hashIsZero", type := .boolean, accessFlags := 2, slot := 3, constantValue := 0 }, { name := "serialVersionUID", type := .long, accessFlags := 26, slot := 0, constantValue := 0 }, { name := "COMPACT_STRINGS", type := .boolean, accessFlags := 24, slot := 1, constantValue := 0 }, { name := "serialPersistentFields", type := (.array (.object "java/io/ObjectStreamField")), accessFlags := 26, slot := 2, constantValue := 0 }, { name := "REPL", type := .char, accessFlags := 26, slot := 3, constantValue := 0 }, { name := "CASE_INSENSITIVE_ORDER", type := (.object "java/util/Comparator"), accessFlags := 25, slot := 4, constantValue := 0 }, { name := "LATIN1", type := .byte, accessFlags := 24, slot := 5, constantValue := 0 }, { name := "UTF16", type := .byte, accessFlags := 24, slot := 6, constantValue := 0 }]
  methods := #[k7m0, k7m1, k7m2, k7m3, k7m4, k7m5, k7m6, k7m7]
  instanceTypes := #[(.array .byte), .byte, .int, .boolean]
  staticTypes := #[.long, .boolean, (.array (.object "java/io/ObjectStreamField")), .char, (.object "java/util/Comparator"), .byte, .byte]
  resolved := Array.replicate 1451 none
  statics := some 0 }

def pool8 : Array CpInfo := pool [(1, .class_ 2), (0, u "com/example/admitwire/admitwire/core/Timestamp"), (1, .class_ 6), (1, u "java/lang/Object"), (4, u "local"), (0, u "Ljava/time/LocalDateTime;"), (2, u "precision"), (0, u "Ljava/time/temporal/ChronoUnit;"), (2, u "offset"), (0, u "Ljava/lang/String;"), (16, .methodref 38 39), (0, .class_ 40), (0, .nameAndType 41 42), (0, u "java/lang/String"), (0, u "length"), (0, u "()I"), (2, u "digits"), (0, u "(Ljava/lang/String;I)I"), (8, .methodref 38 56), (0, .nameAndType 57 58), (0, u "charAt"), (0, u "(I)C"), (6, u "NANOS_PER_FRACTION"), (0, u "[I"), (16, u "PRECISIONS"), (0, u "Ljava/util/List;"), (74, u "YEAR"), (0, u "I"), (2, u "MONTH"), (0, u "DAY"), (1, u "HOUR"), (1, u "MINUTE"), (1, u "SECOND"), (1, u "LAST_MONTH"), (0, u "LAST_HOUR"), (1, u "LAST_MINUTE"), (1, u "FRACTION"), (0, u "C"), (1, u "FRACTION_DIGITS"), (0, u "OFFSET_LENGTH"), (1, u "LONGEST")] 39

def k8c0 : Code := { maxStack := 2, maxLocals := 3, code := prog_53_method_11_code, exceptionTable := #[], attributes := #[] }
def k8m0 : Method := { name := "digits", desc := "(Ljava/lang/String;I)I", sig := { parameters := [(.object "java/lang/String"), .int], returnType := some .int }, accessFlags := 8, code := some k8c0 }
/-- com/example/admitwire/admitwire/core/Timestamp -/
def k8 : Class := { plain "com/example/admitwire/admitwire/core/Timestamp" (some 0) with
  accessFlags := 49
  interfaces := #[]
  cf := some (fileOf pool8 1 #[] #[{ accessFlags := 8, nameIndex := 45, descriptorIndex := 46, attributes := #[] }] 49 4 #[] #[{ accessFlags := 26, nameIndex := 83, descriptorIndex := 84, attributes := #[] }, { accessFlags := 26, nameIndex := 159, descriptorIndex := 160, attributes := #[] }, { accessFlags := 26, nameIndex := 163, descriptorIndex := 160, attributes := #[] }, { accessFlags := 26, nameIndex := 164, descriptorIndex := 160, attributes := #[] }, { accessFlags := 26, nameIndex := 166, descriptorIndex := 160, attributes := #[] }, { accessFlags := 26, nameIndex := 168, descriptorIndex := 160, attributes := #[] }, { accessFlags := 26, nameIndex := 170, descriptorIndex := 160, attributes := #[] }, { accessFlags := 26, nameIndex := 172, descriptorIndex := 160, attributes := #[] }, { accessFlags := 26, nameIndex := 173, descriptorIndex := 160, attributes := #[] }, { accessFlags := 26, nameIndex := 175, descriptorIndex := 160, attributes := #[] }, { accessFlags := 26, nameIndex := 177, descriptorIndex := 178, attributes := #[] }, { accessFlags := 26, nameIndex := 180, descriptorIndex := 160, attributes := #[] }, { accessFlags := 26, nameIndex := 65, descriptorIndex := 66, attributes := #[] }, { accessFlags := 26, nameIndex := 181, descriptorIndex := 160, attributes := #[] }, { accessFlags := 24, nameIndex := 183, descriptorIndex := 160, attributes := #[] }, { accessFlags := 18, nameIndex := 11, descriptorIndex := 12, attributes := #[] }, { accessFlags := 18, nameIndex := 15, descriptorIndex := 16, attributes := #[] }, { accessFlags := 18, nameIndex := 19, descriptorIndex := 20, attributes := #[] }])
  fields := #[{ name := "PRECISIONS", type := (.object "java/util/List"), accessFlags := 26, slot := 0, constantValue := 0 }, { name := "YEAR", type := .int, accessFlags := 26, slot := 1, constantValue := 0 }, { name := "MONTH", type := .int, accessFlags := 26, slot := 2, constantValue := 0 }, { name := "DAY", type := .int, accessFlags := 26, slot := 3, constantValue := 0 }, { name := "HOUR", type := .int, accessFlags := 26, slot := 4, constantValue := 0 }, { name := "MINUTE", type := .int, accessFlags := 26, slot := 5, constantValue := 0 }, { name := "SECOND", type := .int, accessFlags := 26, slot := 6, constantValue := 0 }, { name := "LAST_MONTH", type := .int, accessFlags := 26, slot := 7, constantValue := 0 }, { name := "LAST_HOUR", type := .int, accessFlags := 26, slot := 8, constantValue := 0 }, { name := "LAST_MINUTE", type := .int, accessFlags := 26, slot := 9, constantValue := 0 }, { name := "FRACTION", type := .char, accessFlags := 26, slot := 10, constantValue := 0 }, { name := "FRACTION_DIGITS", type := .int, accessFlags := 26, slot := 11, constantValue := 0 }, { name := "NANOS_PER_FRACTION", type := (.array .int), accessFlags := 26, slot := 12, constantValue := 0 }, { name := "OFFSET_LENGTH", type := .int, accessFlags := 26, slot := 13, constantValue := 0 }, { name := "LONGEST", type := .int, accessFlags := 24, slot := 14, constantValue := 0 }, { name := "local", type := (.object "java/time/LocalDateTime"), accessFlags := 18, slot := 0, constantValue := 0 }, { name := "precision", type := (.object "java/time/temporal/ChronoUnit"), accessFlags := 18, slot := 1, constantValue := 0 }, { name := "offset", type := (.object "java/lang/String"), accessFlags := 18, slot := 2, constantValue := 0 }]
  methods := #[k8m0]
  instanceTypes := #[(.object "java/time/LocalDateTime"), (.object "java/time/temporal/ChronoUnit"), (.object "java/lang/String")]
  staticTypes := #[(.object "java/util/List"), .int, .int, .int, .int, .int, .int, .int, .int, .int, .char, .int, (.array .int), .int, .int]
  resolved := Array.replicate 223 none
  statics := none }

def pool9 : Array CpInfo := pool [(3, .class_ 4), (0, u "java/lang/String"), (1, .class_ 8), (1, u "java/lang/Object"), (0, u "<init>"), (0, u "()V"), (0, .methodref 12 13), (0, .class_ 14), (0, .nameAndType 15 16), (0, u "java/lang/StringUTF16"), (0, u "newBytesLength"), (0, u "(I)I"), (3, .integer 1073741823), (23, .fieldref 12 45), (0, .nameAndType 46 47), (0, u "$assertionsDisabled"), (0, u "Z"), (0, .methodref 12 49), (0, .nameAndType 50 51), (0, u "length"), (0, u "([B)I"), (7, .fieldref 12 60), (0, .nameAndType 61 62), (0, u "HI_BYTE_SHIFT"), (0, u "I"), (0, .fieldref 12 64), (0, .nameAndType 65 62), (0, u "LO_BYTE_SHIFT"), (1, .methodref 12 68), (0, .nameAndType 69 70), (0, u "checkIndex"), (0, u "(I[B)V"), (0, .methodref 12 72), (0, .nameAndType 73 74), (0, u "getChar"), (0, u "([BI)C"), (32, .methodref 12 108), (0, .nameAndType 109 110), (0, u "newBytesFor"), (0, u "(I)[B"), (0, .methodref 12 112), (0, .nameAndType 113 114), (0, u "putChar"), (0, u "([BII)V"), (0, .methodref 12 116), (0, .nameAndType 117 118), (0, u "compress"), (0, u "([CI[BII)I"), (0, .methodref 12 120), (0, .nameAndType 121 122), (0, u "toBytes"), (0, u "([CII)[B"), (138, u "coderFromArrayLen"), (0, u "([BI)B"), (106, .class_ 371), (1, u "java/lang/StringUTF16$LinesSpliterator"), (20, u "charAt"), (21, .methodref 3 415), (0, .nameAndType 69 416), (0, u "(II)V"), (13, u "MAX_LENGTH"), (196, .class_ 628), (0, u "java/lang/StringUTF16$CodePointsSpliterator"), (0, .class_ 630), (0, u "java/lang/StringUTF16$CharsSpliterator")] 4

def k9m0 : Method := { name := "<init>", desc := "()V", sig := { parameters := [], returnType := none }, accessFlags := 0, code := none }
def k9c1 : Code := { maxStack := 1, maxLocals := 1, code := jdk_52_method_2_code, exceptionTable := #[], attributes := #[] }
def k9m1 : Method := { name := "newBytesFor", desc := "(I)[B", sig := { parameters := [.int], returnType := some (.array .byte) }, accessFlags := 9, code := some k9c1 }
def k9c2 : Code := { maxStack := 4, maxLocals := 1, code := jdk_52_method_3_code, exceptionTable := #[], attributes := #[] }
def k9m2 : Method := { name := "newBytesLength", desc := "(I)I", sig := { parameters := [.int], returnType := some .int }, accessFlags := 9, code := some k9c2 }
def k9c3 : Code := { maxStack := 4, maxLocals := 3, code := jdk_52_method_4_code, exceptionTable := #[], attributes := #[] }
def k9m3 : Method := { name := "putChar", desc := "([BII)V", sig := { parameters := [(.array .byte), .int, .int], returnType := none }, accessFlags := 8, code := some k9c3 }
def k9c4 : Code := { maxStack := 3, maxLocals := 2, code := jdk_52_method_5_code, exceptionTable := #[], attributes := #[] }
def k9m4 : Method := { name := "getChar", desc := "([BI)C", sig := { parameters := [(.array .byte), .int], returnType := some .char }, accessFlags := 8, code := some k9c4 }
def k9c5 : Code := { maxStack := 2, maxLocals := 1, code := jdk_52_method_6_code, exceptionTable := #[], attributes := #[] }
def k9m5 : Method := { name := "length", desc := "([B)I", sig := { parameters := [(.array .byte)], returnType := some .int }, accessFlags := 9, code := some k9c5 }
def k9c6 : Code := { maxStack := 4, maxLocals := 5, code := jdk_52_method_14_code, exceptionTable := #[], attributes := #[] }
def k9m6 : Method := { name := "toBytes", desc := "([CII)[B", sig := { parameters := [(.array .char), .int, .int], returnType := some (.array .byte) }, accessFlags := 9, code := some k9c6 }
def k9c7 : Code := { maxStack := 2, maxLocals := 2, code := jdk_52_method_15_code, exceptionTable := #[], attributes := #[] }
def k9m7 : Method := { name := "coderFromArrayLen", desc := "([BI)B", sig := { parameters := [(.array .byte), .int], returnType := some .byte }, accessFlags := 8, code := some k9c7 }
def k9c8 : Code := { maxStack := 5, maxLocals := 6, code := jdk_52_method_16_code, exceptionTable := #[], attributes := #[] }
def k9m8 : Method := { name := "compress", desc := "([CII)[B", sig := { parameters := [(.array .char), .int, .int], returnType := some (.array .byte) }, accessFlags := 9, code := some k9c8 }
def k9c9 : Code := { maxStack := 3, maxLocals := 7, code := jdk_52_method_21_code, exceptionTable := #[], attributes := #[] }
def k9m9 : Method := { name := "compress", desc := "([CI[BII)I", sig := { parameters := [(.array .char), .int, (.array .byte), .int, .int], returnType := some .int }, accessFlags := 9, code := some k9c9 }
def k9c10 : Code := { maxStack := 2, maxLocals := 2, code := jdk_52_method_83_code, exceptionTable := #[], attributes := #[] }
def k9m10 : Method := { name := "charAt", desc := "([BI)C", sig := { parameters := [(.array .byte), .int], returnType := some .char }, accessFlags := 9, code := some k9c10 }
def k9c11 : Code := { maxStack := 2, maxLocals := 2, code := jdk_52_method_91_code, exceptionTable := #[], attributes := #[] }
def k9m11 : Method := { name := "checkIndex", desc := "(I[B)V", sig := { parameters := [.int, (.array .byte)], returnType := none }, accessFlags := 9, code := some k9c11 }
/-- java/lang/StringUTF16 -/
def k9 : Class := { plain "java/lang/StringUTF16" (some 0) with
  accessFlags := 48
  interfaces := #[]
  cf := some (fileOf pool9 12 #[.nestMembers #[627, 629, 369]] #[{ accessFlags := 0, nameIndex := 9, descriptorIndex := 10, attributes := #[] }, { accessFlags := 9, nameIndex := 109, descriptorIndex := 110, attributes := #[] }, { accessFlags := 9, nameIndex := 15, descriptorIndex := 16, attributes := #[] }, { accessFlags := 8, nameIndex := 113, descriptorIndex := 114, attributes := #[] }, { accessFlags := 8, nameIndex := 73, descriptorIndex := 74, attributes := #[] }, { accessFlags := 9, nameIndex := 50, descriptorIndex := 51, attributes := #[] }, { accessFlags := 9, nameIndex := 121, descriptorIndex := 122, attributes := #[] }, { accessFlags := 8, nameIndex := 261, descriptorIndex := 262, attributes := #[] }, { accessFlags := 9, nameIndex := 117, descriptorIndex := 122, attributes := #[] }, { accessFlags := 9, nameIndex := 117, descriptorIndex := 118, attributes := #[] }, { accessFlags := 9, nameIndex := 392, descriptorIndex := 74, attributes := #[] }, { accessFlags := 9, nameIndex := 69, descriptorIndex := 70, attributes := #[] }] 48 6 #[] #[{ accessFlags := 26, nameIndex := 61, descriptorIndex := 62, attributes := #[] }, { accessFlags := 26, nameIndex := 65, descriptorIndex := 62, attributes := #[] }, { accessFlags := 24, nameIndex := 430, descriptorIndex := 62, attributes := #[] }, { accessFlags := 4120, nameIndex := 46, descriptorIndex := 47, attributes := #[] }])
  fields := #[{ name := "HI_BYTE_SHIFT", type := .int, accessFlags := 26, slot := 0, constantValue := 0 }, { name := "LO_BYTE_SHIFT", type := .int, accessFlags := 26, slot := 1, constantValue := 0 }, { name := "MAX_LENGTH", type := .int, accessFlags := 24, slot := 2, constantValue := 0 }, { name := "$assertionsDisabled", type := .boolean, accessFlags := 4120, slot := 3, constantValue := 0 }]
  methods := #[k9m0, k9m1, k9m2, k9m3, k9m4, k9m5, k9m6, k9m7, k9m8, k9m9, k9m10, k9m11]
  instanceTypes := #[]
  staticTypes := #[.int, .int, .int, .boolean]
  resolved := Array.replicate 635 none
  statics := some 1 }

def pool10 : Array CpInfo := pool [(1, .class_ 2), (0, u "java/lang/String"), (1, .class_ 6), (1, u "java/lang/Object"), (0, u "<init>"), (0, u "()V"), (0, .methodref 1 10), (0, .nameAndType 11 12), (0, u "checkIndex"), (0, u "(II)V"), (1, .class_ 16), (1, u "java/lang/StringLatin1"), (36, u "([BI)C"), (67, u "$assertionsDisabled"), (0, u "Z"), (98, .class_ 223), (1, u "java/lang/StringLatin1$LinesSpliterator"), (28, u "charAt"), (137, .class_ 391), (0, u "java/lang/StringLatin1$CharsSpliterator")] 3

def k10m0 : Method := { name := "<init>", desc := "()V", sig := { parameters := [], returnType := none }, accessFlags := 0, code := none }
def k10c1 : Code := { maxStack := 2, maxLocals := 2, code := jdk_43_method_2_code, exceptionTable := #[], attributes := #[] }
def k10m1 : Method := { name := "charAt", desc := "([BI)C", sig := { parameters := [(.array .byte), .int], returnType := some .char }, accessFlags := 9, code := some k10c1 }
/-- java/lang/StringLatin1 -/
def k10 : Class := { plain "java/lang/StringLatin1" (some 0) with
  accessFlags := 48
  interfaces := #[]
  cf := some (fileOf pool10 14 #[.nestMembers #[390, 221]] #[{ accessFlags := 0, nameIndex := 7, descriptorIndex := 8, attributes := #[] }, { accessFlags := 9, nameIndex := 252, descriptorIndex := 53, attributes := #[] }] 48 4 #[] #[{ accessFlags := 4120, nameIndex := 121, descriptorIndex := 122, attributes := #[] }])
  fields := #[{ name := "$assertionsDisabled", type := .boolean, accessFlags := 4120, slot := 0, constantValue := 0 }]
  methods := #[k10m0, k10m1]
  instanceTypes := #[]
  staticTypes := #[.boolean]
  resolved := Array.replicate 395 none
  statics := none }

def pool11 : Array CpInfo := pool [(2, .class_ 4), (1, u "java/lang/Object"), (0, u "<init>"), (0, u "()V"), (17, .class_ 26), (1, u "jdk/internal/util/Preconditions"), (6, u "checkIndex"), (21, .class_ 56), (0, u "jdk/internal/util/Preconditions$4"), (57, .class_ 115), (0, u "jdk/internal/util/Preconditions$1"), (7, u "SIOOBE_FORMATTER"), (0, u "Ljava/util/function/BiFunction;"), (0, .class_ 126), (0, u "jdk/internal/util/Preconditions$2"), (3, u "AIOOBE_FORMATTER"), (0, .class_ 132), (0, u "jdk/internal/util/Preconditions$3"), (3, u "IOOBE_FORMATTER"), (41, u "(IILjava/util/function/BiFunction;)I")] 15

def k11m0 : Method := { name := "<init>", desc := "()V", sig := { parameters := [], returnType := none }, accessFlags := 1, code := none }
def k11c1 : Code := { maxStack := 3, maxLocals := 3, code := jdk_41_method_11_code, exceptionTable := #[], attributes := #[] }
def k11m1 : Method := { name := "checkIndex", desc := "(IILjava/util/function/BiFunction;)I", sig := { parameters := [.int, .int, (.object "java/util/function/BiFunction")], returnType := some .int }, accessFlags := 9, code := some k11c1 }
/-- jdk/internal/util/Preconditions -/
def k11 : Class := { plain "jdk/internal/util/Preconditions" (some 0) with
  accessFlags := 33
  interfaces := #[]
  cf := some (fileOf pool11 24 #[.nestMembers #[55, 131, 125, 114]] #[{ accessFlags := 1, nameIndex := 5, descriptorIndex := 6, attributes := #[] }, { accessFlags := 9, nameIndex := 33, descriptorIndex := 178, attributes := #[] }] 33 2 #[] #[{ accessFlags := 25, nameIndex := 123, descriptorIndex := 124, attributes := #[] }, { accessFlags := 25, nameIndex := 130, descriptorIndex := 124, attributes := #[] }, { accessFlags := 25, nameIndex := 136, descriptorIndex := 124, attributes := #[] }])
  fields := #[{ name := "SIOOBE_FORMATTER", type := (.object "java/util/function/BiFunction"), accessFlags := 25, slot := 0, constantValue := 0 }, { name := "AIOOBE_FORMATTER", type := (.object "java/util/function/BiFunction"), accessFlags := 25, slot := 1, constantValue := 0 }, { name := "IOOBE_FORMATTER", type := (.object "java/util/function/BiFunction"), accessFlags := 25, slot := 2, constantValue := 0 }]
  methods := #[k11m0, k11m1]
  instanceTypes := #[]
  staticTypes := #[(.object "java/util/function/BiFunction"), (.object "java/util/function/BiFunction"), (.object "java/util/function/BiFunction")]
  resolved := Array.replicate 194 none
  statics := some 2 }

def pool12 : Array CpInfo := pool [(9, u "<init>"), (6, .class_ 18), (1, u "java/lang/Object"), (0, u "()V"), (1, .class_ 23), (1, u "jdk/internal/util/ArraysSupport"), (0, u "LOG2_ARRAY_LONG_INDEX_SCALE"), (0, u "I"), (2, u "U"), (0, u "Ljdk/internal/misc/Unsafe;"), (8, u "BIG_ENDIAN"), (0, u "Z"), (8, u "LOG2_BYTE_BIT_SIZE"), (4, u "LOG2_ARRAY_INT_INDEX_SCALE"), (54, u "JLA"), (0, u "Ljdk/internal/access/JavaLangAccess;"), (11, u "LOG2_ARRAY_BOOLEAN_INDEX_SCALE"), (9, u "LOG2_ARRAY_BYTE_INDEX_SCALE"), (5, u "LOG2_ARRAY_CHAR_INDEX_SCALE"), (5, u "LOG2_ARRAY_SHORT_INDEX_SCALE"), (18, u "LOG2_ARRAY_FLOAT_INDEX_SCALE"), (24, u "LOG2_ARRAY_DOUBLE_INDEX_SCALE"), (89, u "T_BOOLEAN"), (2, u "T_CHAR"), (1, u "T_FLOAT"), (1, u "T_DOUBLE"), (1, u "T_BYTE"), (1, u "T_SHORT"), (1, u "T_INT"), (1, u "T_LONG"), (1, u "SOFT_MAX_ARRAY_LENGTH")] 83

def k12m0 : Method := { name := "<init>", desc := "()V", sig := { parameters := [], returnType := none }, accessFlags := 2, code := none }
/-- jdk/internal/util/ArraysSupport -/
def k12 : Class := { plain "jdk/internal/util/ArraysSupport" (some 0) with
  accessFlags := 33
  interfaces := #[]
  cf := some (fileOf pool12 21 #[] #[{ accessFlags := 2, nameIndex := 9, descriptorIndex := 19, attributes := #[] }] 33 16 #[] #[{ accessFlags := 24, nameIndex := 28, descriptorIndex := 29, attributes := #[] }, { accessFlags := 26, nameIndex := 38, descriptorIndex := 39, attributes := #[] }, { accessFlags := 25, nameIndex := 121, descriptorIndex := 25, attributes := #[] }, { accessFlags := 25, nameIndex := 131, descriptorIndex := 25, attributes := #[] }, { accessFlags := 25, nameIndex := 137, descriptorIndex := 25, attributes := #[] }, { accessFlags := 25, nameIndex := 143, descriptorIndex := 25, attributes := #[] }, { accessFlags := 25, nameIndex := 53, descriptorIndex := 25, attributes := #[] }, { accessFlags := 25, nameIndex := 24, descriptorIndex := 25, attributes := #[] }, { accessFlags := 25, nameIndex := 162, descriptorIndex := 25, attributes := #[] }, { accessFlags := 25, nameIndex := 187, descriptorIndex := 25, attributes := #[] }, { accessFlags := 26, nameIndex := 48, descriptorIndex := 25, attributes := #[] }, { accessFlags := 25, nameIndex := 277, descriptorIndex := 25, attributes := #[] }, { accessFlags := 25, nameIndex := 280, descriptorIndex := 25, attributes := #[] }, { accessFlags := 25, nameIndex := 282, descriptorIndex := 25, attributes := #[] }, { accessFlags := 25, nameIndex := 284, descriptorIndex := 25, attributes := #[] }, { accessFlags := 25, nameIndex := 286, descriptorIndex := 25, attributes := #[] }, { accessFlags := 25, nameIndex := 288, descriptorIndex := 25, attributes := #[] }, { accessFlags := 25, nameIndex := 290, descriptorIndex := 25, attributes := #[] }, { accessFlags := 25, nameIndex := 292, descriptorIndex := 25, attributes := #[] }, { accessFlags := 26, nameIndex := 108, descriptorIndex := 109, attributes := #[] }, { accessFlags := 25, nameIndex := 294, descriptorIndex := 25, attributes := #[] }])
  fields := #[{ name := "U", type := (.object "jdk/internal/misc/Unsafe"), accessFlags := 24, slot := 0, constantValue := 0 }, { name := "BIG_ENDIAN", type := .boolean, accessFlags := 26, slot := 1, constantValue := 0 }, { name := "LOG2_ARRAY_BOOLEAN_INDEX_SCALE", type := .int, accessFlags := 25, slot := 2, constantValue := 0 }, { name := "LOG2_ARRAY_BYTE_INDEX_SCALE", type := .int, accessFlags := 25, slot := 3, constantValue := 0 }, { name := "LOG2_ARRAY_CHAR_INDEX_SCALE", type := .int, accessFlags := 25, slot := 4, constantValue := 0 }, { name := "LOG2_ARRAY_SHORT_INDEX_SCALE", type := .int, accessFlags := 25, slot := 5, constantValue := 0 }, { name := "LOG2_ARRAY_INT_INDEX_SCALE", type := .int, accessFlags := 25, slot := 6, constantValue := 0 }, { name := "LOG2_ARRAY_LONG_INDEX_SCALE", type := .int, accessFlags := 25, slot := 7, constantValue := 0 }, { name := "LOG2_ARRAY_FLOAT_INDEX_SCALE", type := .int, accessFlags := 25, slot := 8, constantValue := 0 }, { name := "LOG2_ARRAY_DOUBLE_INDEX_SCALE", type := .int, accessFlags := 25, slot := 9, constantValue := 0 }, { name := "LOG2_BYTE_BIT_SIZE", type := .int, accessFlags := 26, slot := 10, constantValue := 0 }, { name := "T_BOOLEAN", type := .int, accessFlags := 25, slot := 11, constantValue := 0 }, { name := "T_CHAR", type := .int, accessFlags := 25, slot := 12, constantValue := 0 }, { name := "T_FLOAT", type := .int, accessFlags := 25, slot := 13, constantValue := 0 }, { name := "T_DOUBLE", type := .int, accessFlags := 25, slot := 14, constantValue := 0 }, { name := "T_BYTE", type := .int, accessFlags := 25, slot := 15, constantValue := 0 }, { name := "T_SHORT", type := .int, accessFlags := 25, slot := 16, constantValue := 0 }, { name := "T_INT", type := .int, accessFlags := 25, slot := 17, constantValue := 0 }, { name := "T_LONG", type := .int, accessFlags := 25, slot := 18, constantValue := 0 }, { name := "JLA", type := (.object "jdk/internal/access/JavaLangAccess"), accessFlags := 26, slot := 19, constantValue := 0 }, { name := "SOFT_MAX_ARRAY_LENGTH", type := .int, accessFlags := 25, slot := 20, constantValue := 0 }]
  methods := #[k12m0]
  instanceTypes := #[]
  staticTypes := #[(.object "jdk/internal/misc/Unsafe"), .boolean, .int, .int, .int, .int, .int, .int, .int, .int, .int, .int, .int, .int, .int, .int, .int, .int, .int, (.object "jdk/internal/access/JavaLangAccess"), .int]
  resolved := Array.replicate 378 none
  statics := none }

def pool13 : Array CpInfo := pool [(1, u "java/lang/Cloneable"), (0, .class_ 1), (0, u "java/lang/Object"), (0, .class_ 3)] 3

/-- java/lang/Cloneable -/
def k13 : Class := { plain "java/lang/Cloneable" (some 0) with
  accessFlags := 1537
  interfaces := #[]
  cf := some (fileOf pool13 2 #[] #[] 1537 4 #[] #[])
  fields := #[]
  methods := #[]
  instanceTypes := #[]
  staticTypes := #[]
  resolved := Array.replicate 8 none
  statics := none }

/-- the primitive byte -/
def k14 : Class := { plain "byte" none with kind := .primitive 'B', accessFlags := 0x411 }
/-- [B -/
def k15 : Class := { plain "[B" (some 0) with kind := .array 14 .byte, interfaces := #[13, 2], accessFlags := 1041 }

/-- the primitive char -/
def k16 : Class := { plain "char" none with kind := .primitive 'C', accessFlags := 0x411 }
/-- [C -/
def k17 : Class := { plain "[C" (some 0) with kind := .array 16 .char, interfaces := #[13, 2], accessFlags := 1041 }

/-- the primitive int -/
def k18 : Class := { plain "int" none with kind := .primitive 'I', accessFlags := 0x411 }
/-- [I -/
def k19 : Class := { plain "[I" (some 0) with kind := .array 18 .int, interfaces := #[13, 2], accessFlags := 1041 }

def heap : Heap := #[{ cls := 7, slots := #[.long 0, .int 1, .null, .int 0, .null, .int 0, .int 0], vm := .statics 7 },
  { cls := 9, slots := #[.int 0, .int 8, .int 0, .int 1], vm := .statics 9 },
  { cls := 11, slots := #[.null, .null, .null], vm := .statics 11 }]
def classes : Array Class := #[k0, k1, k2, k3, k4, k5, k6, k7, k8, k9, k10, k11, k12, k13, k14, k15, k16, k17, k18, k19]
def interned : List (Array UInt16 × Addr) := []
def slotsUsed : Nat := 14
def theMethod : MethodId := ⟨1, 1⟩
def args0 : Array Value := #[.int 48, .int 300, .int 65, .int 9, .int 2, .int 1]
def aboutOver (below : List Frame) : State where
  vm := { classes := classes, interned := interned.toArray }
  heap := heap
  slotsUsed := slotsUsed
  threads := #[{ frames := .invoking theMethod args0 :: below }]
def below0 : List Frame := [.native { method := ⟨0, 0⟩, args := #[] }]
def about1 : State := aboutOver below0
def p0 : Program := .bare "" "" ""
def e0 : Env := launch0.env 0 0 0
theorem w_frames : about1.frames = Frame.invoking theMethod args0 :: below0 := rfl
set_option maxRecDepth 65536 in
theorem w_args : argsFit about1.vm theMethod args0 = true := by decide +kernel
set_option maxRecDepth 65536 in
theorem w_heap : heapFits about1 = true := by decide +kernel
set_option maxRecDepth 65536 in
theorem w_runnable : about1.curStatus? = some .runnable := by decide +kernel
set_option maxRecDepth 65536 in
theorem w_alone : about1.alone = true := by decide +kernel
set_option maxRecDepth 65536 in
theorem w_named : about1.methodNamed? x = some theMethod := by decide +kernel
set_option maxRecDepth 65536 in
theorem w_hears : about1.hears theMethod below0 = true := by decide +kernel
set_option maxRecDepth 65536 in
theorem w_ripe : about1.ripe theMethod args0 below0 = true := by decide +kernel
theorem w_running : about1.status = .running := rfl
set_option maxRecDepth 65536 in
theorem w_room : about1.hasRoom e0.platform room_1 = true :=
  launch0.hasRoom_least _ room_1 (by decide +kernel) (by decide +kernel) (by decide +kernel) (by decide +kernel) (by decide +kernel) (by decide +kernel)
theorem allAtoms_all (ts : List Jvm.Cond) (a : Array Jvm.Value) (st : Jvm.State) : (allAtoms ts).before a st = ts.all (fun c => c.before a st) := by
  induction ts with
  | nil => rfl
  | cons c t ih =>
    show (Jvm.Cond.and c (allAtoms t)).before a st = _
    rw [Jvm.Cond.before_and, ih, List.all_cons]
def words1 : List Jvm.Cond := Jvm.Cond.code x code maxLocals ret :: tables_1
/-- a 'code' word, met by the world's own term for the bytes: nothing is compared byte by byte -/
theorem code_word {y : MethodName} {bytes : ByteArray} {mx : Nat} {rt : Option FieldType} {a : Array Value} {s : State} {m : MethodId} {meth : Method} {c : Code} (h1 : s.methodNamed? y = some m) (h2 : s.vm.method? m = some meth) (h3 : meth.code = some c) (h4 : c.code = bytes)
    (h5 : (c.maxLocals == mx && c.exceptionTable.isEmpty && decide (c.maxStack ≤ mostOperands) && decide (meth.sig.returnType = rt) && !meth.locks && decide (parseMethodDescriptor y.desc = some meth.sig)) = true) : (Jvm.Cond.code y bytes mx rt).before a s = true := by
  simp only [Bool.and_eq_true, beq_iff_eq, Bool.not_eq_true', decide_eq_true_eq] at h5
  obtain ⟨⟨⟨⟨⟨g1, g2⟩, g3⟩, g4⟩, g5⟩, g6⟩ := h5
  simp [Cond.before, Cond.holds, Cond.value, h1, h2, h3, h4, g1, g2, g3, g4, g5, g6]
def isCode : Jvm.Cond → Bool
  | .code _ _ _ _ => true
  | _ => false
theorem all_split {L : List Jvm.Cond} {P : Jvm.Cond → Bool} (h1 : L.all (fun c => isCode c || P c) = true) (h2 : ∀ c ∈ L.filter isCode, P c = true) : L.all P = true := by
  refine List.all_eq_true.mpr fun c hc => ?_
  have h := List.all_eq_true.mp h1 c hc
  rcases Bool.eq_false_or_eq_true (isCode c) with hi | hi
  · exact h2 c (List.mem_filter.mpr ⟨hc, hi⟩)
  · simpa [hi] using h
set_option maxRecDepth 65536 in
theorem w_c0 : (Jvm.Cond.code x code maxLocals ret).before args0 about1 = true := code_word (m := ⟨1, 1⟩) (meth := k1m1) (c := k1c1) (by decide +kernel) rfl rfl rfl (by decide +kernel)
set_option maxRecDepth 65536 in
theorem w_c1 : (Jvm.Cond.code ({ cls := "com/example/admitwire/admitwire/core/TimestampDigitsPinLaw", name := "make", desc := "(ICCCC)Ljava/lang/String;" } : Jvm.MethodName) method_3_code (5 : Nat) (Option.some (Jvm.ClassFile.FieldType.object "java/lang/String"))).before args0 about1 = true := code_word (m := ⟨1, 2⟩) (meth := k1m2) (c := k1c2) (by decide +kernel) rfl rfl rfl (by decide +kernel)
set_option maxRecDepth 65536 in
theorem w_c2 : (Jvm.Cond.code ({ cls := "java/lang/String", name := "<init>", desc := "([C)V" } : Jvm.MethodName) jdk_42_method_3_code (2 : Nat) (Option.none : Option Jvm.ClassFile.FieldType)).before args0 about1 = true := code_word (m := ⟨7, 1⟩) (meth := k7m1) (c := k7c1) (by decide +kernel) rfl rfl rfl (by decide +kernel)
set_option maxRecDepth 65536 in
theorem w_c3 : (Jvm.Cond.code ({ cls := "java/lang/String", name := "<init>", desc := "([CIILjava/lang/Void;)V" } : Jvm.MethodName) jdk_42_method_149_code (6 : Nat) (Option.none : Option Jvm.ClassFile.FieldType)).before args0 about1 = true := code_word (m := ⟨7, 4⟩) (meth := k7m4) (c := k7c4) (by decide +kernel) rfl rfl rfl (by decide +kernel)
set_option maxRecDepth 65536 in
theorem w_c4 : (Jvm.Cond.code ({ cls := "java/lang/Object", name := "<init>", desc := "()V" } : Jvm.MethodName) object_method_1_code (1 : Nat) (Option.none : Option Jvm.ClassFile.FieldType)).before args0 about1 = true := code_word (m := ⟨0, 0⟩) (meth := k0m0) (c := k0c0) (by decide +kernel) rfl rfl rfl (by decide +kernel)
set_option maxRecDepth 65536 in
theorem w_c5 : (Jvm.Cond.code ({ cls := "com/example/admitwire/admitwire/core/Timestamp", name := "digits", desc := "(Ljava/lang/String;I)I" } : Jvm.MethodName) prog_53_method_11_code (3 : Nat) (Option.some Jvm.ClassFile.FieldType.int)).before args0 about1 = true := code_word (m := ⟨8, 0⟩) (meth := k8m0) (c := k8c0) (by decide +kernel) rfl rfl rfl (by decide +kernel)
set_option maxRecDepth 65536 in
theorem w_c6 : (Jvm.Cond.code ({ cls := "java/lang/String", name := "length", desc := "()I" } : Jvm.MethodName) jdk_42_method_54_code (1 : Nat) (Option.some Jvm.ClassFile.FieldType.int)).before args0 about1 = true := code_word (m := ⟨7, 2⟩) (meth := k7m2) (c := k7c2) (by decide +kernel) rfl rfl rfl (by decide +kernel)
set_option maxRecDepth 65536 in
theorem w_c7 : (Jvm.Cond.code ({ cls := "java/lang/String", name := "coder", desc := "()B" } : Jvm.MethodName) jdk_42_method_152_code (1 : Nat) (Option.some Jvm.ClassFile.FieldType.byte)).before args0 about1 = true := code_word (m := ⟨7, 5⟩) (meth := k7m5) (c := k7c5) (by decide +kernel) rfl rfl rfl (by decide +kernel)
set_option maxRecDepth 65536 in
theorem w_c8 : (Jvm.Cond.code ({ cls := "com/example/admitwire/admitwire/core/TimestampDigitsPinLaw", name := "expected", desc := "(IICCCC)I" } : Jvm.MethodName) method_5_code (6 : Nat) (Option.some Jvm.ClassFile.FieldType.int)).before args0 about1 = true := code_word (m := ⟨1, 4⟩) (meth := k1m4) (c := k1c4) (by decide +kernel) rfl rfl rfl (by decide +kernel)
set_option maxRecDepth 65536 in
theorem w_c9 : (Jvm.Cond.code ({ cls := "com/example/admitwire/admitwire/core/TimestampDigitsPinLaw", name := "digitAt", desc := "(IICCCC)Z" } : Jvm.MethodName) method_4_code (7 : Nat) (Option.some Jvm.ClassFile.FieldType.boolean)).before args0 about1 = true := code_word (m := ⟨1, 3⟩) (meth := k1m3) (c := k1c3) (by decide +kernel) rfl rfl rfl (by decide +kernel)
set_option maxRecDepth 65536 in
theorem w_c10 : (Jvm.Cond.code ({ cls := "java/lang/StringUTF16", name := "compress", desc := "([CII)[B" } : Jvm.MethodName) jdk_52_method_16_code (6 : Nat) (Option.some (Jvm.ClassFile.FieldType.array Jvm.ClassFile.FieldType.byte))).before args0 about1 = true := code_word (m := ⟨9, 8⟩) (meth := k9m8) (c := k9c8) (by decide +kernel) rfl rfl rfl (by decide +kernel)
set_option maxRecDepth 65536 in
theorem w_c11 : (Jvm.Cond.code ({ cls := "java/lang/StringUTF16", name := "compress", desc := "([CI[BII)I" } : Jvm.MethodName) jdk_52_method_21_code (7 : Nat) (Option.some Jvm.ClassFile.FieldType.int)).before args0 about1 = true := code_word (m := ⟨9, 9⟩) (meth := k9m9) (c := k9c9) (by decide +kernel) rfl rfl rfl (by decide +kernel)
set_option maxRecDepth 65536 in
theorem w_c12 : (Jvm.Cond.code ({ cls := "java/lang/StringUTF16", name := "coderFromArrayLen", desc := "([BI)B" } : Jvm.MethodName) jdk_52_method_15_code (2 : Nat) (Option.some Jvm.ClassFile.FieldType.byte)).before args0 about1 = true := code_word (m := ⟨9, 7⟩) (meth := k9m7) (c := k9c7) (by decide +kernel) rfl rfl rfl (by decide +kernel)
set_option maxRecDepth 65536 in
theorem w_c13 : (Jvm.Cond.code ({ cls := "java/lang/String", name := "charAt", desc := "(I)C" } : Jvm.MethodName) jdk_42_method_56_code (2 : Nat) (Option.some Jvm.ClassFile.FieldType.char)).before args0 about1 = true := code_word (m := ⟨7, 3⟩) (meth := k7m3) (c := k7c3) (by decide +kernel) rfl rfl rfl (by decide +kernel)
set_option maxRecDepth 65536 in
theorem w_c14 : (Jvm.Cond.code ({ cls := "java/lang/String", name := "isLatin1", desc := "()Z" } : Jvm.MethodName) jdk_42_method_154_code (1 : Nat) (Option.some Jvm.ClassFile.FieldType.boolean)).before args0 about1 = true := code_word (m := ⟨7, 6⟩) (meth := k7m6) (c := k7c6) (by decide +kernel) rfl rfl rfl (by decide +kernel)
set_option maxRecDepth 65536 in
theorem w_c15 : (Jvm.Cond.code ({ cls := "java/lang/StringLatin1", name := "charAt", desc := "([BI)C" } : Jvm.MethodName) jdk_43_method_2_code (2 : Nat) (Option.some Jvm.ClassFile.FieldType.char)).before args0 about1 = true := code_word (m := ⟨10, 1⟩) (meth := k10m1) (c := k10c1) (by decide +kernel) rfl rfl rfl (by decide +kernel)
set_option maxRecDepth 65536 in
theorem w_c16 : (Jvm.Cond.code ({ cls := "java/lang/String", name := "checkIndex", desc := "(II)V" } : Jvm.MethodName) jdk_42_method_155_code (2 : Nat) (Option.none : Option Jvm.ClassFile.FieldType)).before args0 about1 = true := code_word (m := ⟨7, 7⟩) (meth := k7m7) (c := k7c7) (by decide +kernel) rfl rfl rfl (by decide +kernel)
set_option maxRecDepth 65536 in
theorem w_c17 : (Jvm.Cond.code ({ cls := "jdk/internal/util/Preconditions", name := "checkIndex", desc := "(IILjava/util/function/BiFunction;)I" } : Jvm.MethodName) jdk_41_method_11_code (3 : Nat) (Option.some Jvm.ClassFile.FieldType.int)).before args0 about1 = true := code_word (m := ⟨11, 1⟩) (meth := k11m1) (c := k11c1) (by decide +kernel) rfl rfl rfl (by decide +kernel)
set_option maxRecDepth 65536 in
theorem w_c18 : (Jvm.Cond.code ({ cls := "java/lang/StringUTF16", name := "toBytes", desc := "([CII)[B" } : Jvm.MethodName) jdk_52_method_14_code (5 : Nat) (Option.some (Jvm.ClassFile.FieldType.array Jvm.ClassFile.FieldType.byte))).before args0 about1 = true := code_word (m := ⟨9, 6⟩) (meth := k9m6) (c := k9c6) (by decide +kernel) rfl rfl rfl (by decide +kernel)
set_option maxRecDepth 65536 in
theorem w_c19 : (Jvm.Cond.code ({ cls := "java/lang/StringUTF16", name := "newBytesFor", desc := "(I)[B" } : Jvm.MethodName) jdk_52_method_2_code (1 : Nat) (Option.some (Jvm.ClassFile.FieldType.array Jvm.ClassFile.FieldType.byte))).before args0 about1 = true := code_word (m := ⟨9, 1⟩) (meth := k9m1) (c := k9c1) (by decide +kernel) rfl rfl rfl (by decide +kernel)
set_option maxRecDepth 65536 in
theorem w_c20 : (Jvm.Cond.code ({ cls := "java/lang/StringUTF16", name := "newBytesLength", desc := "(I)I" } : Jvm.MethodName) jdk_52_method_3_code (1 : Nat) (Option.some Jvm.ClassFile.FieldType.int)).before args0 about1 = true := code_word (m := ⟨9, 2⟩) (meth := k9m2) (c := k9c2) (by decide +kernel) rfl rfl rfl (by decide +kernel)
set_option maxRecDepth 65536 in
theorem w_c21 : (Jvm.Cond.code ({ cls := "java/lang/StringUTF16", name := "putChar", desc := "([BII)V" } : Jvm.MethodName) jdk_52_method_4_code (3 : Nat) (Option.none : Option Jvm.ClassFile.FieldType)).before args0 about1 = true := code_word (m := ⟨9, 3⟩) (meth := k9m3) (c := k9c3) (by decide +kernel) rfl rfl rfl (by decide +kernel)
set_option maxRecDepth 65536 in
theorem w_c22 : (Jvm.Cond.code ({ cls := "java/lang/StringUTF16", name := "getChar", desc := "([BI)C" } : Jvm.MethodName) jdk_52_method_5_code (2 : Nat) (Option.some Jvm.ClassFile.FieldType.char)).before args0 about1 = true := code_word (m := ⟨9, 4⟩) (meth := k9m4) (c := k9c4) (by decide +kernel) rfl rfl rfl (by decide +kernel)
set_option maxRecDepth 65536 in
theorem w_c23 : (Jvm.Cond.code ({ cls := "java/lang/StringUTF16", name := "charAt", desc := "([BI)C" } : Jvm.MethodName) jdk_52_method_83_code (2 : Nat) (Option.some Jvm.ClassFile.FieldType.char)).before args0 about1 = true := code_word (m := ⟨9, 10⟩) (meth := k9m10) (c := k9c10) (by decide +kernel) rfl rfl rfl (by decide +kernel)
set_option maxRecDepth 65536 in
theorem w_c24 : (Jvm.Cond.code ({ cls := "java/lang/StringUTF16", name := "checkIndex", desc := "(I[B)V" } : Jvm.MethodName) jdk_52_method_91_code (2 : Nat) (Option.none : Option Jvm.ClassFile.FieldType)).before args0 about1 = true := code_word (m := ⟨9, 11⟩) (meth := k9m11) (c := k9c11) (by decide +kernel) rfl rfl rfl (by decide +kernel)
set_option maxRecDepth 65536 in
theorem w_c25 : (Jvm.Cond.code ({ cls := "java/lang/StringUTF16", name := "length", desc := "([B)I" } : Jvm.MethodName) jdk_52_method_6_code (1 : Nat) (Option.some Jvm.ClassFile.FieldType.int)).before args0 about1 = true := code_word (m := ⟨9, 5⟩) (meth := k9m5) (c := k9c5) (by decide +kernel) rfl rfl rfl (by decide +kernel)
def codes1 : List Jvm.Cond := [Jvm.Cond.code x code maxLocals ret, Jvm.Cond.code ({ cls := "com/example/admitwire/admitwire/core/TimestampDigitsPinLaw", name := "make", desc := "(ICCCC)Ljava/lang/String;" } : Jvm.MethodName) method_3_code (5 : Nat) (Option.some (Jvm.ClassFile.FieldType.object "java/lang/String")), Jvm.Cond.code ({ cls := "java/lang/String", name := "<init>", desc := "([C)V" } : Jvm.MethodName) jdk_42_method_3_code (2 : Nat) (Option.none : Option Jvm.ClassFile.FieldType), Jvm.Cond.code ({ cls := "java/lang/String", name := "<init>", desc := "([CIILjava/lang/Void;)V" } : Jvm.MethodName) jdk_42_method_149_code (6 : Nat) (Option.none : Option Jvm.ClassFile.FieldType), Jvm.Cond.code ({ cls := "java/lang/Object", name := "<init>", desc := "()V" } : Jvm.MethodName) object_method_1_code (1 : Nat) (Option.none : Option Jvm.ClassFile.FieldType), Jvm.Cond.code ({ cls := "com/example/admitwire/admitwire/core/Timestamp", name := "digits", desc := "(Ljava/lang/String;I)I" } : Jvm.MethodName) prog_53_method_11_code (3 : Nat) (Option.some Jvm.ClassFile.FieldType.int), Jvm.Cond.code ({ cls := "java/lang/String", name := "length", desc := "()I" } : Jvm.MethodName) jdk_42_method_54_code (1 : Nat) (Option.some Jvm.ClassFile.FieldType.int), Jvm.Cond.code ({ cls := "java/lang/String", name := "coder", desc := "()B" } : Jvm.MethodName) jdk_42_method_152_code (1 : Nat) (Option.some Jvm.ClassFile.FieldType.byte), Jvm.Cond.code ({ cls := "com/example/admitwire/admitwire/core/TimestampDigitsPinLaw", name := "expected", desc := "(IICCCC)I" } : Jvm.MethodName) method_5_code (6 : Nat) (Option.some Jvm.ClassFile.FieldType.int), Jvm.Cond.code ({ cls := "com/example/admitwire/admitwire/core/TimestampDigitsPinLaw", name := "digitAt", desc := "(IICCCC)Z" } : Jvm.MethodName) method_4_code (7 : Nat) (Option.some Jvm.ClassFile.FieldType.boolean), Jvm.Cond.code ({ cls := "java/lang/StringUTF16", name := "compress", desc := "([CII)[B" } : Jvm.MethodName) jdk_52_method_16_code (6 : Nat) (Option.some (Jvm.ClassFile.FieldType.array Jvm.ClassFile.FieldType.byte)), Jvm.Cond.code ({ cls := "java/lang/StringUTF16", name := "compress", desc := "([CI[BII)I" } : Jvm.MethodName) jdk_52_method_21_code (7 : Nat) (Option.some Jvm.ClassFile.FieldType.int), Jvm.Cond.code ({ cls := "java/lang/StringUTF16", name := "coderFromArrayLen", desc := "([BI)B" } : Jvm.MethodName) jdk_52_method_15_code (2 : Nat) (Option.some Jvm.ClassFile.FieldType.byte), Jvm.Cond.code ({ cls := "java/lang/String", name := "charAt", desc := "(I)C" } : Jvm.MethodName) jdk_42_method_56_code (2 : Nat) (Option.some Jvm.ClassFile.FieldType.char), Jvm.Cond.code ({ cls := "java/lang/String", name := "isLatin1", desc := "()Z" } : Jvm.MethodName) jdk_42_method_154_code (1 : Nat) (Option.some Jvm.ClassFile.FieldType.boolean), Jvm.Cond.code ({ cls := "java/lang/StringLatin1", name := "charAt", desc := "([BI)C" } : Jvm.MethodName) jdk_43_method_2_code (2 : Nat) (Option.some Jvm.ClassFile.FieldType.char), Jvm.Cond.code ({ cls := "java/lang/String", name := "checkIndex", desc := "(II)V" } : Jvm.MethodName) jdk_42_method_155_code (2 : Nat) (Option.none : Option Jvm.ClassFile.FieldType), Jvm.Cond.code ({ cls := "jdk/internal/util/Preconditions", name := "checkIndex", desc := "(IILjava/util/function/BiFunction;)I" } : Jvm.MethodName) jdk_41_method_11_code (3 : Nat) (Option.some Jvm.ClassFile.FieldType.int), Jvm.Cond.code ({ cls := "java/lang/StringUTF16", name := "toBytes", desc := "([CII)[B" } : Jvm.MethodName) jdk_52_method_14_code (5 : Nat) (Option.some (Jvm.ClassFile.FieldType.array Jvm.ClassFile.FieldType.byte)), Jvm.Cond.code ({ cls := "java/lang/StringUTF16", name := "newBytesFor", desc := "(I)[B" } : Jvm.MethodName) jdk_52_method_2_code (1 : Nat) (Option.some (Jvm.ClassFile.FieldType.array Jvm.ClassFile.FieldType.byte)), Jvm.Cond.code ({ cls := "java/lang/StringUTF16", name := "newBytesLength", desc := "(I)I" } : Jvm.MethodName) jdk_52_method_3_code (1 : Nat) (Option.some Jvm.ClassFile.FieldType.int), Jvm.Cond.code ({ cls := "java/lang/StringUTF16", name := "putChar", desc := "([BII)V" } : Jvm.MethodName) jdk_52_method_4_code (3 : Nat) (Option.none : Option Jvm.ClassFile.FieldType), Jvm.Cond.code ({ cls := "java/lang/StringUTF16", name := "getChar", desc := "([BI)C" } : Jvm.MethodName) jdk_52_method_5_code (2 : Nat) (Option.some Jvm.ClassFile.FieldType.char), Jvm.Cond.code ({ cls := "java/lang/StringUTF16", name := "charAt", desc := "([BI)C" } : Jvm.MethodName) jdk_52_method_83_code (2 : Nat) (Option.some Jvm.ClassFile.FieldType.char), Jvm.Cond.code ({ cls := "java/lang/StringUTF16", name := "checkIndex", desc := "(I[B)V" } : Jvm.MethodName) jdk_52_method_91_code (2 : Nat) (Option.none : Option Jvm.ClassFile.FieldType), Jvm.Cond.code ({ cls := "java/lang/StringUTF16", name := "length", desc := "([B)I" } : Jvm.MethodName) jdk_52_method_6_code (1 : Nat) (Option.some Jvm.ClassFile.FieldType.int)]
set_option maxRecDepth 65536 in
theorem codes_eq : words1.filter isCode = codes1 := rfl
theorem w_codes : ∀ c ∈ words1.filter isCode, c.before args0 about1 = true := by
  rw [codes_eq]
  intro c hc
  simp only [codes1, List.mem_cons, List.not_mem_nil, or_false] at hc
  rcases hc with rfl | rfl | rfl | rfl | rfl | rfl | rfl | rfl | rfl | rfl | rfl | rfl | rfl | rfl | rfl | rfl | rfl | rfl | rfl | rfl | rfl | rfl | rfl | rfl | rfl | rfl
  · exact w_c0
  · exact w_c1
  · exact w_c2
  · exact w_c3
  · exact w_c4
  · exact w_c5
  · exact w_c6
  · exact w_c7
  · exact w_c8
  · exact w_c9
  · exact w_c10
  · exact w_c11
  · exact w_c12
  · exact w_c13
  · exact w_c14
  · exact w_c15
  · exact w_c16
  · exact w_c17
  · exact w_c18
  · exact w_c19
  · exact w_c20
  · exact w_c21
  · exact w_c22
  · exact w_c23
  · exact w_c24
  · exact w_c25
set_option maxRecDepth 65536 in
theorem w_t1 : (words1.take 24).all (fun c => isCode c || c.before args0 about1) = true := by decide +kernel
set_option maxRecDepth 65536 in
theorem w_t2 : ((words1.drop 24).take 24).all (fun c => isCode c || c.before args0 about1) = true := by decide +kernel
set_option maxRecDepth 65536 in
theorem w_t3 : (((words1.drop 24).drop 24).take 24).all (fun c => isCode c || c.before args0 about1) = true := by decide +kernel
set_option maxRecDepth 65536 in
theorem w_t4 : ((((words1.drop 24).drop 24).drop 24).take 24).all (fun c => isCode c || c.before args0 about1) = true := by decide +kernel
set_option maxRecDepth 65536 in
theorem w_t5 : ((((words1.drop 24).drop 24).drop 24).drop 24).all (fun c => isCode c || c.before args0 about1) = true := by decide +kernel
theorem w_tables : (allAtoms (Jvm.Cond.code x code maxLocals ret :: tables_1)).before args0 about1 = true := by
  rw [allAtoms_all]
  show words1.all (fun c => c.before args0 about1) = true
  refine all_split ?_ w_codes
  rw [← List.take_append_drop 24 words1, List.all_append, w_t1, ← List.take_append_drop 24 (words1.drop 24), List.all_append, w_t2, ← List.take_append_drop 24 ((words1.drop 24).drop 24), List.all_append, w_t3, ← List.take_append_drop 24 (((words1.drop 24).drop 24).drop 24), List.all_append, w_t4, w_t5]
  rfl
set_option maxRecDepth 65536 in
theorem w_rest : rest_1_c.before args0 about1 = true := by decide +kernel
set_option maxRecDepth 65536 in
theorem w_case : (Jvm.Cond.and given_1 narrow_1).before args0 about1 = true := by decide +kernel
set_option maxRecDepth 65536 in
theorem w_consts : constsHeld consts_1 about1 := Jvm.Lit.constsHeldB_iff.mp (by decide +kernel)
theorem w_applies : (headSpec (Jvm.Cond.code x code maxLocals ret :: tables_1) room_1).applies x e0.platform about1 = true :=
  (Spec.applies_iff w_frames).mpr ⟨w_running, w_runnable, w_alone, w_named, w_hears, w_ripe, w_room, w_tables⟩
theorem atStart : AtStart classFile x code maxLocals ret World_1 tables_1 room_1 Calls_1 rest_1 Pre_1 launch0 p0 e0 about1 theMethod args0 below0 :=
  ⟨lists_1, trivial, launch0.admits_env _ _ _, launch0.least_env, fairChoices_fair.cas, fairChoices_fair.clock, w_frames, w_args, w_heap, w_applies, ⟨w_consts, trivial⟩, w_rest, w_case⟩
end start1
theorem witness_1 : WitnessClaimed_1 := ⟨start1.p0, start1.e0, start1.about1, start1.theMethod, start1.args0, start1.below0, start1.atStart⟩
end Jvm.Pilot.@@N@@
