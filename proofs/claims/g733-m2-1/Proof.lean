import JvmDerived
import JvmDerived.Pilot.@@N@@Statement
import JvmDerived.Pilot.@@N@@Code
set_option linter.unusedVariables false
set_option linter.unusedSimpArgs false
@@BLOCK:NumsL.lean.txt@@
namespace Jvm.Pilot.@@N@@
open Jvm Jvm.ClassFile Sem Op Lib Jvm.Free Jvm.Stand Jvm.LawKit Jvm.RoadKit Bundle Jvm.Pilot.@@N@@.Jvm.D
/-- the run from t comes to a state of G -/
def Go (p : Program) (e : Env) (below : List Frame) (G : State → Prop) (t : State) : Prop := ∃ s₂, Steps p.tables e below t s₂ ∧ G s₂
/-- the end of a body -/
def Done (below : List Frame) (s : State) (n0 : Nat) (Q : Option Value → Heap → Prop) (C N : Nat) (s₂ : State) : Prop := ∃ o, s₂.status = .running ∧ Ended s₂ below o ∧ ∃ v L, o = .returned v ∧ (Fr n0 L ∧ Q v s₂.heap) ∧ FrameEnd s o s₂ L C N
def Val (Q : Value → Heap → Prop) : Option Value → Heap → Prop := fun o h => ∃ v, o = some v ∧ Q v h
def Non (Q : Heap → Prop) : Option Value → Heap → Prop := fun o h => o = none ∧ Q h
theorem go_of {p : Program} {e : Env} {below : List Frame} {G : State → Prop} {t t' : State} (f : ∀ target, Steps p.tables e below t' target → Steps p.tables e below t target) (k : Go p e below G t') : Go p e below G t := by
  obtain ⟨s₂, h, g⟩ := k; exact ⟨s₂, f _ h, g⟩
/-- where a run stands: the heap, fresh writes only, the body's own facts -/
def Sd (l : Launch) (Z : State) (n0 : Nat) (y : MethodName) (bytes : ByteArray) (maxL : Nat) (ret : Option FieldType) (R : Room) (p : Program) (e : Env) (s : State) (m : MethodId) (args : Array Value) (below : List Frame) (T : State) (h : Heap) (cells slots : Nat) : Prop :=
  ∃ meth c locs, Stand p l e R s m args below meth c T locs cells slots ∧ T.heap = h ∧ Fr n0 locs ∧ p.tables.exec = Jvm.exec ∧ c.code = bytes ∧ c.maxLocals = maxL ∧ s.vm.findClass y.cls = some m.cls ∧ meth.name = y.name ∧ meth.sig.returnType = ret ∧ meth.locks = false ∧ Z.Warmed39 s.vm ∧ n0 ≤ s.heap.size
/-- a body's contract -/
def Con (l : Launch) (Z : State) (n0 : Nat) (y : MethodName) (bytes : ByteArray) (maxL : Nat) (ret : Option FieldType) (rm : Room) (as' : Array Value) (h : Heap) (Q : Option Value → Heap → Prop) : Prop :=
  ∀ ws, MetFree l y (head1 (Jvm.Cond.code y bytes maxL ret :: ws) rm) (fun a U => a = as' ∧ Z.Warmed39 U.vm ∧ U.heap = h) (fun _ _ _ _ _ => True) (fun _ U o U' => ∃ v L, o = .returned v ∧ (Fr n0 L ∧ Q v U'.heap) ∧ FrameEnd U o U' L rm.cells rm.slots)
theorem con_intro {l : Launch} {Z : State} {n0 : Nat} {y : MethodName} {bytes : ByteArray} {maxL : Nat} {ret : Option FieldType} {rm : Room} {as' : Array Value} {h : Heap} {Q : Option Value → Heap → Prop} (hp : plainFor y = true) (hn : n0 ≤ h.size) {fr : MethodId → JFrame} (ef : ∀ m, entryFrame m as' maxL = fr m)
    (body : ∀ p e s m below s₁, s.heap = h → Sd l Z n0 y bytes maxL ret rm p e s m as' below s₁ h 0 0 → Go p e below (Done below s n0 Q rm.cells rm.slots) (s₁.setTop (fr m))) : Con l Z n0 y bytes maxL ret rm as' h Q := by
  intro ws
  refine MetFree.of_bodySF hp hisR ?_
  intro p e s m args below meth c s₁ Bd hml0 hP hK
  obtain ⟨rfl, hZ, hh⟩ := hP
  have e0 : s₁.heap = h := by rw [← hh, Bd.state]; rfl
  obtain ⟨s₂, st, o, r1, r2, r3⟩ := body p e s m below s₁ hh ⟨meth, c, [], Stand.of_body Bd, e0, Fr.nil n0, Bd.exec, Bd.bytes, hml0, findClass_of_methodNamed Bd.named, (name_of_methodNamed Bd.named Bd.method).1, Bd.returns, Bd.notSynchronized, hZ, by rw [hh]; exact hn⟩
  exact ⟨s₂, o, castTop (ef m) st, r1, r2, r3⟩
theorem con_mono {l : Launch} {Z : State} {n0 : Nat} {y : MethodName} {bytes : ByteArray} {maxL : Nat} {ret : Option FieldType} {rm : Room} {as' : Array Value} {h : Heap} {Q Q' : Option Value → Heap → Prop} (hq : ∀ v h', Q v h' → Q' v h') (H : Con l Z n0 y bytes maxL ret rm as' h Q) : Con l Z n0 y bytes maxL ret rm as' h Q' := by
  intro ws p e ha hc hk s m args below hf happ hP hK
  obtain ⟨n, o, h1, h2, h3, v, L, h4, h5, h6⟩ := H ws p e ha hc hk s m args below hf happ hP hK
  exact ⟨n, o, h1, h2, h3, v, L, h4, ⟨h5.1, hq _ _ h5.2⟩, h6⟩
section Walk
variable {l : Launch} {Z : State} {n0 : Nat} {y : MethodName} {bytes : ByteArray} {maxL : Nat} {ret : Option FieldType} {R : Room} {p : Program} {e : Env} {s : State} {m : MethodId} {args : Array Value} {below : List Frame} {T : State} {h : Heap} {cells slots : Nat} {G : State → Prop} {a0 : Array Value} {pc pc' : Nat} {Ls : Array Slot} {S : List Value}
theorem sd_more (X : Sd l Z n0 y bytes maxL ret R p e s m args below T h cells slots) {cells' slots' : Nat} (hc : cells ≤ cells') (hs : slots ≤ slots') : Sd l Z n0 y bytes maxL ret R p e s m args below T h cells' slots' := by
  obtain ⟨meth, c, locs, X, r⟩ := X; exact ⟨meth, c, locs, X.more hc hs, r⟩
theorem sd_size (X : Sd l Z n0 y bytes maxL ret R p e s m args below T h cells slots) : n0 ≤ h.size := by
  obtain ⟨meth, c, locs, X, rfl, -, -, -, -, -, -, -, -, -, hn⟩ := X
  exact Nat.le_trans hn X.same.2.1
theorem sd_ext (X : Sd l Z n0 y bytes maxL ret R p e s m args below T h cells slots) {h0 : Heap} (hs : s.heap = h0) (hN : h0.size ≤ n0) : Ext h0 h := by
  obtain ⟨meth, c, locs, X, rfl, N, -⟩ := X
  subst hs
  refine ⟨X.same.2.1, fun a ca ha => ?_⟩
  obtain ⟨c', h1, h2, h3, h4⟩ := X.same.2.2.2.2.2 a ca ha
  have hlt : a < s.heap.size := (Array.getElem?_eq_some_iff.mp ha).1
  have e : c'.slots = ca.slots := by
    apply Array.ext_getElem?
    intro i
    exact h4 i (fun q => Nat.lt_irrefl _ (Nat.lt_of_lt_of_le hlt (Nat.le_trans hN (N _ q))))
  rw [e] at h2
  rw [h2] at h1
  exact h1
theorem w_iloadN (X : Sd l Z n0 y bytes maxL ret R p e s m args below T h cells slots) {k : Fin 4} {v : Int32} (hd : decode bytes pc = .ok (.iload_n k, 1)) (hl : Ls[k.val]? = some (.val (.int v))) (hp : pc' = pc + 1) (K : Go p e below G (T.setTop (mkF m pc' Ls (.int v :: S)))) : Go p e below G (T.setTop (mkF m pc Ls S)) := by
  obtain ⟨meth, c, locs, X, eT, N, hx, hby, hml, hown, hnm, hret, hlk, hZ, hn⟩ := X; subst hp
  exact go_of (fun _ k => XS.iloadN (g := (mkF m pc Ls S)) X.here hx rfl (hb hby hd) hl k) K
theorem w_iload (X : Sd l Z n0 y bytes maxL ret R p e s m args below T h cells slots) {k : Nat} {v : Int32} (hd : decode bytes pc = .ok (.iload k, 2)) (hl : Ls[k]? = some (.val (.int v))) (hp : pc' = pc + 2) (K : Go p e below G (T.setTop (mkF m pc' Ls (.int v :: S)))) : Go p e below G (T.setTop (mkF m pc Ls S)) := by
  obtain ⟨meth, c, locs, X, eT, N, hx, hby, hml, hown, hnm, hret, hlk, hZ, hn⟩ := X; subst hp
  exact go_of (fun _ k => XS.iload (g := (mkF m pc Ls S)) X.here hx rfl (hb hby hd) hl k) K
theorem w_istoreN (X : Sd l Z n0 y bytes maxL ret R p e s m args below T h cells slots) {k : Fin 4} {v : Int32} {l' : Array Slot} (hd : decode bytes pc = .ok (.istore_n k, 1)) (hl : storeLocals Ls k.val (.int v) = some l') (hp : pc' = pc + 1) (K : Go p e below G (T.setTop (mkF m pc' l' S))) : Go p e below G (T.setTop (mkF m pc Ls (.int v :: S))) := by
  obtain ⟨meth, c, locs, X, eT, N, hx, hby, hml, hown, hnm, hret, hlk, hZ, hn⟩ := X; subst hp
  exact go_of (fun _ k => XS.istoreN (g := (mkF m pc Ls (.int v :: S))) X.here hx rfl (hb hby hd) rfl hl k) K
theorem w_istore (X : Sd l Z n0 y bytes maxL ret R p e s m args below T h cells slots) {k : Nat} {v : Int32} {l' : Array Slot} (hd : decode bytes pc = .ok (.istore k, 2)) (hl : storeLocals Ls k (.int v) = some l') (hp : pc' = pc + 2) (K : Go p e below G (T.setTop (mkF m pc' l' S))) : Go p e below G (T.setTop (mkF m pc Ls (.int v :: S))) := by
  obtain ⟨meth, c, locs, X, eT, N, hx, hby, hml, hown, hnm, hret, hlk, hZ, hn⟩ := X; subst hp
  exact go_of (fun _ k => XS.istore (g := (mkF m pc Ls (.int v :: S))) X.here hx rfl (hb hby hd) rfl hl k) K
theorem w_lloadN (X : Sd l Z n0 y bytes maxL ret R p e s m args below T h cells slots) {k : Fin 4} {v : Int64} (hd : decode bytes pc = .ok (.lload_n k, 1)) (hl : Ls[k.val]? = some (.val (.long v))) (hp : pc' = pc + 1) (K : Go p e below G (T.setTop (mkF m pc' Ls (.long v :: S)))) : Go p e below G (T.setTop (mkF m pc Ls S)) := by
  obtain ⟨meth, c, locs, X, eT, N, hx, hby, hml, hown, hnm, hret, hlk, hZ, hn⟩ := X; subst hp
  exact go_of (fun _ k => XS.lloadN (g := (mkF m pc Ls S)) X.here hx rfl (hb hby hd) hl k) K
theorem w_lload (X : Sd l Z n0 y bytes maxL ret R p e s m args below T h cells slots) {k : Nat} {v : Int64} (hd : decode bytes pc = .ok (.lload k, 2)) (hl : Ls[k]? = some (.val (.long v))) (hp : pc' = pc + 2) (K : Go p e below G (T.setTop (mkF m pc' Ls (.long v :: S)))) : Go p e below G (T.setTop (mkF m pc Ls S)) := by
  obtain ⟨meth, c, locs, X, eT, N, hx, hby, hml, hown, hnm, hret, hlk, hZ, hn⟩ := X; subst hp
  exact go_of (fun _ k => XS.lload (g := (mkF m pc Ls S)) X.here hx rfl (hb hby hd) hl k) K
theorem w_lstoreN (X : Sd l Z n0 y bytes maxL ret R p e s m args below T h cells slots) {k : Fin 4} {v : Int64} {l' : Array Slot} (hd : decode bytes pc = .ok (.lstore_n k, 1)) (hl : storeLocals Ls k.val (.long v) = some l') (hp : pc' = pc + 1) (K : Go p e below G (T.setTop (mkF m pc' l' S))) : Go p e below G (T.setTop (mkF m pc Ls (.long v :: S))) := by
  obtain ⟨meth, c, locs, X, eT, N, hx, hby, hml, hown, hnm, hret, hlk, hZ, hn⟩ := X; subst hp
  exact go_of (fun _ k => XS.lstoreN (g := (mkF m pc Ls (.long v :: S))) X.here hx rfl (hb hby hd) rfl hl k) K
theorem w_lstore (X : Sd l Z n0 y bytes maxL ret R p e s m args below T h cells slots) {k : Nat} {v : Int64} {l' : Array Slot} (hd : decode bytes pc = .ok (.lstore k, 2)) (hl : storeLocals Ls k (.long v) = some l') (hp : pc' = pc + 2) (K : Go p e below G (T.setTop (mkF m pc' l' S))) : Go p e below G (T.setTop (mkF m pc Ls (.long v :: S))) := by
  obtain ⟨meth, c, locs, X, eT, N, hx, hby, hml, hown, hnm, hret, hlk, hZ, hn⟩ := X; subst hp
  exact go_of (fun _ k => XS.lstore (g := (mkF m pc Ls (.long v :: S))) X.here hx rfl (hb hby hd) rfl hl k) K
theorem w_aloadN (X : Sd l Z n0 y bytes maxL ret R p e s m args below T h cells slots) {k : Fin 4} {v : Value} (hd : decode bytes pc = .ok (.aload_n k, 1)) (hl : Ls[k.val]? = some (.val v)) (hv : v.isRef = true) (hp : pc' = pc + 1) (K : Go p e below G (T.setTop (mkF m pc' Ls (v :: S)))) : Go p e below G (T.setTop (mkF m pc Ls S)) := by
  obtain ⟨meth, c, locs, X, eT, N, hx, hby, hml, hown, hnm, hret, hlk, hZ, hn⟩ := X; subst hp
  exact go_of (fun _ k => XS.aloadN (g := (mkF m pc Ls S)) X.here hx rfl (hb hby hd) hl hv k) K
theorem w_aload (X : Sd l Z n0 y bytes maxL ret R p e s m args below T h cells slots) {k : Nat} {v : Value} (hd : decode bytes pc = .ok (.aload k, 2)) (hl : Ls[k]? = some (.val v)) (hv : v.isRef = true) (hp : pc' = pc + 2) (K : Go p e below G (T.setTop (mkF m pc' Ls (v :: S)))) : Go p e below G (T.setTop (mkF m pc Ls S)) := by
  obtain ⟨meth, c, locs, X, eT, N, hx, hby, hml, hown, hnm, hret, hlk, hZ, hn⟩ := X; subst hp
  exact go_of (fun _ k => XS.aload (g := (mkF m pc Ls S)) X.here hx rfl (hb hby hd) hl hv k) K
theorem w_astoreN (X : Sd l Z n0 y bytes maxL ret R p e s m args below T h cells slots) {k : Fin 4} {v : Value} {l' : Array Slot} (hd : decode bytes pc = .ok (.astore_n k, 1)) (hv : v.isRef = true) (hl : storeLocals Ls k.val v = some l') (hp : pc' = pc + 1) (K : Go p e below G (T.setTop (mkF m pc' l' S))) : Go p e below G (T.setTop (mkF m pc Ls (v :: S))) := by
  obtain ⟨meth, c, locs, X, eT, N, hx, hby, hml, hown, hnm, hret, hlk, hZ, hn⟩ := X; subst hp
  exact go_of (fun _ k => XS.astoreN (g := (mkF m pc Ls (v :: S))) X.here hx rfl (hb hby hd) rfl hv hl k) K
theorem w_astore (X : Sd l Z n0 y bytes maxL ret R p e s m args below T h cells slots) {k : Nat} {v : Value} {l' : Array Slot} (hd : decode bytes pc = .ok (.astore k, 2)) (hv : v.isRef = true) (hl : storeLocals Ls k v = some l') (hp : pc' = pc + 2) (K : Go p e below G (T.setTop (mkF m pc' l' S))) : Go p e below G (T.setTop (mkF m pc Ls (v :: S))) := by
  obtain ⟨meth, c, locs, X, eT, N, hx, hby, hml, hown, hnm, hret, hlk, hZ, hn⟩ := X; subst hp
  exact go_of (fun _ k => XS.astore (g := (mkF m pc Ls (v :: S))) X.here hx rfl (hb hby hd) rfl hv hl k) K
theorem w_iconst (X : Sd l Z n0 y bytes maxL ret R p e s m args below T h cells slots) {i : Int} (z : Int32) (hd : decode bytes pc = .ok (.iconst i, 1)) (hz : Int32.ofInt i = z) (hp : pc' = pc + 1) (K : Go p e below G (T.setTop (mkF m pc' Ls (.int z :: S)))) : Go p e below G (T.setTop (mkF m pc Ls S)) := by
  obtain ⟨meth, c, locs, X, eT, N, hx, hby, hml, hown, hnm, hret, hlk, hZ, hn⟩ := X; subst hp
  exact go_of (fun _ k => XS.iconst (g := mkF m pc Ls S) X.here hx rfl (hb hby hd) (by rw [hz]; exact k)) K
theorem w_bipush (X : Sd l Z n0 y bytes maxL ret R p e s m args below T h cells slots) {i : Int} (z : Int32) (hd : decode bytes pc = .ok (.bipush i, 2)) (hz : (Int8.ofInt i).toInt32 = z) (hp : pc' = pc + 2) (K : Go p e below G (T.setTop (mkF m pc' Ls (.int z :: S)))) : Go p e below G (T.setTop (mkF m pc Ls S)) := by
  obtain ⟨meth, c, locs, X, eT, N, hx, hby, hml, hown, hnm, hret, hlk, hZ, hn⟩ := X; subst hp
  exact go_of (fun _ k => XS.bipush (g := mkF m pc Ls S) X.here hx rfl (hb hby hd) (by rw [hz]; exact k)) K
theorem w_sipush (X : Sd l Z n0 y bytes maxL ret R p e s m args below T h cells slots) {i : Int} (z : Int32) (hd : decode bytes pc = .ok (.sipush i, 3)) (hz : (Int16.ofInt i).toInt32 = z) (hp : pc' = pc + 3) (K : Go p e below G (T.setTop (mkF m pc' Ls (.int z :: S)))) : Go p e below G (T.setTop (mkF m pc Ls S)) := by
  obtain ⟨meth, c, locs, X, eT, N, hx, hby, hml, hown, hnm, hret, hlk, hZ, hn⟩ := X; subst hp
  exact go_of (fun _ k => XS.sipush (g := mkF m pc Ls S) X.here hx rfl (hb hby hd) (by rw [hz]; exact k)) K
theorem w_lconst (X : Sd l Z n0 y bytes maxL ret R p e s m args below T h cells slots) {i : Fin 2} (z : Int64) (hd : decode bytes pc = .ok (.lconst i, 1)) (hz : Int64.ofNat i = z) (hp : pc' = pc + 1) (K : Go p e below G (T.setTop (mkF m pc' Ls (.long z :: S)))) : Go p e below G (T.setTop (mkF m pc Ls S)) := by
  obtain ⟨meth, c, locs, X, eT, N, hx, hby, hml, hown, hnm, hret, hlk, hZ, hn⟩ := X; subst hp
  exact go_of (fun _ k => XS.lconst (g := mkF m pc Ls S) X.here hx rfl (hb hby hd) (by rw [hz]; exact k)) K
theorem w_aconst_null (X : Sd l Z n0 y bytes maxL ret R p e s m args below T h cells slots)  (hd : decode bytes pc = .ok (.aconst_null, 1)) (hp : pc' = pc + 1) (K : Go p e below G (T.setTop (mkF m pc' Ls (.null :: S)))) : Go p e below G (T.setTop (mkF m pc Ls S)) := by
  obtain ⟨meth, c, locs, X, eT, N, hx, hby, hml, hown, hnm, hret, hlk, hZ, hn⟩ := X; subst hp
  exact go_of (fun _ k => XS.aconstNull (g := (mkF m pc Ls S)) X.here hx rfl (hb hby hd)  k) K
theorem w_iadd (X : Sd l Z n0 y bytes maxL ret R p e s m args below T h cells slots) {a b : Int32} (hd : decode bytes pc = .ok (.iadd, 1)) (hp : pc' = pc + 1) (K : Go p e below G (T.setTop (mkF m pc' Ls (.int (a + b) :: S)))) : Go p e below G (T.setTop (mkF m pc Ls (.int b :: .int a :: S))) := by
  obtain ⟨meth, c, locs, X, eT, N, hx, hby, hml, hown, hnm, hret, hlk, hZ, hn⟩ := X; subst hp
  exact go_of (fun _ k => XS.iadd (g := (mkF m pc Ls (.int b :: .int a :: S))) X.here hx rfl (hb hby hd) rfl k) K
theorem w_ladd (X : Sd l Z n0 y bytes maxL ret R p e s m args below T h cells slots) {a b : Int64} (hd : decode bytes pc = .ok (.ladd, 1)) (hp : pc' = pc + 1) (K : Go p e below G (T.setTop (mkF m pc' Ls (.long (a + b) :: S)))) : Go p e below G (T.setTop (mkF m pc Ls (.long b :: .long a :: S))) := by
  obtain ⟨meth, c, locs, X, eT, N, hx, hby, hml, hown, hnm, hret, hlk, hZ, hn⟩ := X; subst hp
  exact go_of (fun _ k => XS.ladd (g := (mkF m pc Ls (.long b :: .long a :: S))) X.here hx rfl (hb hby hd) rfl k) K
theorem w_isub (X : Sd l Z n0 y bytes maxL ret R p e s m args below T h cells slots) {a b : Int32} (hd : decode bytes pc = .ok (.isub, 1)) (hp : pc' = pc + 1) (K : Go p e below G (T.setTop (mkF m pc' Ls (.int (a - b) :: S)))) : Go p e below G (T.setTop (mkF m pc Ls (.int b :: .int a :: S))) := by
  obtain ⟨meth, c, locs, X, eT, N, hx, hby, hml, hown, hnm, hret, hlk, hZ, hn⟩ := X; subst hp
  exact go_of (fun _ k => XS.isub (g := (mkF m pc Ls (.int b :: .int a :: S))) X.here hx rfl (hb hby hd) rfl k) K
theorem w_lsub (X : Sd l Z n0 y bytes maxL ret R p e s m args below T h cells slots) {a b : Int64} (hd : decode bytes pc = .ok (.lsub, 1)) (hp : pc' = pc + 1) (K : Go p e below G (T.setTop (mkF m pc' Ls (.long (a - b) :: S)))) : Go p e below G (T.setTop (mkF m pc Ls (.long b :: .long a :: S))) := by
  obtain ⟨meth, c, locs, X, eT, N, hx, hby, hml, hown, hnm, hret, hlk, hZ, hn⟩ := X; subst hp
  exact go_of (fun _ k => XS.lsub (g := (mkF m pc Ls (.long b :: .long a :: S))) X.here hx rfl (hb hby hd) rfl k) K
theorem w_imul (X : Sd l Z n0 y bytes maxL ret R p e s m args below T h cells slots) {a b : Int32} (hd : decode bytes pc = .ok (.imul, 1)) (hp : pc' = pc + 1) (K : Go p e below G (T.setTop (mkF m pc' Ls (.int (a * b) :: S)))) : Go p e below G (T.setTop (mkF m pc Ls (.int b :: .int a :: S))) := by
  obtain ⟨meth, c, locs, X, eT, N, hx, hby, hml, hown, hnm, hret, hlk, hZ, hn⟩ := X; subst hp
  exact go_of (fun _ k => XS.imul (g := (mkF m pc Ls (.int b :: .int a :: S))) X.here hx rfl (hb hby hd) rfl k) K
theorem w_lmul (X : Sd l Z n0 y bytes maxL ret R p e s m args below T h cells slots) {a b : Int64} (hd : decode bytes pc = .ok (.lmul, 1)) (hp : pc' = pc + 1) (K : Go p e below G (T.setTop (mkF m pc' Ls (.long (a * b) :: S)))) : Go p e below G (T.setTop (mkF m pc Ls (.long b :: .long a :: S))) := by
  obtain ⟨meth, c, locs, X, eT, N, hx, hby, hml, hown, hnm, hret, hlk, hZ, hn⟩ := X; subst hp
  exact go_of (fun _ k => XS.lmul (g := (mkF m pc Ls (.long b :: .long a :: S))) X.here hx rfl (hb hby hd) rfl k) K
theorem w_iand (X : Sd l Z n0 y bytes maxL ret R p e s m args below T h cells slots) {a b : Int32} (hd : decode bytes pc = .ok (.iand, 1)) (hp : pc' = pc + 1) (K : Go p e below G (T.setTop (mkF m pc' Ls (.int (a &&& b) :: S)))) : Go p e below G (T.setTop (mkF m pc Ls (.int b :: .int a :: S))) := by
  obtain ⟨meth, c, locs, X, eT, N, hx, hby, hml, hown, hnm, hret, hlk, hZ, hn⟩ := X; subst hp
  exact go_of (fun _ k => XS.iand (g := (mkF m pc Ls (.int b :: .int a :: S))) X.here hx rfl (hb hby hd) rfl k) K
theorem w_land (X : Sd l Z n0 y bytes maxL ret R p e s m args below T h cells slots) {a b : Int64} (hd : decode bytes pc = .ok (.land, 1)) (hp : pc' = pc + 1) (K : Go p e below G (T.setTop (mkF m pc' Ls (.long (a &&& b) :: S)))) : Go p e below G (T.setTop (mkF m pc Ls (.long b :: .long a :: S))) := by
  obtain ⟨meth, c, locs, X, eT, N, hx, hby, hml, hown, hnm, hret, hlk, hZ, hn⟩ := X; subst hp
  exact go_of (fun _ k => XS.land (g := (mkF m pc Ls (.long b :: .long a :: S))) X.here hx rfl (hb hby hd) rfl k) K
theorem w_ior (X : Sd l Z n0 y bytes maxL ret R p e s m args below T h cells slots) {a b : Int32} (hd : decode bytes pc = .ok (.ior, 1)) (hp : pc' = pc + 1) (K : Go p e below G (T.setTop (mkF m pc' Ls (.int (a ||| b) :: S)))) : Go p e below G (T.setTop (mkF m pc Ls (.int b :: .int a :: S))) := by
  obtain ⟨meth, c, locs, X, eT, N, hx, hby, hml, hown, hnm, hret, hlk, hZ, hn⟩ := X; subst hp
  exact go_of (fun _ k => XS.ior (g := (mkF m pc Ls (.int b :: .int a :: S))) X.here hx rfl (hb hby hd) rfl k) K
theorem w_lor (X : Sd l Z n0 y bytes maxL ret R p e s m args below T h cells slots) {a b : Int64} (hd : decode bytes pc = .ok (.lor, 1)) (hp : pc' = pc + 1) (K : Go p e below G (T.setTop (mkF m pc' Ls (.long (a ||| b) :: S)))) : Go p e below G (T.setTop (mkF m pc Ls (.long b :: .long a :: S))) := by
  obtain ⟨meth, c, locs, X, eT, N, hx, hby, hml, hown, hnm, hret, hlk, hZ, hn⟩ := X; subst hp
  exact go_of (fun _ k => XS.lor (g := (mkF m pc Ls (.long b :: .long a :: S))) X.here hx rfl (hb hby hd) rfl k) K
theorem w_ixor (X : Sd l Z n0 y bytes maxL ret R p e s m args below T h cells slots) {a b : Int32} (hd : decode bytes pc = .ok (.ixor, 1)) (hp : pc' = pc + 1) (K : Go p e below G (T.setTop (mkF m pc' Ls (.int (a ^^^ b) :: S)))) : Go p e below G (T.setTop (mkF m pc Ls (.int b :: .int a :: S))) := by
  obtain ⟨meth, c, locs, X, eT, N, hx, hby, hml, hown, hnm, hret, hlk, hZ, hn⟩ := X; subst hp
  exact go_of (fun _ k => XS.ixor (g := (mkF m pc Ls (.int b :: .int a :: S))) X.here hx rfl (hb hby hd) rfl k) K
theorem w_lxor (X : Sd l Z n0 y bytes maxL ret R p e s m args below T h cells slots) {a b : Int64} (hd : decode bytes pc = .ok (.lxor, 1)) (hp : pc' = pc + 1) (K : Go p e below G (T.setTop (mkF m pc' Ls (.long (a ^^^ b) :: S)))) : Go p e below G (T.setTop (mkF m pc Ls (.long b :: .long a :: S))) := by
  obtain ⟨meth, c, locs, X, eT, N, hx, hby, hml, hown, hnm, hret, hlk, hZ, hn⟩ := X; subst hp
  exact go_of (fun _ k => XS.lxor (g := (mkF m pc Ls (.long b :: .long a :: S))) X.here hx rfl (hb hby hd) rfl k) K
theorem w_ishl (X : Sd l Z n0 y bytes maxL ret R p e s m args below T h cells slots) {a b : Int32} (hd : decode bytes pc = .ok (.ishl, 1)) (hp : pc' = pc + 1) (K : Go p e below G (T.setTop (mkF m pc' Ls (.int (a <<< (b &&& 31)) :: S)))) : Go p e below G (T.setTop (mkF m pc Ls (.int b :: .int a :: S))) := by
  obtain ⟨meth, c, locs, X, eT, N, hx, hby, hml, hown, hnm, hret, hlk, hZ, hn⟩ := X; subst hp
  exact go_of (fun _ k => XS.ishl (g := (mkF m pc Ls (.int b :: .int a :: S))) X.here hx rfl (hb hby hd) rfl k) K
theorem w_ishr (X : Sd l Z n0 y bytes maxL ret R p e s m args below T h cells slots) {a b : Int32} (hd : decode bytes pc = .ok (.ishr, 1)) (hp : pc' = pc + 1) (K : Go p e below G (T.setTop (mkF m pc' Ls (.int (a >>> (b &&& 31)) :: S)))) : Go p e below G (T.setTop (mkF m pc Ls (.int b :: .int a :: S))) := by
  obtain ⟨meth, c, locs, X, eT, N, hx, hby, hml, hown, hnm, hret, hlk, hZ, hn⟩ := X; subst hp
  exact go_of (fun _ k => XS.ishr (g := (mkF m pc Ls (.int b :: .int a :: S))) X.here hx rfl (hb hby hd) rfl k) K
theorem w_iushr (X : Sd l Z n0 y bytes maxL ret R p e s m args below T h cells slots) {a b : Int32} (hd : decode bytes pc = .ok (.iushr, 1)) (hp : pc' = pc + 1) (K : Go p e below G (T.setTop (mkF m pc' Ls (.int ((a.toUInt32 >>> (b &&& 31).toUInt32).toInt32) :: S)))) : Go p e below G (T.setTop (mkF m pc Ls (.int b :: .int a :: S))) := by
  obtain ⟨meth, c, locs, X, eT, N, hx, hby, hml, hown, hnm, hret, hlk, hZ, hn⟩ := X; subst hp
  exact go_of (fun _ k => XS.iushr (g := (mkF m pc Ls (.int b :: .int a :: S))) X.here hx rfl (hb hby hd) rfl k) K
theorem w_lshl (X : Sd l Z n0 y bytes maxL ret R p e s m args below T h cells slots) {a : Int64} {b : Int32} (hd : decode bytes pc = .ok (.lshl, 1)) (hp : pc' = pc + 1) (K : Go p e below G (T.setTop (mkF m pc' Ls (.long (a <<< (b &&& 0x3f).toInt64) :: S)))) : Go p e below G (T.setTop (mkF m pc Ls (.int b :: .long a :: S))) := by
  obtain ⟨meth, c, locs, X, eT, N, hx, hby, hml, hown, hnm, hret, hlk, hZ, hn⟩ := X; subst hp
  exact go_of (fun _ k => XS.lshl (g := (mkF m pc Ls (.int b :: .long a :: S))) X.here hx rfl (hb hby hd) rfl k) K
theorem w_lshr (X : Sd l Z n0 y bytes maxL ret R p e s m args below T h cells slots) {a : Int64} {b : Int32} (hd : decode bytes pc = .ok (.lshr, 1)) (hp : pc' = pc + 1) (K : Go p e below G (T.setTop (mkF m pc' Ls (.long (a >>> (b &&& 0x3f).toInt64) :: S)))) : Go p e below G (T.setTop (mkF m pc Ls (.int b :: .long a :: S))) := by
  obtain ⟨meth, c, locs, X, eT, N, hx, hby, hml, hown, hnm, hret, hlk, hZ, hn⟩ := X; subst hp
  exact go_of (fun _ k => XS.lshr (g := (mkF m pc Ls (.int b :: .long a :: S))) X.here hx rfl (hb hby hd) rfl k) K
theorem w_lushr (X : Sd l Z n0 y bytes maxL ret R p e s m args below T h cells slots) {a : Int64} {b : Int32} (hd : decode bytes pc = .ok (.lushr, 1)) (hp : pc' = pc + 1) (K : Go p e below G (T.setTop (mkF m pc' Ls (.long ((a.toUInt64 >>> (b &&& 0x3f).toInt64.toUInt64).toInt64) :: S)))) : Go p e below G (T.setTop (mkF m pc Ls (.int b :: .long a :: S))) := by
  obtain ⟨meth, c, locs, X, eT, N, hx, hby, hml, hown, hnm, hret, hlk, hZ, hn⟩ := X; subst hp
  exact go_of (fun _ k => XS.lushr (g := (mkF m pc Ls (.int b :: .long a :: S))) X.here hx rfl (hb hby hd) rfl k) K
theorem w_idiv (X : Sd l Z n0 y bytes maxL ret R p e s m args below T h cells slots) {a b : Int32} (hd : decode bytes pc = .ok (.idiv, 1)) (hz : b ≠ 0) (hp : pc' = pc + 1) (K : Go p e below G (T.setTop (mkF m pc' Ls (.int (a / b) :: S)))) : Go p e below G (T.setTop (mkF m pc Ls (.int b :: .int a :: S))) := by
  obtain ⟨meth, c, locs, X, eT, N, hx, hby, hml, hown, hnm, hret, hlk, hZ, hn⟩ := X; subst hp
  exact go_of (fun _ k => XS.idiv (g := (mkF m pc Ls (.int b :: .int a :: S))) X.here hx rfl (hb hby hd) rfl hz k) K
theorem w_ldiv (X : Sd l Z n0 y bytes maxL ret R p e s m args below T h cells slots) {a b : Int64} (hd : decode bytes pc = .ok (.ldiv, 1)) (hz : b ≠ 0) (hp : pc' = pc + 1) (K : Go p e below G (T.setTop (mkF m pc' Ls (.long (a / b) :: S)))) : Go p e below G (T.setTop (mkF m pc Ls (.long b :: .long a :: S))) := by
  obtain ⟨meth, c, locs, X, eT, N, hx, hby, hml, hown, hnm, hret, hlk, hZ, hn⟩ := X; subst hp
  exact go_of (fun _ k => XS.ldiv (g := (mkF m pc Ls (.long b :: .long a :: S))) X.here hx rfl (hb hby hd) rfl hz k) K
theorem w_irem (X : Sd l Z n0 y bytes maxL ret R p e s m args below T h cells slots) {a b : Int32} (hd : decode bytes pc = .ok (.irem, 1)) (hz : b ≠ 0) (hp : pc' = pc + 1) (K : Go p e below G (T.setTop (mkF m pc' Ls (.int (a % b) :: S)))) : Go p e below G (T.setTop (mkF m pc Ls (.int b :: .int a :: S))) := by
  obtain ⟨meth, c, locs, X, eT, N, hx, hby, hml, hown, hnm, hret, hlk, hZ, hn⟩ := X; subst hp
  exact go_of (fun _ k => iremM (g := mkF m pc Ls (.int b :: .int a :: S)) X hx rfl (hb hby hd) rfl hz k) K
theorem w_lrem (X : Sd l Z n0 y bytes maxL ret R p e s m args below T h cells slots) {a b : Int64} (hd : decode bytes pc = .ok (.lrem, 1)) (hz : b ≠ 0) (hp : pc' = pc + 1) (K : Go p e below G (T.setTop (mkF m pc' Ls (.long (a % b) :: S)))) : Go p e below G (T.setTop (mkF m pc Ls (.long b :: .long a :: S))) := by
  obtain ⟨meth, c, locs, X, eT, N, hx, hby, hml, hown, hnm, hret, hlk, hZ, hn⟩ := X; subst hp
  exact go_of (fun _ k => XS.lrem (g := mkF m pc Ls (.long b :: .long a :: S)) X.here hx rfl (hb hby hd) rfl hz (by rw [lrem_mod]; exact k)) K
theorem w_ineg (X : Sd l Z n0 y bytes maxL ret R p e s m args below T h cells slots) {a : Int32} (hd : decode bytes pc = .ok (.ineg, 1)) (hp : pc' = pc + 1) (K : Go p e below G (T.setTop (mkF m pc' Ls (.int (-a) :: S)))) : Go p e below G (T.setTop (mkF m pc Ls (.int a :: S))) := by
  obtain ⟨meth, c, locs, X, eT, N, hx, hby, hml, hown, hnm, hret, hlk, hZ, hn⟩ := X; subst hp
  exact go_of (fun _ k => XS.ineg (g := (mkF m pc Ls (.int a :: S))) X.here hx rfl (hb hby hd) rfl k) K
theorem w_lneg (X : Sd l Z n0 y bytes maxL ret R p e s m args below T h cells slots) {a : Int64} (hd : decode bytes pc = .ok (.lneg, 1)) (hp : pc' = pc + 1) (K : Go p e below G (T.setTop (mkF m pc' Ls (.long (-a) :: S)))) : Go p e below G (T.setTop (mkF m pc Ls (.long a :: S))) := by
  obtain ⟨meth, c, locs, X, eT, N, hx, hby, hml, hown, hnm, hret, hlk, hZ, hn⟩ := X; subst hp
  exact go_of (fun _ k => XS.lneg (g := (mkF m pc Ls (.long a :: S))) X.here hx rfl (hb hby hd) rfl k) K
theorem w_i2l (X : Sd l Z n0 y bytes maxL ret R p e s m args below T h cells slots) {a : Int32} (hd : decode bytes pc = .ok (.i2l, 1)) (hp : pc' = pc + 1) (K : Go p e below G (T.setTop (mkF m pc' Ls (.long (a.toInt64) :: S)))) : Go p e below G (T.setTop (mkF m pc Ls (.int a :: S))) := by
  obtain ⟨meth, c, locs, X, eT, N, hx, hby, hml, hown, hnm, hret, hlk, hZ, hn⟩ := X; subst hp
  exact go_of (fun _ k => XS.i2l (g := (mkF m pc Ls (.int a :: S))) X.here hx rfl (hb hby hd) rfl k) K
theorem w_l2i (X : Sd l Z n0 y bytes maxL ret R p e s m args below T h cells slots) {a : Int64} (hd : decode bytes pc = .ok (.l2i, 1)) (hp : pc' = pc + 1) (K : Go p e below G (T.setTop (mkF m pc' Ls (.int (a.toInt32) :: S)))) : Go p e below G (T.setTop (mkF m pc Ls (.long a :: S))) := by
  obtain ⟨meth, c, locs, X, eT, N, hx, hby, hml, hown, hnm, hret, hlk, hZ, hn⟩ := X; subst hp
  exact go_of (fun _ k => XS.l2i (g := (mkF m pc Ls (.long a :: S))) X.here hx rfl (hb hby hd) rfl k) K
theorem w_i2b (X : Sd l Z n0 y bytes maxL ret R p e s m args below T h cells slots) {a : Int32} (hd : decode bytes pc = .ok (.i2b, 1)) (hp : pc' = pc + 1) (K : Go p e below G (T.setTop (mkF m pc' Ls (.int (a.toInt8.toInt32) :: S)))) : Go p e below G (T.setTop (mkF m pc Ls (.int a :: S))) := by
  obtain ⟨meth, c, locs, X, eT, N, hx, hby, hml, hown, hnm, hret, hlk, hZ, hn⟩ := X; subst hp
  exact go_of (fun _ k => XS.i2b (g := (mkF m pc Ls (.int a :: S))) X.here hx rfl (hb hby hd) rfl k) K
theorem w_i2s (X : Sd l Z n0 y bytes maxL ret R p e s m args below T h cells slots) {a : Int32} (hd : decode bytes pc = .ok (.i2s, 1)) (hp : pc' = pc + 1) (K : Go p e below G (T.setTop (mkF m pc' Ls (.int (a.toInt16.toInt32) :: S)))) : Go p e below G (T.setTop (mkF m pc Ls (.int a :: S))) := by
  obtain ⟨meth, c, locs, X, eT, N, hx, hby, hml, hown, hnm, hret, hlk, hZ, hn⟩ := X; subst hp
  exact go_of (fun _ k => XS.i2s (g := (mkF m pc Ls (.int a :: S))) X.here hx rfl (hb hby hd) rfl k) K
theorem w_i2c (X : Sd l Z n0 y bytes maxL ret R p e s m args below T h cells slots) {a : Int32} (hd : decode bytes pc = .ok (.i2c, 1)) (hp : pc' = pc + 1) (K : Go p e below G (T.setTop (mkF m pc' Ls (.int (a.toUInt32.toUInt16.toUInt32.toInt32) :: S)))) : Go p e below G (T.setTop (mkF m pc Ls (.int a :: S))) := by
  obtain ⟨meth, c, locs, X, eT, N, hx, hby, hml, hown, hnm, hret, hlk, hZ, hn⟩ := X; subst hp
  exact go_of (fun _ k => XS.i2c (g := (mkF m pc Ls (.int a :: S))) X.here hx rfl (hb hby hd) rfl k) K
theorem w_lcmp (X : Sd l Z n0 y bytes maxL ret R p e s m args below T h cells slots) {a b : Int64} (hd : decode bytes pc = .ok (.lcmp, 1)) (hp : pc' = pc + 1) (K : Go p e below G (T.setTop (mkF m pc' Ls (.int (lcmpW a b) :: S)))) : Go p e below G (T.setTop (mkF m pc Ls (.long b :: .long a :: S))) := by
  obtain ⟨meth, c, locs, X, eT, N, hx, hby, hml, hown, hnm, hret, hlk, hZ, hn⟩ := X; subst hp
  exact go_of (fun _ k => XS.lcmp (g := (mkF m pc Ls (.long b :: .long a :: S))) X.here hx rfl (hb hby hd) rfl k) K
theorem w_iinc (X : Sd l Z n0 y bytes maxL ret R p e s m args below T h cells slots) {k : Nat} {i : Int} {v : Int32} {l' : Array Slot} (z : Int32) (hd : decode bytes pc = .ok (.iinc k i, 3)) (hl : Ls[k]? = some (.val (.int v))) (hz : v + Int32.ofInt i = z) (hl' : storeLocals Ls k (.int z) = some l') (hp : pc' = pc + 3) (K : Go p e below G (T.setTop (mkF m pc' l' S))) : Go p e below G (T.setTop (mkF m pc Ls S)) := by
  obtain ⟨meth, c, locs, X, eT, N, hx, hby, hml, hown, hnm, hret, hlk, hZ, hn⟩ := X; subst hp
  exact go_of (fun _ k => XS.iinc (g := mkF m pc Ls S) X.here hx rfl (hb hby hd) hl (by rw [hz]; exact hl') k) K
theorem w_dup (X : Sd l Z n0 y bytes maxL ret R p e s m args below T h cells slots) {v : Value} (hd : decode bytes pc = .ok (.dup, 1)) (hc : v.category = 1) (hp : pc' = pc + 1) (K : Go p e below G (T.setTop (mkF m pc' Ls (v :: v :: S)))) : Go p e below G (T.setTop (mkF m pc Ls (v :: S))) := by
  obtain ⟨meth, c, locs, X, eT, N, hx, hby, hml, hown, hnm, hret, hlk, hZ, hn⟩ := X; subst hp
  exact go_of (fun _ k => XS.dup (g := (mkF m pc Ls (v :: S))) X.here hx rfl (hb hby hd) rfl hc k) K
theorem w_pop (X : Sd l Z n0 y bytes maxL ret R p e s m args below T h cells slots) {v : Value} (hd : decode bytes pc = .ok (.pop, 1)) (hc : v.category = 1) (hp : pc' = pc + 1) (K : Go p e below G (T.setTop (mkF m pc' Ls S))) : Go p e below G (T.setTop (mkF m pc Ls (v :: S))) := by
  obtain ⟨meth, c, locs, X, eT, N, hx, hby, hml, hown, hnm, hret, hlk, hZ, hn⟩ := X; subst hp
  exact go_of (fun _ k => XS.pop (g := (mkF m pc Ls (v :: S))) X.here hx rfl (hb hby hd) rfl hc k) K
theorem w_dup_x1 (X : Sd l Z n0 y bytes maxL ret R p e s m args below T h cells slots) {v w : Value} (hd : decode bytes pc = .ok (.dup_x1, 1)) (hc : v.category = 1) (hc2 : w.category = 1) (hp : pc' = pc + 1) (K : Go p e below G (T.setTop (mkF m pc' Ls (v :: w :: v :: S)))) : Go p e below G (T.setTop (mkF m pc Ls (v :: w :: S))) := by
  obtain ⟨meth, c, locs, X, eT, N, hx, hby, hml, hown, hnm, hret, hlk, hZ, hn⟩ := X; subst hp
  exact go_of (fun _ k => XS.dupX1 (g := (mkF m pc Ls (v :: w :: S))) X.here hx rfl (hb hby hd) rfl hc hc2 k) K
theorem w_dup2 (X : Sd l Z n0 y bytes maxL ret R p e s m args below T h cells slots) {v w : Value} (hd : decode bytes pc = .ok (.dup2, 1)) (hc : v.category = 1) (hc2 : w.category = 1) (hp : pc' = pc + 1) (K : Go p e below G (T.setTop (mkF m pc' Ls (v :: w :: v :: w :: S)))) : Go p e below G (T.setTop (mkF m pc Ls (v :: w :: S))) := by
  obtain ⟨meth, c, locs, X, eT, N, hx, hby, hml, hown, hnm, hret, hlk, hZ, hn⟩ := X; subst hp
  exact go_of (fun _ k => Jvm.Free.XT.dup2 (g := (mkF m pc Ls (v :: w :: S))) X.here hx rfl (hb hby hd) rfl hc hc2 k) K
theorem w_dup2L (X : Sd l Z n0 y bytes maxL ret R p e s m args below T h cells slots) {v : Int64} (hd : decode bytes pc = .ok (.dup2, 1)) (hp : pc' = pc + 1) (K : Go p e below G (T.setTop (mkF m pc' Ls (.long v :: .long v :: S)))) : Go p e below G (T.setTop (mkF m pc Ls (.long v :: S))) := by
  obtain ⟨meth, c, locs, X, eT, N, hx, hby, hml, hown, hnm, hret, hlk, hZ, hn⟩ := X; subst hp
  exact go_of (fun _ k => Jvm.Free.XT.dup2L (g := (mkF m pc Ls (.long v :: S))) X.here hx rfl (hb hby hd) rfl k) K
theorem w_goto (X : Sd l Z n0 y bytes maxL ret R p e s m args below T h cells slots) {i : Int} (hd : decode bytes pc = .ok (.goto i, 3)) (ho : 0 ≤ (pc : Int) + i) (hp : ((pc : Int) + i).toNat = pc') (K : Go p e below G (T.setTop (mkF m pc' Ls S))) : Go p e below G (T.setTop (mkF m pc Ls S)) := by
  obtain ⟨meth, c, locs, X, eT, N, hx, hby, hml, hown, hnm, hret, hlk, hZ, hn⟩ := X
  exact go_of (fun _ k => XS.goto (g := mkF m pc Ls S) X.here hx rfl rfl (hb hby hd) ho hp k) K
theorem w_icmp_eq (X : Sd l Z n0 y bytes maxL ret R p e s m args below T h cells slots) {a b : Int32} {i : Int} (pt pf : Nat) (hd : decode bytes pc = .ok (.if_icmp .eq i, 3)) (ho : 0 ≤ (pc : Int) + i) (ht : ((pc : Int) + i).toNat = pt) (hf : pf = pc + 3) (kt : a = b → Go p e below G (T.setTop (mkF m pt Ls S))) (kf : ¬ a = b → Go p e below G (T.setTop (mkF m pf Ls S))) : Go p e below G (T.setTop (mkF m pc Ls (.int b :: .int a :: S))) := by
  obtain ⟨meth, c, locs, X, eT, N, hx, hby, hml, hown, hnm, hret, hlk, hZ, hn⟩ := X; subst hf
  by_cases q : a = b
  · exact go_of (fun _ k => XS.icmpYes (g := mkF m pc Ls (.int b :: .int a :: S)) X.here hx rfl rfl (hb hby hd) rfl (teq q).1 ho ht k) (kt q)
  · skip
    exact go_of (fun _ k => XS.icmpNo (g := mkF m pc Ls (.int b :: .int a :: S)) X.here hx rfl (hb hby hd) rfl (feq q).1 k) (kf q)
theorem w_if_eq (X : Sd l Z n0 y bytes maxL ret R p e s m args below T h cells slots) {a : Int32} {i : Int} (pt pf : Nat) (hd : decode bytes pc = .ok (.ifCond .eq i, 3)) (ho : 0 ≤ (pc : Int) + i) (ht : ((pc : Int) + i).toNat = pt) (hf : pf = pc + 3) (kt : a = (0 : Int32) → Go p e below G (T.setTop (mkF m pt Ls S))) (kf : ¬ a = (0 : Int32) → Go p e below G (T.setTop (mkF m pf Ls S))) : Go p e below G (T.setTop (mkF m pc Ls (.int a :: S))) := by
  obtain ⟨meth, c, locs, X, eT, N, hx, hby, hml, hown, hnm, hret, hlk, hZ, hn⟩ := X; subst hf
  by_cases q : a = (0 : Int32)
  · exact go_of (fun _ k => XS.ifYes (g := mkF m pc Ls (.int a :: S)) X.here hx rfl rfl (hb hby hd) rfl ((if0 _ _).trans (teq q).1) ho ht k) (kt q)
  · skip
    exact go_of (fun _ k => XS.ifNo (g := mkF m pc Ls (.int a :: S)) X.here hx rfl (hb hby hd) rfl ((if0 _ _).trans (feq q).1) k) (kf q)
theorem w_icmp_ne (X : Sd l Z n0 y bytes maxL ret R p e s m args below T h cells slots) {a b : Int32} {i : Int} (pt pf : Nat) (hd : decode bytes pc = .ok (.if_icmp .ne i, 3)) (ho : 0 ≤ (pc : Int) + i) (ht : ((pc : Int) + i).toNat = pt) (hf : pf = pc + 3) (kt : ¬ a = b → Go p e below G (T.setTop (mkF m pt Ls S))) (kf : a = b → Go p e below G (T.setTop (mkF m pf Ls S))) : Go p e below G (T.setTop (mkF m pc Ls (.int b :: .int a :: S))) := by
  obtain ⟨meth, c, locs, X, eT, N, hx, hby, hml, hown, hnm, hret, hlk, hZ, hn⟩ := X; subst hf
  by_cases q : ¬ a = b
  · exact go_of (fun _ k => XS.icmpYes (g := mkF m pc Ls (.int b :: .int a :: S)) X.here hx rfl rfl (hb hby hd) rfl (feq q).2 ho ht k) (kt q)
  · replace q := Decidable.not_not.mp q
    exact go_of (fun _ k => XS.icmpNo (g := mkF m pc Ls (.int b :: .int a :: S)) X.here hx rfl (hb hby hd) rfl (teq q).2 k) (kf q)
theorem w_if_ne (X : Sd l Z n0 y bytes maxL ret R p e s m args below T h cells slots) {a : Int32} {i : Int} (pt pf : Nat) (hd : decode bytes pc = .ok (.ifCond .ne i, 3)) (ho : 0 ≤ (pc : Int) + i) (ht : ((pc : Int) + i).toNat = pt) (hf : pf = pc + 3) (kt : ¬ a = (0 : Int32) → Go p e below G (T.setTop (mkF m pt Ls S))) (kf : a = (0 : Int32) → Go p e below G (T.setTop (mkF m pf Ls S))) : Go p e below G (T.setTop (mkF m pc Ls (.int a :: S))) := by
  obtain ⟨meth, c, locs, X, eT, N, hx, hby, hml, hown, hnm, hret, hlk, hZ, hn⟩ := X; subst hf
  by_cases q : ¬ a = (0 : Int32)
  · exact go_of (fun _ k => XS.ifYes (g := mkF m pc Ls (.int a :: S)) X.here hx rfl rfl (hb hby hd) rfl ((if0 _ _).trans (feq q).2) ho ht k) (kt q)
  · replace q := Decidable.not_not.mp q
    exact go_of (fun _ k => XS.ifNo (g := mkF m pc Ls (.int a :: S)) X.here hx rfl (hb hby hd) rfl ((if0 _ _).trans (teq q).2) k) (kf q)
theorem w_icmp_lt (X : Sd l Z n0 y bytes maxL ret R p e s m args below T h cells slots) {a b : Int32} {i : Int} (pt pf : Nat) (hd : decode bytes pc = .ok (.if_icmp .lt i, 3)) (ho : 0 ≤ (pc : Int) + i) (ht : ((pc : Int) + i).toNat = pt) (hf : pf = pc + 3) (kt : a < b → Go p e below G (T.setTop (mkF m pt Ls S))) (kf : ¬ a < b → Go p e below G (T.setTop (mkF m pf Ls S))) : Go p e below G (T.setTop (mkF m pc Ls (.int b :: .int a :: S))) := by
  obtain ⟨meth, c, locs, X, eT, N, hx, hby, hml, hown, hnm, hret, hlk, hZ, hn⟩ := X; subst hf
  by_cases q : a < b
  · exact go_of (fun _ k => XS.icmpYes (g := mkF m pc Ls (.int b :: .int a :: S)) X.here hx rfl rfl (hb hby hd) rfl (tlt q).1 ho ht k) (kt q)
  · skip
    exact go_of (fun _ k => XS.icmpNo (g := mkF m pc Ls (.int b :: .int a :: S)) X.here hx rfl (hb hby hd) rfl (flt q).1 k) (kf q)
theorem w_if_lt (X : Sd l Z n0 y bytes maxL ret R p e s m args below T h cells slots) {a : Int32} {i : Int} (pt pf : Nat) (hd : decode bytes pc = .ok (.ifCond .lt i, 3)) (ho : 0 ≤ (pc : Int) + i) (ht : ((pc : Int) + i).toNat = pt) (hf : pf = pc + 3) (kt : a < (0 : Int32) → Go p e below G (T.setTop (mkF m pt Ls S))) (kf : ¬ a < (0 : Int32) → Go p e below G (T.setTop (mkF m pf Ls S))) : Go p e below G (T.setTop (mkF m pc Ls (.int a :: S))) := by
  obtain ⟨meth, c, locs, X, eT, N, hx, hby, hml, hown, hnm, hret, hlk, hZ, hn⟩ := X; subst hf
  by_cases q : a < (0 : Int32)
  · exact go_of (fun _ k => XS.ifYes (g := mkF m pc Ls (.int a :: S)) X.here hx rfl rfl (hb hby hd) rfl ((if0 _ _).trans (tlt q).1) ho ht k) (kt q)
  · skip
    exact go_of (fun _ k => XS.ifNo (g := mkF m pc Ls (.int a :: S)) X.here hx rfl (hb hby hd) rfl ((if0 _ _).trans (flt q).1) k) (kf q)
theorem w_icmp_ge (X : Sd l Z n0 y bytes maxL ret R p e s m args below T h cells slots) {a b : Int32} {i : Int} (pt pf : Nat) (hd : decode bytes pc = .ok (.if_icmp .ge i, 3)) (ho : 0 ≤ (pc : Int) + i) (ht : ((pc : Int) + i).toNat = pt) (hf : pf = pc + 3) (kt : ¬ a < b → Go p e below G (T.setTop (mkF m pt Ls S))) (kf : a < b → Go p e below G (T.setTop (mkF m pf Ls S))) : Go p e below G (T.setTop (mkF m pc Ls (.int b :: .int a :: S))) := by
  obtain ⟨meth, c, locs, X, eT, N, hx, hby, hml, hown, hnm, hret, hlk, hZ, hn⟩ := X; subst hf
  by_cases q : ¬ a < b
  · exact go_of (fun _ k => XS.icmpYes (g := mkF m pc Ls (.int b :: .int a :: S)) X.here hx rfl rfl (hb hby hd) rfl (flt q).2.1 ho ht k) (kt q)
  · replace q := Decidable.not_not.mp q
    exact go_of (fun _ k => XS.icmpNo (g := mkF m pc Ls (.int b :: .int a :: S)) X.here hx rfl (hb hby hd) rfl (tlt q).2.1 k) (kf q)
theorem w_if_ge (X : Sd l Z n0 y bytes maxL ret R p e s m args below T h cells slots) {a : Int32} {i : Int} (pt pf : Nat) (hd : decode bytes pc = .ok (.ifCond .ge i, 3)) (ho : 0 ≤ (pc : Int) + i) (ht : ((pc : Int) + i).toNat = pt) (hf : pf = pc + 3) (kt : ¬ a < (0 : Int32) → Go p e below G (T.setTop (mkF m pt Ls S))) (kf : a < (0 : Int32) → Go p e below G (T.setTop (mkF m pf Ls S))) : Go p e below G (T.setTop (mkF m pc Ls (.int a :: S))) := by
  obtain ⟨meth, c, locs, X, eT, N, hx, hby, hml, hown, hnm, hret, hlk, hZ, hn⟩ := X; subst hf
  by_cases q : ¬ a < (0 : Int32)
  · exact go_of (fun _ k => XS.ifYes (g := mkF m pc Ls (.int a :: S)) X.here hx rfl rfl (hb hby hd) rfl ((if0 _ _).trans (flt q).2.1) ho ht k) (kt q)
  · replace q := Decidable.not_not.mp q
    exact go_of (fun _ k => XS.ifNo (g := mkF m pc Ls (.int a :: S)) X.here hx rfl (hb hby hd) rfl ((if0 _ _).trans (tlt q).2.1) k) (kf q)
theorem w_icmp_gt (X : Sd l Z n0 y bytes maxL ret R p e s m args below T h cells slots) {a b : Int32} {i : Int} (pt pf : Nat) (hd : decode bytes pc = .ok (.if_icmp .gt i, 3)) (ho : 0 ≤ (pc : Int) + i) (ht : ((pc : Int) + i).toNat = pt) (hf : pf = pc + 3) (kt : b < a → Go p e below G (T.setTop (mkF m pt Ls S))) (kf : ¬ b < a → Go p e below G (T.setTop (mkF m pf Ls S))) : Go p e below G (T.setTop (mkF m pc Ls (.int b :: .int a :: S))) := by
  obtain ⟨meth, c, locs, X, eT, N, hx, hby, hml, hown, hnm, hret, hlk, hZ, hn⟩ := X; subst hf
  by_cases q : b < a
  · exact go_of (fun _ k => XS.icmpYes (g := mkF m pc Ls (.int b :: .int a :: S)) X.here hx rfl rfl (hb hby hd) rfl (tlt q).2.2.1 ho ht k) (kt q)
  · skip
    exact go_of (fun _ k => XS.icmpNo (g := mkF m pc Ls (.int b :: .int a :: S)) X.here hx rfl (hb hby hd) rfl (flt q).2.2.1 k) (kf q)
theorem w_if_gt (X : Sd l Z n0 y bytes maxL ret R p e s m args below T h cells slots) {a : Int32} {i : Int} (pt pf : Nat) (hd : decode bytes pc = .ok (.ifCond .gt i, 3)) (ho : 0 ≤ (pc : Int) + i) (ht : ((pc : Int) + i).toNat = pt) (hf : pf = pc + 3) (kt : (0 : Int32) < a → Go p e below G (T.setTop (mkF m pt Ls S))) (kf : ¬ (0 : Int32) < a → Go p e below G (T.setTop (mkF m pf Ls S))) : Go p e below G (T.setTop (mkF m pc Ls (.int a :: S))) := by
  obtain ⟨meth, c, locs, X, eT, N, hx, hby, hml, hown, hnm, hret, hlk, hZ, hn⟩ := X; subst hf
  by_cases q : (0 : Int32) < a
  · exact go_of (fun _ k => XS.ifYes (g := mkF m pc Ls (.int a :: S)) X.here hx rfl rfl (hb hby hd) rfl ((if0 _ _).trans (tlt q).2.2.1) ho ht k) (kt q)
  · skip
    exact go_of (fun _ k => XS.ifNo (g := mkF m pc Ls (.int a :: S)) X.here hx rfl (hb hby hd) rfl ((if0 _ _).trans (flt q).2.2.1) k) (kf q)
theorem w_icmp_le (X : Sd l Z n0 y bytes maxL ret R p e s m args below T h cells slots) {a b : Int32} {i : Int} (pt pf : Nat) (hd : decode bytes pc = .ok (.if_icmp .le i, 3)) (ho : 0 ≤ (pc : Int) + i) (ht : ((pc : Int) + i).toNat = pt) (hf : pf = pc + 3) (kt : ¬ b < a → Go p e below G (T.setTop (mkF m pt Ls S))) (kf : b < a → Go p e below G (T.setTop (mkF m pf Ls S))) : Go p e below G (T.setTop (mkF m pc Ls (.int b :: .int a :: S))) := by
  obtain ⟨meth, c, locs, X, eT, N, hx, hby, hml, hown, hnm, hret, hlk, hZ, hn⟩ := X; subst hf
  by_cases q : ¬ b < a
  · exact go_of (fun _ k => XS.icmpYes (g := mkF m pc Ls (.int b :: .int a :: S)) X.here hx rfl rfl (hb hby hd) rfl (flt q).2.2.2 ho ht k) (kt q)
  · replace q := Decidable.not_not.mp q
    exact go_of (fun _ k => XS.icmpNo (g := mkF m pc Ls (.int b :: .int a :: S)) X.here hx rfl (hb hby hd) rfl (tlt q).2.2.2 k) (kf q)
theorem w_if_le (X : Sd l Z n0 y bytes maxL ret R p e s m args below T h cells slots) {a : Int32} {i : Int} (pt pf : Nat) (hd : decode bytes pc = .ok (.ifCond .le i, 3)) (ho : 0 ≤ (pc : Int) + i) (ht : ((pc : Int) + i).toNat = pt) (hf : pf = pc + 3) (kt : ¬ (0 : Int32) < a → Go p e below G (T.setTop (mkF m pt Ls S))) (kf : (0 : Int32) < a → Go p e below G (T.setTop (mkF m pf Ls S))) : Go p e below G (T.setTop (mkF m pc Ls (.int a :: S))) := by
  obtain ⟨meth, c, locs, X, eT, N, hx, hby, hml, hown, hnm, hret, hlk, hZ, hn⟩ := X; subst hf
  by_cases q : ¬ (0 : Int32) < a
  · exact go_of (fun _ k => XS.ifYes (g := mkF m pc Ls (.int a :: S)) X.here hx rfl rfl (hb hby hd) rfl ((if0 _ _).trans (flt q).2.2.2) ho ht k) (kt q)
  · replace q := Decidable.not_not.mp q
    exact go_of (fun _ k => XS.ifNo (g := mkF m pc Ls (.int a :: S)) X.here hx rfl (hb hby hd) rfl ((if0 _ _).trans (tlt q).2.2.2) k) (kf q)
theorem w_lc_eq (X : Sd l Z n0 y bytes maxL ret R p e s m args below T h cells slots) {a b : Int64} {i : Int} (pt pf : Nat) (hd1 : decode bytes pc = .ok (.lcmp, 1)) (hd : decode bytes (pc + 1) = .ok (.ifCond .eq i, 3)) (ho : 0 ≤ ((pc + 1 : Nat) : Int) + i) (ht : (((pc + 1 : Nat) : Int) + i).toNat = pt) (hf : pf = pc + 4) (kt : a = b → Go p e below G (T.setTop (mkF m pt Ls S))) (kf : ¬ a = b → Go p e below G (T.setTop (mkF m pf Ls S))) : Go p e below G (T.setTop (mkF m pc Ls (.long b :: .long a :: S))) :=
  w_lcmp X hd1 rfl (w_if_eq X pt pf hd ho ht hf (fun q => kt ((lw_eq _ _).mp q)) (fun q => kf (fun z => q ((lw_eq _ _).mpr z))))
theorem w_lc_ne (X : Sd l Z n0 y bytes maxL ret R p e s m args below T h cells slots) {a b : Int64} {i : Int} (pt pf : Nat) (hd1 : decode bytes pc = .ok (.lcmp, 1)) (hd : decode bytes (pc + 1) = .ok (.ifCond .ne i, 3)) (ho : 0 ≤ ((pc + 1 : Nat) : Int) + i) (ht : (((pc + 1 : Nat) : Int) + i).toNat = pt) (hf : pf = pc + 4) (kt : ¬ a = b → Go p e below G (T.setTop (mkF m pt Ls S))) (kf : a = b → Go p e below G (T.setTop (mkF m pf Ls S))) : Go p e below G (T.setTop (mkF m pc Ls (.long b :: .long a :: S))) :=
  w_lcmp X hd1 rfl (w_if_ne X pt pf hd ho ht hf (fun q => kt (fun z => q ((lw_eq _ _).mpr z))) (fun q => kf ((lw_eq _ _).mp q)))
theorem w_lc_lt (X : Sd l Z n0 y bytes maxL ret R p e s m args below T h cells slots) {a b : Int64} {i : Int} (pt pf : Nat) (hd1 : decode bytes pc = .ok (.lcmp, 1)) (hd : decode bytes (pc + 1) = .ok (.ifCond .lt i, 3)) (ho : 0 ≤ ((pc + 1 : Nat) : Int) + i) (ht : (((pc + 1 : Nat) : Int) + i).toNat = pt) (hf : pf = pc + 4) (kt : a < b → Go p e below G (T.setTop (mkF m pt Ls S))) (kf : ¬ a < b → Go p e below G (T.setTop (mkF m pf Ls S))) : Go p e below G (T.setTop (mkF m pc Ls (.long b :: .long a :: S))) :=
  w_lcmp X hd1 rfl (w_if_lt X pt pf hd ho ht hf (fun q => kt ((lw_lt _ _).mp q)) (fun q => kf (fun z => q ((lw_lt _ _).mpr z))))
theorem w_lc_ge (X : Sd l Z n0 y bytes maxL ret R p e s m args below T h cells slots) {a b : Int64} {i : Int} (pt pf : Nat) (hd1 : decode bytes pc = .ok (.lcmp, 1)) (hd : decode bytes (pc + 1) = .ok (.ifCond .ge i, 3)) (ho : 0 ≤ ((pc + 1 : Nat) : Int) + i) (ht : (((pc + 1 : Nat) : Int) + i).toNat = pt) (hf : pf = pc + 4) (kt : ¬ a < b → Go p e below G (T.setTop (mkF m pt Ls S))) (kf : a < b → Go p e below G (T.setTop (mkF m pf Ls S))) : Go p e below G (T.setTop (mkF m pc Ls (.long b :: .long a :: S))) :=
  w_lcmp X hd1 rfl (w_if_ge X pt pf hd ho ht hf (fun q => kt (fun z => q ((lw_lt _ _).mpr z))) (fun q => kf ((lw_lt _ _).mp q)))
theorem w_lc_gt (X : Sd l Z n0 y bytes maxL ret R p e s m args below T h cells slots) {a b : Int64} {i : Int} (pt pf : Nat) (hd1 : decode bytes pc = .ok (.lcmp, 1)) (hd : decode bytes (pc + 1) = .ok (.ifCond .gt i, 3)) (ho : 0 ≤ ((pc + 1 : Nat) : Int) + i) (ht : (((pc + 1 : Nat) : Int) + i).toNat = pt) (hf : pf = pc + 4) (kt : b < a → Go p e below G (T.setTop (mkF m pt Ls S))) (kf : ¬ b < a → Go p e below G (T.setTop (mkF m pf Ls S))) : Go p e below G (T.setTop (mkF m pc Ls (.long b :: .long a :: S))) :=
  w_lcmp X hd1 rfl (w_if_gt X pt pf hd ho ht hf (fun q => kt ((lw_gt _ _).mp q)) (fun q => kf (fun z => q ((lw_gt _ _).mpr z))))
theorem w_lc_le (X : Sd l Z n0 y bytes maxL ret R p e s m args below T h cells slots) {a b : Int64} {i : Int} (pt pf : Nat) (hd1 : decode bytes pc = .ok (.lcmp, 1)) (hd : decode bytes (pc + 1) = .ok (.ifCond .le i, 3)) (ho : 0 ≤ ((pc + 1 : Nat) : Int) + i) (ht : (((pc + 1 : Nat) : Int) + i).toNat = pt) (hf : pf = pc + 4) (kt : ¬ b < a → Go p e below G (T.setTop (mkF m pt Ls S))) (kf : b < a → Go p e below G (T.setTop (mkF m pf Ls S))) : Go p e below G (T.setTop (mkF m pc Ls (.long b :: .long a :: S))) :=
  w_lcmp X hd1 rfl (w_if_le X pt pf hd ho ht hf (fun q => kt (fun z => q ((lw_gt _ _).mpr z))) (fun q => kf ((lw_gt _ _).mp q)))
theorem w_ifnullY (X : Sd l Z n0 y bytes maxL ret R p e s m args below T h cells slots) {i : Int} (hd : decode bytes pc = .ok (.ifnull i, 3)) (ho : 0 ≤ (pc : Int) + i) (hp : ((pc : Int) + i).toNat = pc') (K : Go p e below G (T.setTop (mkF m pc' Ls S))) : Go p e below G (T.setTop (mkF m pc Ls (.null :: S))) := by
  obtain ⟨meth, c, locs, X, eT, N, hx, hby, hml, hown, hnm, hret, hlk, hZ, hn⟩ := X
  exact go_of (fun _ k => XS.ifnullYes (g := mkF m pc Ls (.null :: S)) X.here hx rfl rfl (hb hby hd) rfl ho hp k) K
theorem w_ifnullN (X : Sd l Z n0 y bytes maxL ret R p e s m args below T h cells slots) {b : Addr} {i : Int} (hd : decode bytes pc = .ok (.ifnull i, 3)) (hp : pc' = pc + 3) (K : Go p e below G (T.setTop (mkF m pc' Ls S))) : Go p e below G (T.setTop (mkF m pc Ls (.ref b :: S))) := by
  obtain ⟨meth, c, locs, X, eT, N, hx, hby, hml, hown, hnm, hret, hlk, hZ, hn⟩ := X; subst hp
  exact go_of (fun _ k => XS.ifnullNo (g := mkF m pc Ls (.ref b :: S)) X.here hx rfl (hb hby hd) rfl k) K
theorem w_ifnonnullY (X : Sd l Z n0 y bytes maxL ret R p e s m args below T h cells slots) {b : Addr} {i : Int} (hd : decode bytes pc = .ok (.ifnonnull i, 3)) (ho : 0 ≤ (pc : Int) + i) (hp : ((pc : Int) + i).toNat = pc') (K : Go p e below G (T.setTop (mkF m pc' Ls S))) : Go p e below G (T.setTop (mkF m pc Ls (.ref b :: S))) := by
  obtain ⟨meth, c, locs, X, eT, N, hx, hby, hml, hown, hnm, hret, hlk, hZ, hn⟩ := X
  exact go_of (fun _ k => XS.ifnonnullYes (g := mkF m pc Ls (.ref b :: S)) X.here hx rfl rfl (hb hby hd) rfl ho hp k) K
theorem w_ifnonnullN (X : Sd l Z n0 y bytes maxL ret R p e s m args below T h cells slots) {i : Int} (hd : decode bytes pc = .ok (.ifnonnull i, 3)) (hp : pc' = pc + 3) (K : Go p e below G (T.setTop (mkF m pc' Ls S))) : Go p e below G (T.setTop (mkF m pc Ls (.null :: S))) := by
  obtain ⟨meth, c, locs, X, eT, N, hx, hby, hml, hown, hnm, hret, hlk, hZ, hn⟩ := X; subst hp
  exact go_of (fun _ k => XS.ifnonnullNo (g := mkF m pc Ls (.null :: S)) X.here hx rfl (hb hby hd) rfl k) K
theorem w_acmp_eq (X : Sd l Z n0 y bytes maxL ret R p e s m args below T h cells slots) {v w : Value} (hv : v.isRef = true) (hw : w.isRef = true) {i : Int} (pt pf : Nat) (hd : decode bytes pc = .ok (.if_acmp .eq i, 3)) (ho : 0 ≤ (pc : Int) + i) (ht : ((pc : Int) + i).toNat = pt) (hf : pf = pc + 3) (kt : v = w → Go p e below G (T.setTop (mkF m pt Ls S))) (kf : ¬ v = w → Go p e below G (T.setTop (mkF m pf Ls S))) : Go p e below G (T.setTop (mkF m pc Ls (w :: v :: S))) := by
  obtain ⟨meth, c, locs, X, eT, N, hx, hby, hml, hown, hnm, hret, hlk, hZ, hn⟩ := X; subst hf ht
  by_cases q : v = w
  · exact go_of (fun _ k => Jvm.RoadKit.acmp (g := mkF m pc Ls (w :: v :: S)) X hx rfl hv hw (same := true) rfl (hb hby hd) rfl (decide_eq_true q) ho rfl k) (kt q)
  · exact go_of (fun _ k => Jvm.RoadKit.acmp (g := mkF m pc Ls (w :: v :: S)) X hx rfl hv hw (same := false) rfl (hb hby hd) rfl (decide_eq_false q) ho rfl k) (kf q)
theorem w_acmp_ne (X : Sd l Z n0 y bytes maxL ret R p e s m args below T h cells slots) {v w : Value} (hv : v.isRef = true) (hw : w.isRef = true) {i : Int} (pt pf : Nat) (hd : decode bytes pc = .ok (.if_acmp .ne i, 3)) (ho : 0 ≤ (pc : Int) + i) (ht : ((pc : Int) + i).toNat = pt) (hf : pf = pc + 3) (kt : ¬ v = w → Go p e below G (T.setTop (mkF m pt Ls S))) (kf : v = w → Go p e below G (T.setTop (mkF m pf Ls S))) : Go p e below G (T.setTop (mkF m pc Ls (w :: v :: S))) := by
  obtain ⟨meth, c, locs, X, eT, N, hx, hby, hml, hown, hnm, hret, hlk, hZ, hn⟩ := X; subst hf ht
  by_cases q : v = w
  · exact go_of (fun _ k => Jvm.RoadKit.acmp (g := mkF m pc Ls (w :: v :: S)) X hx rfl hv hw (same := true) rfl (hb hby hd) rfl (decide_eq_true q) ho rfl k) (kf q)
  · exact go_of (fun _ k => Jvm.RoadKit.acmp (g := mkF m pc Ls (w :: v :: S)) X hx rfl hv hw (same := false) rfl (hb hby hd) rfl (decide_eq_false q) ho rfl k) (kt q)
theorem w_ldc (X : Sd l Z n0 y bytes maxL ret R p e s m args below T h cells slots) {i : Nat} {v : Int32} (hd : decode bytes pc = .ok (.ldc i, 2)) (w : (Jvm.Cond.constant y.cls i v).before a0 Z = true) (hp : pc' = pc + 2) (K : Go p e below G (T.setTop (mkF m pc' Ls (.int v :: S)))) : Go p e below G (T.setTop (mkF m pc Ls S)) := by
  obtain ⟨meth, c, locs, X, eT, N, hx, hby, hml, hown, hnm, hret, hlk, hZ, hn⟩ := X; subst hp
  exact go_of (X.ldcInt hx hown (mvT hZ w) (g := mkF m pc Ls S) rfl (hb hby hd)) K
theorem w_ldc2 (X : Sd l Z n0 y bytes maxL ret R p e s m args below T h cells slots) {i : Nat} {v : Int64} (hd : decode bytes pc = .ok (.ldc2_w i, 3)) (w : (Jvm.Cond.constantLong y.cls i v).before a0 Z = true) (hp : pc' = pc + 3) (K : Go p e below G (T.setTop (mkF m pc' Ls (.long v :: S)))) : Go p e below G (T.setTop (mkF m pc Ls S)) := by
  obtain ⟨meth, c, locs, X, eT, N, hx, hby, hml, hown, hnm, hret, hlk, hZ, hn⟩ := X; subst hp
  exact go_of (X.ldc2Long hx hown (mvT hZ w) (g := mkF m pc Ls S) rfl (hb hby hd)) K
theorem w_getfield (X : Sd l Z n0 y bytes maxL ret R p e s m args below T h cells slots) {i : Nat} {R0 O n d : String} {a : Addr} {v : Value} (hd : decode bytes pc = .ok (.getfield i, 3)) {host : String} (w : (Jvm.Cond.fieldLink y.cls i R0 n d).before a0 Z = true ∨ (Jvm.Cond.fieldLinkNest y.cls i R0 n d host).before a0 Z = true) (via : Via Z R0 O n d) (F : Fld Z h a O n d v) (hp : pc' = pc + 3) (K : ∀ T', Sd l Z n0 y bytes maxL ret R p e s m args below T' h cells slots → Go p e below G (T'.setTop (mkF m (pc') Ls (v :: S)))) : Go p e below G (T.setTop (mkF m pc Ls (.ref a :: S))) := by
  obtain ⟨meth, c, locs, X, eT, N, hx, hby, hml, hown, hnm, hret, hlk, hZ, hn⟩ := X; subst hp
  obtain ⟨T', X', e', st⟩ := getF X hx hZ hown w via eT F (g := mkF m pc Ls (.ref a :: S)) rfl rfl (hb hby hd)
  exact go_of st (K T' ⟨meth, c, _, X', e', N, hx, hby, hml, hown, hnm, hret, hlk, hZ, hn⟩)
theorem w_getstatic (X : Sd l Z n0 y bytes maxL ret R p e s m args below T h cells slots) {i : Nat} {R0 O n d : String} {v : Value} (hd : decode bytes pc = .ok (.getstatic i, 3)) {host : String} (w : (Jvm.Cond.fieldLink y.cls i R0 n d).before a0 Z = true ∨ (Jvm.Cond.fieldLinkNest y.cls i R0 n d host).before a0 Z = true) (via : Via Z R0 O n d) (F : Sta Z h O n d v) (hp : pc' = pc + 3) (K : ∀ T', Sd l Z n0 y bytes maxL ret R p e s m args below T' h cells slots → Go p e below G (T'.setTop (mkF m (pc') Ls (v :: S)))) : Go p e below G (T.setTop (mkF m pc Ls S)) := by
  obtain ⟨meth, c, locs, X, eT, N, hx, hby, hml, hown, hnm, hret, hlk, hZ, hn⟩ := X; subst hp
  obtain ⟨T', X', e', st⟩ := getS2 X hx hZ hown w via eT F (g := mkF m pc Ls S) rfl (hb hby hd)
  exact go_of st (K T' ⟨meth, c, _, X', e', N, hx, hby, hml, hown, hnm, hret, hlk, hZ, hn⟩)
theorem w_putfield (X : Sd l Z n0 y bytes maxL ret R p e s m args below T h cells slots) {i kk : Nat} {R0 O n d C : String} {ty : FieldType} {a : Addr} {v old : Value} (hd : decode bytes pc = .ok (.putfield i, 3)) {host : String} (w : (Jvm.Cond.fieldLink y.cls i R0 n d).before a0 Z = true ∨ (Jvm.Cond.fieldLinkNest y.cls i R0 n d host).before a0 Z = true) (via : Via Z R0 O n d) (F : Fld Z h a O n d old) (E : Exa Z h a C) (L : (Jvm.Cond.lays C O n d).before a0 Z = true ∨ ((Jvm.Cond.laysFinal C O n d).before a0 Z = true ∧ y.cls = O ∧ y.name = "<init>")) (wi : (Jvm.Cond.instantiable C kk).before a0 Z = true) (hty : parseFieldDescriptor d = some ty) (hna : narrow ty v = v) (hfi : fits ty v = true) (hg : n0 ≤ a) (hp : pc' = pc + 3) (K : ∀ T' h', Sd l Z n0 y bytes maxL ret R p e s m args below T' h' cells slots → Wr h h' a (Jvm.RoadKit.slotOf Z O n d) v → Fld Z h' a O n d v → Go p e below G (T'.setTop (mkF m (pc') Ls S))) : Go p e below G (T.setTop (mkF m pc Ls (v :: .ref a :: S))) := by
  obtain ⟨meth, c, locs, X, eT, N, hx, hby, hml, hown, hnm, hret, hlk, hZ, hn⟩ := X; subst hp
  obtain ⟨T', h', X', e', W, st⟩ := putF X hx hZ hown w via eT F E (L.imp id fun q => ⟨q.1, q.2.1, hnm.trans q.2.2⟩) wi hty hna hfi (g := mkF m pc Ls (v :: .ref a :: S)) rfl rfl (hb hby hd)
  exact go_of st (K T' h' ⟨meth, c, _, X', e', Fr.snoc X' N hg, hx, hby, hml, hown, hnm, hret, hlk, hZ, hn⟩ W (F.same W))
theorem w_putfieldN (X : Sd l Z n0 y bytes maxL ret R p e s m args below T h cells slots) {i kk : Nat} {R0 O n d C : String} {ty : FieldType} {a : Addr} {v v' old : Value} (hd : decode bytes pc = .ok (.putfield i, 3)) (w : (Jvm.Cond.fieldLink y.cls i R0 n d).before a0 Z = true) (via : Via Z R0 O n d) (F : Fld Z h a O n d old) (E : Exa Z h a C) (L : (Jvm.Cond.lays C O n d).before a0 Z = true ∨ ((Jvm.Cond.laysFinal C O n d).before a0 Z = true ∧ y.cls = O ∧ y.name = "<init>")) (wi : (Jvm.Cond.instantiable C kk).before a0 Z = true) (hty : parseFieldDescriptor d = some ty) (hna : narrow ty v = v') (hfi : fits ty v' = true) (hg : n0 ≤ a) (hp : pc' = pc + 3) (K : ∀ T' h', Sd l Z n0 y bytes maxL ret R p e s m args below T' h' cells slots → Wr h h' a (Jvm.RoadKit.slotOf Z O n d) v' → Fld Z h' a O n d v' → Go p e below G (T'.setTop (mkF m (pc') Ls S))) : Go p e below G (T.setTop (mkF m pc Ls (v :: .ref a :: S))) := by
  obtain ⟨meth, c, locs, X, eT, N, hx, hby, hml, hown, hnm, hret, hlk, hZ, hn⟩ := X; subst hp
  obtain ⟨T', h', X', e', W, st⟩ := putFN X hx hZ hown w via eT F E (L.imp id fun q => ⟨q.1, q.2.1, hnm.trans q.2.2⟩) wi hty hna hfi (g := mkF m pc Ls (v :: .ref a :: S)) rfl rfl (hb hby hd)
  exact go_of st (K T' h' ⟨meth, c, _, X', e', Fr.snoc X' N hg, hx, hby, hml, hown, hnm, hret, hlk, hZ, hn⟩ W (F.same W))
theorem w_new (X : Sd l Z n0 y bytes maxL ret R p e s m args below T h cells slots) {i n : Nat} {C : String} (hd : decode bytes pc = .ok (.new i, 3)) (w : (Jvm.Cond.classLink y.cls i C).before a0 Z = true) (wi : (Jvm.Cond.instantiable C n).before a0 Z = true) (wz : (Jvm.Cond.initialized C).before a0 Z = true) (hc : cells + 1 ≤ R.cells) (hl : slots + n ≤ R.slots) (hp : pc' = pc + 3)
    (K : ∀ T' h' b, b = h.size → n0 ≤ b → Sd l Z n0 y bytes maxL ret R p e s m args below T' h' (cells + 1) (slots + n) → Ext h h' → Exa Z h' b C → (∀ {O nm d : String} {ty : FieldType}, Laid Z a0 C O nm d → parseFieldDescriptor d = some ty → Fld Z h' b O nm d (defaultValue ty)) → Go p e below G (T'.setTop (mkF m (pc') Ls (.ref b :: S)))) : Go p e below G (T.setTop (mkF m pc Ls S)) := by
  have hsz := sd_size X
  obtain ⟨meth, c, locs, X, eT, N, hx, hby, hml, hown, hnm, hret, hlk, hZ, hn⟩ := X; subst hp
  obtain ⟨T', h', X', e', E', A', D', -, st⟩ := newO X hx hZ hown w wi wz eT (g := mkF m pc Ls S) rfl (hb hby hd) hc hl
  exact go_of st (K T' h' _ rfl hsz ⟨meth, c, _, X', e', N, hx, hby, hml, hown, hnm, hret, hlk, hZ, hn⟩ E' A' D')
/-- an array of n places, the i-th holding f i -/
def Ary (Z : State) (h : Heap) (a : Addr) (ty : FieldType) (n : Nat) (f : Nat → Value) : Prop := ∃ c : Cell, Arr Z h a c ty ∧ c.slots.size = n ∧ n < 2 ^ 31 ∧ ∀ i, i < n → c.slots[i]? = some (f i)
def upd (f : Nat → Value) (i : Nat) (v : Value) : Nat → Value := fun j => if j = i then v else f j
theorem upd_same (f : Nat → Value) (i : Nat) (v : Value) : upd f i v i = v := if_pos rfl
theorem upd_other (f : Nat → Value) {i j : Nat} (v : Value) (q : j ≠ i) : upd f i v j = f j := if_neg q
theorem Ary.lt {a : Addr} {ty : FieldType} {n : Nat} {f : Nat → Value} (A : Ary Z h a ty n f) : a < h.size := by obtain ⟨c, A, -⟩ := A; exact A.lt
theorem Ary.ext {h' : Heap} {a : Addr} {ty : FieldType} {n : Nat} {f : Nat → Value} (A : Ary Z h a ty n f) (E : Ext h h') : Ary Z h' a ty n f := by obtain ⟨c, A, r⟩ := A; exact ⟨c, A.ext E, r⟩
theorem Ary.keep {h' : Heap} {a : Addr} {ty : FieldType} {n : Nat} {f : Nat → Value} {ws : List Addr} (A : Ary Z h a ty n f) (K : Keep h h' ws) (q : a ∉ ws) : Ary Z h' a ty n f := by obtain ⟨c, A, r⟩ := A; exact ⟨c, ⟨K.2.1 a c A.1 q, A.2⟩, r⟩
theorem Ary.other {h' : Heap} {a b : Addr} {sl : Nat} {v : Value} {ty : FieldType} {n : Nat} {f : Nat → Value} (A : Ary Z h a ty n f) (W : Wr h h' b sl v) (q : a ≠ b) : Ary Z h' a ty n f := by obtain ⟨c, A, r⟩ := A; exact ⟨c, A.other W q, r⟩
theorem Ary.congr {a : Addr} {ty : FieldType} {n : Nat} {f g : Nat → Value} (A : Ary Z h a ty n f) (q : ∀ i, i < n → f i = g i) : Ary Z h a ty n g := by obtain ⟨c, A, r1, r2, r3⟩ := A; exact ⟨c, A, r1, r2, fun i hi => by rw [r3 i hi, q i hi]⟩
theorem Ary.set {h' : Heap} {a : Addr} {ty : FieldType} {n i : Nat} {v : Value} {f : Nat → Value} (A : Ary Z h a ty n f) (W : Wr h h' a i v) (hi : i < n) : Ary Z h' a ty n (upd f i v) := by
  obtain ⟨c, A, rfl, r2, r3⟩ := A
  refine ⟨c.setSlot i v, A.same W, sz_set _ _ _, r2, fun j hj => ?_⟩
  by_cases q : j = i
  · subst q; simp [Cell.setSlot, hj, upd]
  · rw [upd_other f v q, ← r3 j hj]; exact Array.getElem?_setIfInBounds_ne (Ne.symm q)
theorem nat_at {j : Int32} {i : Nat} (hj : j.toInt = (i : Int)) : j.toNatClampNeg = i ∧ ¬ j < 0 := by
  constructor
  · simp only [Int32.toNatClampNeg, hj]; omega
  · simp only [Int32.lt_iff_toInt_lt, Int32.reduceToInt, hj]; omega
theorem in_at {j : Int32} {i n : Nat} {c : Cell} (hj : j.toInt = (i : Int)) (hn : c.slots.size = n) (hi : i < n) : ¬ (j < 0 ∨ c.slots.size ≤ j.toNatClampNeg) := by
  obtain ⟨q1, q2⟩ := nat_at hj
  rw [q1]; rintro (q | q)
  · exact q2 q
  · omega
theorem w_arraylength (X : Sd l Z n0 y bytes maxL ret R p e s m args below T h cells slots) {a : Addr} {ty : FieldType} {n : Nat} {f : Nat → Value} (z : Int32) (hd : decode bytes pc = .ok (.arraylength, 1)) (A : Ary Z h a ty n f) (hz : z.toInt = (n : Int)) (hp : pc' = pc + 1) (K : Go p e below G (T.setTop (mkF m pc' Ls (.int z :: S)))) : Go p e below G (T.setTop (mkF m pc Ls (.ref a :: S))) := by
  obtain ⟨meth, c, locs, X, eT, N, hx, hby, hml, hown, hnm, hret, hlk, hZ, hn⟩ := X; subst hp
  obtain ⟨cl, A, r1, r2, -⟩ := A
  have ez : cl.slots.size.toInt32 = z := Int32.toInt_inj.mp (by rw [r1, len_toInt r2, hz])
  exact go_of (fun t k => X.arraylength hx (by rw [eT]; exact A.1) (State.isArrayOf_alike hZ.alike A.2.1) (g := mkF m pc Ls (.ref a :: S)) rfl rfl (hb hby hd) t (by rw [ez]; exact k)) K
theorem w_iaload (X : Sd l Z n0 y bytes maxL ret R p e s m args below T h cells slots) {a : Addr} {n : Nat} {f : Nat → Value} {j : Int32} (i : Nat) {v : Value} (hd : decode bytes pc = .ok (.iaload, 1)) (A : Ary Z h a .int n f) (hj : j.toInt = (i : Int)) (hi : i < n) (hv : f i = v) (hp : pc' = pc + 1) (K : Go p e below G (T.setTop (mkF m pc' Ls (v :: S)))) : Go p e below G (T.setTop (mkF m pc Ls (.int j :: .ref a :: S))) := by
  obtain ⟨meth, c, locs, X, eT, N, hx, hby, hml, hown, hnm, hret, hlk, hZ, hn⟩ := X; subst hp
  obtain ⟨cl, A, r1, r2, r3⟩ := A
  exact go_of (fun t k => X.iaload hx (j := j) (v := v) (by rw [eT]; exact A.1) (State.isArrayOf_alike hZ.alike A.2.1) A.2.2 (in_at hj r1 hi) (by rw [(nat_at hj).1, r3 i hi, hv]) (g := mkF m pc Ls (.int j :: .ref a :: S)) rfl rfl (hb hby hd) t k) K
theorem w_laload (X : Sd l Z n0 y bytes maxL ret R p e s m args below T h cells slots) {a : Addr} {n : Nat} {f : Nat → Value} {j : Int32} (i : Nat) {v : Value} (hd : decode bytes pc = .ok (.laload, 1)) (A : Ary Z h a .long n f) (hj : j.toInt = (i : Int)) (hi : i < n) (hv : f i = v) (hp : pc' = pc + 1) (K : Go p e below G (T.setTop (mkF m pc' Ls (v :: S)))) : Go p e below G (T.setTop (mkF m pc Ls (.int j :: .ref a :: S))) := by
  obtain ⟨meth, c, locs, X, eT, N, hx, hby, hml, hown, hnm, hret, hlk, hZ, hn⟩ := X; subst hp
  obtain ⟨cl, A, r1, r2, r3⟩ := A
  exact go_of (fun t k => X.laload hx (j := j) (v := v) (by rw [eT]; exact A.1) (State.isArrayOf_alike hZ.alike A.2.1) A.2.2 (in_at hj r1 hi) (by rw [(nat_at hj).1, r3 i hi, hv]) (g := mkF m pc Ls (.int j :: .ref a :: S)) rfl rfl (hb hby hd) t k) K
theorem w_caload (X : Sd l Z n0 y bytes maxL ret R p e s m args below T h cells slots) {a : Addr} {n : Nat} {f : Nat → Value} {j : Int32} (i : Nat) {v : Value} (hd : decode bytes pc = .ok (.caload, 1)) (A : Ary Z h a .char n f) (hj : j.toInt = (i : Int)) (hi : i < n) (hv : f i = v) (hp : pc' = pc + 1) (K : Go p e below G (T.setTop (mkF m pc' Ls (v :: S)))) : Go p e below G (T.setTop (mkF m pc Ls (.int j :: .ref a :: S))) := by
  obtain ⟨meth, c, locs, X, eT, N, hx, hby, hml, hown, hnm, hret, hlk, hZ, hn⟩ := X; subst hp
  obtain ⟨cl, A, r1, r2, r3⟩ := A
  exact go_of (fun t k => X.caload hx (j := j) (v := v) (by rw [eT]; exact A.1) (State.isArrayOf_alike hZ.alike A.2.1) A.2.2 (in_at hj r1 hi) (by rw [(nat_at hj).1, r3 i hi, hv]) (g := mkF m pc Ls (.int j :: .ref a :: S)) rfl rfl (hb hby hd) t k) K
theorem w_baload (X : Sd l Z n0 y bytes maxL ret R p e s m args below T h cells slots) {a : Addr} {n : Nat} {f : Nat → Value} {j : Int32} (i : Nat) {v : Value} (hd : decode bytes pc = .ok (.baload, 1)) (A : Ary Z h a .byte n f) (hj : j.toInt = (i : Int)) (hi : i < n) (hv : f i = v) (hp : pc' = pc + 1) (K : Go p e below G (T.setTop (mkF m pc' Ls (v :: S)))) : Go p e below G (T.setTop (mkF m pc Ls (.int j :: .ref a :: S))) := by
  obtain ⟨meth, c, locs, X, eT, N, hx, hby, hml, hown, hnm, hret, hlk, hZ, hn⟩ := X; subst hp
  obtain ⟨cl, A, r1, r2, r3⟩ := A
  exact go_of (fun t k => X.baloadBytes hx (j := j) (v := v) (by rw [eT]; exact A.1) (State.isArrayOf_alike hZ.alike A.2.1) A.2.2 (in_at hj r1 hi) (by rw [(nat_at hj).1, r3 i hi, hv]) (g := mkF m pc Ls (.int j :: .ref a :: S)) rfl rfl (hb hby hd) t k) K
theorem w_zaload (X : Sd l Z n0 y bytes maxL ret R p e s m args below T h cells slots) {a : Addr} {n : Nat} {f : Nat → Value} {j : Int32} (i : Nat) {v : Value} (hd : decode bytes pc = .ok (.baload, 1)) (A : Ary Z h a .boolean n f) (hj : j.toInt = (i : Int)) (hi : i < n) (hv : f i = v) (hp : pc' = pc + 1) (K : Go p e below G (T.setTop (mkF m pc' Ls (v :: S)))) : Go p e below G (T.setTop (mkF m pc Ls (.int j :: .ref a :: S))) := by
  obtain ⟨meth, c, locs, X, eT, N, hx, hby, hml, hown, hnm, hret, hlk, hZ, hn⟩ := X; subst hp
  obtain ⟨cl, A, r1, r2, r3⟩ := A
  exact go_of (fun t k => X.baloadBooleans hx (j := j) (v := v) (by rw [eT]; exact A.1) (State.isArrayOf_alike hZ.alike A.2.1) A.2.2 (in_at hj r1 hi) (by rw [(nat_at hj).1, r3 i hi, hv]) (g := mkF m pc Ls (.int j :: .ref a :: S)) rfl rfl (hb hby hd) t k) K
theorem w_aaload (X : Sd l Z n0 y bytes maxL ret R p e s m args below T h cells slots) {a : Addr} {ty : FieldType} {n : Nat} {f : Nat → Value} {j : Int32} (i : Nat) {v : Value} (hd : decode bytes pc = .ok (.aaload, 1)) (A : Ary Z h a ty n f) (hty : ty.isReference = true) (hj : j.toInt = (i : Int)) (hi : i < n) (hv : f i = v) (hp : pc' = pc + 1) (K : Go p e below G (T.setTop (mkF m pc' Ls (v :: S)))) : Go p e below G (T.setTop (mkF m pc Ls (.int j :: .ref a :: S))) := by
  obtain ⟨meth, c, locs, X, eT, N, hx, hby, hml, hown, hnm, hret, hlk, hZ, hn⟩ := X; subst hp
  obtain ⟨cl, A, r1, r2, r3⟩ := A
  exact go_of (fun t k => X.aaload hx (j := j) (v := v) (by rw [eT]; exact A.1) (State.isArrayOf_alike hZ.alike A.2.1) hty A.2.2 (in_at hj r1 hi) (by rw [(nat_at hj).1, r3 i hi, hv]) (g := mkF m pc Ls (.int j :: .ref a :: S)) rfl rfl (hb hby hd) t k) K
theorem w_iastore (X : Sd l Z n0 y bytes maxL ret R p e s m args below T h cells slots) {a : Addr} {n : Nat} {f : Nat → Value} {j : Int32} (i : Nat) {v : Int32} (hd : decode bytes pc = .ok (.iastore, 1)) (A : Ary Z h a .int n f) (hj : j.toInt = (i : Int)) (hi : i < n) (hg : n0 ≤ a) (hp : pc' = pc + 1) (K : ∀ T' h', Sd l Z n0 y bytes maxL ret R p e s m args below T' h' cells slots → Wr h h' a i (.int v) → Ary Z h' a .int n (upd f i (.int v)) → Go p e below G (T'.setTop (mkF m (pc') Ls S))) : Go p e below G (T.setTop (mkF m pc Ls (.int v :: .int j :: .ref a :: S))) := by
  obtain ⟨meth, c, locs, X, eT, N, hx, hby, hml, hown, hnm, hret, hlk, hZ, hn⟩ := X; subst hp
  have A0 := A
  obtain ⟨cl, A, r1, r2, r3⟩ := A
  obtain ⟨T', h', X', e', W, st⟩ := stI X hx hZ eT A (j := j) (in_at hj r1 hi) (g := mkF m pc Ls (.int v :: .int j :: .ref a :: S)) rfl rfl (hb hby hd)
  rw [(nat_at hj).1] at W X'
  exact go_of st (K T' h' ⟨meth, c, _, X', e', Fr.snoc X' N hg, hx, hby, hml, hown, hnm, hret, hlk, hZ, hn⟩ W (A0.set W hi))
theorem w_lastore (X : Sd l Z n0 y bytes maxL ret R p e s m args below T h cells slots) {a : Addr} {n : Nat} {f : Nat → Value} {j : Int32} (i : Nat) {v : Int64} (hd : decode bytes pc = .ok (.lastore, 1)) (A : Ary Z h a .long n f) (hj : j.toInt = (i : Int)) (hi : i < n) (hg : n0 ≤ a) (hp : pc' = pc + 1) (K : ∀ T' h', Sd l Z n0 y bytes maxL ret R p e s m args below T' h' cells slots → Wr h h' a i (.long v) → Ary Z h' a .long n (upd f i (.long v)) → Go p e below G (T'.setTop (mkF m (pc') Ls S))) : Go p e below G (T.setTop (mkF m pc Ls (.long v :: .int j :: .ref a :: S))) := by
  obtain ⟨meth, c, locs, X, eT, N, hx, hby, hml, hown, hnm, hret, hlk, hZ, hn⟩ := X; subst hp
  have A0 := A
  obtain ⟨cl, A, r1, r2, r3⟩ := A
  obtain ⟨T', h', X', e', W, st⟩ := stJ X hx hZ eT A (j := j) (in_at hj r1 hi) (g := mkF m pc Ls (.long v :: .int j :: .ref a :: S)) rfl rfl (hb hby hd)
  rw [(nat_at hj).1] at W X'
  exact go_of st (K T' h' ⟨meth, c, _, X', e', Fr.snoc X' N hg, hx, hby, hml, hown, hnm, hret, hlk, hZ, hn⟩ W (A0.set W hi))
theorem w_castore (X : Sd l Z n0 y bytes maxL ret R p e s m args below T h cells slots) {a : Addr} {n : Nat} {f : Nat → Value} {j : Int32} (i : Nat) {v : Int32} (hd : decode bytes pc = .ok (.castore, 1)) (A : Ary Z h a .char n f) (hj : j.toInt = (i : Int)) (hi : i < n) (hg : n0 ≤ a) (hp : pc' = pc + 1) (K : ∀ T' h', Sd l Z n0 y bytes maxL ret R p e s m args below T' h' cells slots → Wr h h' a i (.int (nar .char v)) → Ary Z h' a .char n (upd f i (.int (nar .char v))) → Go p e below G (T'.setTop (mkF m (pc') Ls S))) : Go p e below G (T.setTop (mkF m pc Ls (.int v :: .int j :: .ref a :: S))) := by
  obtain ⟨meth, c, locs, X, eT, N, hx, hby, hml, hown, hnm, hret, hlk, hZ, hn⟩ := X; subst hp
  have A0 := A
  obtain ⟨cl, A, r1, r2, r3⟩ := A
  obtain ⟨T', h', X', e', W, st⟩ := stC X hx hZ eT A (j := j) (in_at hj r1 hi) (g := mkF m pc Ls (.int v :: .int j :: .ref a :: S)) rfl rfl (hb hby hd)
  rw [(nat_at hj).1] at W X'
  exact go_of st (K T' h' ⟨meth, c, _, X', e', Fr.snoc X' N hg, hx, hby, hml, hown, hnm, hret, hlk, hZ, hn⟩ W (A0.set W hi))
theorem w_bastore (X : Sd l Z n0 y bytes maxL ret R p e s m args below T h cells slots) {a : Addr} {n : Nat} {f : Nat → Value} {j : Int32} (i : Nat) {v : Int32} (hd : decode bytes pc = .ok (.bastore, 1)) (A : Ary Z h a .byte n f) (hj : j.toInt = (i : Int)) (hi : i < n) (hg : n0 ≤ a) (hp : pc' = pc + 1) (K : ∀ T' h', Sd l Z n0 y bytes maxL ret R p e s m args below T' h' cells slots → Wr h h' a i (.int (nar .byte v)) → Ary Z h' a .byte n (upd f i (.int (nar .byte v))) → Go p e below G (T'.setTop (mkF m (pc') Ls S))) : Go p e below G (T.setTop (mkF m pc Ls (.int v :: .int j :: .ref a :: S))) := by
  obtain ⟨meth, c, locs, X, eT, N, hx, hby, hml, hown, hnm, hret, hlk, hZ, hn⟩ := X; subst hp
  have A0 := A
  obtain ⟨cl, A, r1, r2, r3⟩ := A
  obtain ⟨T', h', X', e', W, st⟩ := stB X hx hZ eT A (j := j) (in_at hj r1 hi) (g := mkF m pc Ls (.int v :: .int j :: .ref a :: S)) rfl rfl (hb hby hd)
  rw [(nat_at hj).1] at W X'
  exact go_of st (K T' h' ⟨meth, c, _, X', e', Fr.snoc X' N hg, hx, hby, hml, hown, hnm, hret, hlk, hZ, hn⟩ W (A0.set W hi))
theorem w_zastore (X : Sd l Z n0 y bytes maxL ret R p e s m args below T h cells slots) {a : Addr} {n : Nat} {f : Nat → Value} {j : Int32} (i : Nat) {v : Int32} (hd : decode bytes pc = .ok (.bastore, 1)) (A : Ary Z h a .boolean n f) (hj : j.toInt = (i : Int)) (hi : i < n) (hg : n0 ≤ a) (hp : pc' = pc + 1) (K : ∀ T' h', Sd l Z n0 y bytes maxL ret R p e s m args below T' h' cells slots → Wr h h' a i (.int (nar .boolean v)) → Ary Z h' a .boolean n (upd f i (.int (nar .boolean v))) → Go p e below G (T'.setTop (mkF m (pc') Ls S))) : Go p e below G (T.setTop (mkF m pc Ls (.int v :: .int j :: .ref a :: S))) := by
  obtain ⟨meth, c, locs, X, eT, N, hx, hby, hml, hown, hnm, hret, hlk, hZ, hn⟩ := X; subst hp
  have A0 := A
  obtain ⟨cl, A, r1, r2, r3⟩ := A
  obtain ⟨T', h', X', e', W, st⟩ := stZ X hx hZ eT A (j := j) (in_at hj r1 hi) (g := mkF m pc Ls (.int v :: .int j :: .ref a :: S)) rfl rfl (hb hby hd)
  rw [(nat_at hj).1] at W X'
  exact go_of st (K T' h' ⟨meth, c, _, X', e', Fr.snoc X' N hg, hx, hby, hml, hown, hnm, hret, hlk, hZ, hn⟩ W (A0.set W hi))
theorem w_aastore (X : Sd l Z n0 y bytes maxL ret R p e s m args below T h cells slots) {a : Addr} {ty : FieldType} {n : Nat} {f : Nat → Value} {j : Int32} (i : Nat) {v : Value} (hd : decode bytes pc = .ok (.aastore, 1)) (A : Ary Z h a ty n f) (hty : ty.isReference = true) (F : Sto Z h a v) (hj : j.toInt = (i : Int)) (hi : i < n) (hg : n0 ≤ a) (hp : pc' = pc + 1) (K : ∀ T' h', Sd l Z n0 y bytes maxL ret R p e s m args below T' h' cells slots → Wr h h' a i v → Ary Z h' a ty n (upd f i v) → Go p e below G (T'.setTop (mkF m (pc') Ls S))) : Go p e below G (T.setTop (mkF m pc Ls (v :: .int j :: .ref a :: S))) := by
  obtain ⟨meth, c, locs, X, eT, N, hx, hby, hml, hown, hnm, hret, hlk, hZ, hn⟩ := X; subst hp
  have A0 := A
  obtain ⟨cl, A, r1, r2, r3⟩ := A
  obtain ⟨T', h', X', e', W, st⟩ := stR X hx hZ eT A (j := j) (in_at hj r1 hi) hty F (g := mkF m pc Ls (v :: .int j :: .ref a :: S)) rfl rfl (hb hby hd)
  rw [(nat_at hj).1] at W X'
  exact go_of st (K T' h' ⟨meth, c, _, X', e', Fr.snoc X' N hg, hx, hby, hml, hown, hnm, hret, hlk, hZ, hn⟩ W (A0.set W hi))
theorem w_newarray (X : Sd l Z n0 y bytes maxL ret R p e s m args below T h cells slots) {aty : ArrayType} {z : Int32} (n cap : Nat) (hd : decode bytes pc = .ok (.newarray aty, 2)) (w : (Jvm.Cond.arrayClass (newarray.typeOf aty)).before a0 Z = true) (hz : z.toInt = (n : Int)) (hcap : n ≤ cap) (hb8 : cap * 8 ≤ 536870912) (hc : cells + 1 ≤ R.cells) (hl : slots + cap ≤ R.slots) (hp : pc' = pc + 2)
    (K : ∀ T' h' b, b = h.size → n0 ≤ b → Sd l Z n0 y bytes maxL ret R p e s m args below T' h' (cells + 1) (slots + cap) → Ext h h' → Ary Z h' b (newarray.typeOf aty) n (fun _ => defaultValue (newarray.typeOf aty)) → Go p e below G (T'.setTop (mkF m (pc') Ls (.ref b :: S)))) : Go p e below G (T.setTop (mkF m pc Ls (.int z :: S))) := by
  have hsz := sd_size X
  obtain ⟨meth, c, locs, X, eT, N, hx, hby, hml, hown, hnm, hret, hlk, hZ, hn⟩ := X; subst hp
  obtain ⟨q1, q2⟩ := nat_at hz
  obtain ⟨T', h', cA, X', e', E', A', st⟩ := newP X hx hZ w eT (g := mkF m pc Ls (.int z :: S)) rfl (hb hby hd) rfl q2 (cap := cap) (by rw [q1]; exact hcap) hb8 hc hl
  refine go_of st (K T' h' _ rfl hsz ⟨meth, c, _, X', e', N, hx, hby, hml, hown, hnm, hret, hlk, hZ, hn⟩ E' ⟨_, A', (sz_new _ _ _).trans q1, by rw [← q1]; exact (back32 q2).2, fun i hi => ?_⟩)
  simp [newA, q1, hi]
theorem w_anewarray (X : Sd l Z n0 y bytes maxL ret R p e s m args below T h cells slots) {i : Nat} {C : String} {z : Int32} (n cap : Nat) (hd : decode bytes pc = .ok (.anewarray i, 3)) (w1 : (Jvm.Cond.classLink y.cls i C).before a0 Z = true) (w2 : (Jvm.Cond.arrayOver (.object C)).before a0 Z = true) (hz : z.toInt = (n : Int)) (hcap : n ≤ cap) (hb8 : cap * 8 ≤ 536870912) (hc : cells + 1 ≤ R.cells) (hl : slots + cap ≤ R.slots) (hp : pc' = pc + 3)
    (K : ∀ T' h' b, b = h.size → n0 ≤ b → Sd l Z n0 y bytes maxL ret R p e s m args below T' h' (cells + 1) (slots + cap) → Ext h h' → (∃ cl, Arr Z h' b cl (.object C) ∧ Ovr Z cl.cls C) → Ary Z h' b (.object C) n (fun _ => .null) → Go p e below G (T'.setTop (mkF m (pc') Ls (.ref b :: S)))) : Go p e below G (T.setTop (mkF m pc Ls (.int z :: S))) := by
  have hsz := sd_size X
  obtain ⟨meth, c, locs, X, eT, N, hx, hby, hml, hown, hnm, hret, hlk, hZ, hn⟩ := X; subst hp
  obtain ⟨q1, q2⟩ := nat_at hz
  obtain ⟨T', h', cA, X', e', E', A', O', st⟩ := newR X hx hZ hown w1 w2 eT (g := mkF m pc Ls (.int z :: S)) rfl (hb hby hd) rfl q2 (cap := cap) (by rw [q1]; exact hcap) hb8 hc hl
  refine go_of st (K T' h' _ rfl hsz ⟨meth, c, _, X', e', N, hx, hby, hml, hown, hnm, hret, hlk, hZ, hn⟩ E' ⟨_, A', O'⟩ ⟨_, A', (sz_new _ _ _).trans q1, by rw [← q1]; exact (back32 q2).2, fun i hi => ?_⟩)
  simp [newA, q1, hi, defaultValue]
theorem w_join {p : Program} {e : Env} {below : List Frame} {G : State → Prop} {t : State} {α : Type} (P : α → Prop) (st : α → State) (J : ∀ x, P x → Go p e below G (st x)) (K : (∀ x, P x → Go p e below G (st x)) → Go p e below G t) : Go p e below G t := K J
theorem w_staticV (X : Sd l Z n0 y bytes maxL ret R p e s m args below T h cells slots) {i : Nat} {y' : MethodName} {bytes' : ByteArray} {maxL' : Nat} {ret' : Option FieldType} {rm : Room} {as' : Array Value} {Q : Value → Heap → Prop} (hd : decode bytes pc = .ok (.invokestatic i, 3)) (hM : Con l Z n0 y' bytes' maxL' ret' rm as' h (Val Q)) (w1 : (Jvm.Cond.methodLink y.cls i y').before a0 Z = true) (w2 : (Jvm.Cond.static y').before a0 Z = true) (w3 : (Jvm.Cond.initialized y'.cls).before a0 Z = true) (w4 : (Jvm.Cond.code y' bytes' maxL' ret').before a0 Z = true) (hy : y'.cls ≠ "java/lang/invoke/MethodHandle" ∧ y'.cls ≠ "java/lang/invoke/VarHandle") (argsL rest : List Value) {ps : List FieldType} {r' : Option FieldType} (hlen : parseMethodDescriptor y'.desc = some ⟨ps, r'⟩) (hl : argsL.length = ps.length) (has : argsL.toArray = as') (hst : S = argsL.reverse ++ rest) (hsz : Ls.size = maxL) (W : Nat) (hW : (rest.map fun v => v.category).sum ≤ W) (hf : rm.frames + 1 ≤ R.frames) (hlo : W + (maxL' + 11) + rm.locals ≤ R.locals) (hc : cells + rm.cells ≤ R.cells) (hs : slots + rm.slots ≤ R.slots) (hp : pc' = pc + 3)
    (K : ∀ T' h' v, Sd l Z n0 y bytes maxL ret R p e s m args below T' h' (cells + rm.cells) (slots + rm.slots) → Q v h' → Go p e below G (T'.setTop (mkF m (pc') Ls (v :: rest)))) : Go p e below G (T.setTop (mkF m pc Ls S)) := by
  obtain ⟨meth, c, locs, X, eT, N, hx, hby, hml, hown, hnm, hret, hlk, hZ, hn⟩ := X; subst hp hst has
  obtain ⟨v, _, ⟨T', L', k', n'⟩, -, X', ⟨Lc, ⟨N', hQ⟩, lq, yq, zq⟩, st⟩ := Jvm.LawKit.callS X hx (y := y') hown (mvT hZ w1) (mvT hZ w2) (mvT hZ w3) (mvT hZ w4) hy (backOf (W := W) (Q := fun v h L => Fr n0 L ∧ Val Q v h) (hM []) hZ w4 w3 hf hlo) (g := mkF m pc Ls (argsL.reverse ++ rest)) rfl (by rw [hml]; exact hsz) (argsL := argsL) (rest := rest) (lenOf hlen hl) rfl (by show 2 * 0 + _ ≤ _; omega) (hb hby hd) (fun _ _ => ⟨rfl, eT, hc, hs⟩)
  dsimp only [Pt.U, Pt.locs, Pt.cells, Pt.slots] at X' lq yq zq st hQ
  subst lq yq zq
  obtain ⟨v, rfl, hQ⟩ := hQ
  exact go_of st (K T' _ v ⟨meth, c, _, X', rfl, Fr.app N N', hx, hby, hml, hown, hnm, hret, hlk, hZ, hn⟩ hQ)
theorem w_staticN (X : Sd l Z n0 y bytes maxL ret R p e s m args below T h cells slots) {i : Nat} {y' : MethodName} {bytes' : ByteArray} {maxL' : Nat} {ret' : Option FieldType} {rm : Room} {as' : Array Value} {Q : Heap → Prop} (hd : decode bytes pc = .ok (.invokestatic i, 3)) (hM : Con l Z n0 y' bytes' maxL' ret' rm as' h (Non Q)) (w1 : (Jvm.Cond.methodLink y.cls i y').before a0 Z = true) (w2 : (Jvm.Cond.static y').before a0 Z = true) (w3 : (Jvm.Cond.initialized y'.cls).before a0 Z = true) (w4 : (Jvm.Cond.code y' bytes' maxL' ret').before a0 Z = true) (hy : y'.cls ≠ "java/lang/invoke/MethodHandle" ∧ y'.cls ≠ "java/lang/invoke/VarHandle") (argsL rest : List Value) {ps : List FieldType} {r' : Option FieldType} (hlen : parseMethodDescriptor y'.desc = some ⟨ps, r'⟩) (hl : argsL.length = ps.length) (has : argsL.toArray = as') (hst : S = argsL.reverse ++ rest) (hsz : Ls.size = maxL) (W : Nat) (hW : (rest.map fun v => v.category).sum ≤ W) (hf : rm.frames + 1 ≤ R.frames) (hlo : W + (maxL' + 11) + rm.locals ≤ R.locals) (hc : cells + rm.cells ≤ R.cells) (hs : slots + rm.slots ≤ R.slots) (hp : pc' = pc + 3)
    (K : ∀ T' h', Sd l Z n0 y bytes maxL ret R p e s m args below T' h' (cells + rm.cells) (slots + rm.slots) → Q h' → Go p e below G (T'.setTop (mkF m (pc') Ls rest))) : Go p e below G (T.setTop (mkF m pc Ls S)) := by
  obtain ⟨meth, c, locs, X, eT, N, hx, hby, hml, hown, hnm, hret, hlk, hZ, hn⟩ := X; subst hp hst has
  obtain ⟨v, _, ⟨T', L', k', n'⟩, -, X', ⟨Lc, ⟨N', hQ⟩, lq, yq, zq⟩, st⟩ := Jvm.LawKit.callS X hx (y := y') hown (mvT hZ w1) (mvT hZ w2) (mvT hZ w3) (mvT hZ w4) hy (backOf (W := W) (Q := fun v h L => Fr n0 L ∧ Non Q v h) (hM []) hZ w4 w3 hf hlo) (g := mkF m pc Ls (argsL.reverse ++ rest)) rfl (by rw [hml]; exact hsz) (argsL := argsL) (rest := rest) (lenOf hlen hl) rfl (by show 2 * 0 + _ ≤ _; omega) (hb hby hd) (fun _ _ => ⟨rfl, eT, hc, hs⟩)
  dsimp only [Pt.U, Pt.locs, Pt.cells, Pt.slots] at X' lq yq zq st hQ
  subst lq yq zq
  obtain ⟨rfl, hQ⟩ := hQ
  exact go_of st (K T' _ ⟨meth, c, _, X', rfl, Fr.app N N', hx, hby, hml, hown, hnm, hret, hlk, hZ, hn⟩ hQ)
theorem w_specialN (X : Sd l Z n0 y bytes maxL ret R p e s m args below T h cells slots) {i : Nat} {y' : MethodName} {bytes' : ByteArray} {maxL' : Nat} {rm : Room} {as' : Array Value} {Q : Heap → Prop} {a : Addr} (hd : decode bytes pc = .ok (.invokespecial i, 3)) (hM : Con l Z n0 y' bytes' maxL' none rm as' h (Non Q)) (w1 : (Jvm.Cond.methodLink y.cls i y').before a0 Z = true) (w2 : (Jvm.Cond.instanceMethod y').before a0 Z = true) (w3 : (Jvm.Cond.initialized y'.cls).before a0 Z = true) (w4 : (Jvm.Cond.code y' bytes' maxL' none).before a0 Z = true) (hin : y'.name = "<init>") (hy : y'.cls ≠ "java/lang/invoke/MethodHandle" ∧ y'.cls ≠ "java/lang/invoke/VarHandle") (argsL rest : List Value) {ps : List FieldType} {r' : Option FieldType} (hlen : parseMethodDescriptor y'.desc = some ⟨ps, r'⟩) (hl : argsL.length = ps.length) (has : (.ref a :: argsL).toArray = as') (hst : S = argsL.reverse ++ .ref a :: rest) (hsz : Ls.size = maxL) (W : Nat) (hW : (rest.map fun v => v.category).sum ≤ W) (hf : rm.frames + 1 ≤ R.frames) (hlo : W + (maxL' + 11) + rm.locals ≤ R.locals) (hc : cells + rm.cells ≤ R.cells) (hs : slots + rm.slots ≤ R.slots) (hp : pc' = pc + 3)
    (K : ∀ T' h', Sd l Z n0 y bytes maxL ret R p e s m args below T' h' (cells + rm.cells) (slots + rm.slots) → Q h' → Go p e below G (T'.setTop (mkF m (pc') Ls rest))) : Go p e below G (T.setTop (mkF m pc Ls S)) := by
  obtain ⟨meth, c, locs, X, eT, N, hx, hby, hml, hown, hnm, hret, hlk, hZ, hn⟩ := X; subst hp hst has
  obtain ⟨v, _, ⟨T', L', k', n'⟩, -, X', ⟨Lc, ⟨N', hQ⟩, lq, yq, zq⟩, st⟩ := X.specialBack hx (y := y') hin hown (mvT hZ w1) (mvT hZ w2) (mvT hZ w4) hy (backOf (W := W) (Q := fun v h L => Fr n0 L ∧ Non Q v h) (hM []) hZ w4 w3 hf hlo) (g := mkF m pc Ls (argsL.reverse ++ .ref a :: rest)) rfl (by rw [hml]; exact hsz) (Steps.refl _) (a := a) (argsL := argsL) (rest := rest) (lenOf hlen hl) rfl (by show 2 * 0 + _ ≤ _; omega) (hb hby hd) (fun _ _ => ⟨rfl, eT, hc, hs⟩)
  dsimp only [Pt.U, Pt.locs, Pt.cells, Pt.slots] at X' lq yq zq st hQ
  subst lq yq zq
  obtain ⟨rfl, hQ⟩ := hQ
  exact go_of (fun _ k => st.trans k) (K T' _ ⟨meth, c, _, X', rfl, Fr.app N N', hx, hby, hml, hown, hnm, hret, hlk, hZ, hn⟩ hQ)
theorem w_virtualV (X : Sd l Z n0 y bytes maxL ret R p e s m args below T h cells slots) {i : Nat} {y' : MethodName} {bytes' : ByteArray} {maxL' : Nat} {ret' : Option FieldType} {rm : Room} {as' : Array Value} {Q : Value → Heap → Prop} {a : Addr} {C : String} (hd : decode bytes pc = .ok (.invokevirtual i, 3)) (hM : Con l Z n0 y' bytes' maxL' ret' rm as' h (Val Q)) (w1 : (Jvm.Cond.methodLink y.cls i y').before a0 Z = true) (w2 : (Jvm.Cond.declares y').before a0 Z = true) (w5 : (Jvm.Cond.selects C y' y').before a0 Z = true) (w6 : (Jvm.Cond.instanceMethod y').before a0 Z = true) (w3 : (Jvm.Cond.initialized y'.cls).before a0 Z = true) (w4 : (Jvm.Cond.code y' bytes' maxL' ret').before a0 Z = true) (Er : Exa Z h a C) (hy : y'.cls ≠ "java/lang/invoke/MethodHandle" ∧ y'.cls ≠ "java/lang/invoke/VarHandle") (argsL rest : List Value) {ps : List FieldType} {r' : Option FieldType} (hlen : parseMethodDescriptor y'.desc = some ⟨ps, r'⟩) (hl : argsL.length = ps.length) (has : (.ref a :: argsL).toArray = as') (hst : S = argsL.reverse ++ .ref a :: rest) (hsz : Ls.size = maxL) (W : Nat) (hW : (rest.map fun v => v.category).sum ≤ W) (hf : rm.frames + 1 ≤ R.frames) (hlo : W + (maxL' + 11) + rm.locals ≤ R.locals) (hc : cells + rm.cells ≤ R.cells) (hs : slots + rm.slots ≤ R.slots) (hp : pc' = pc + 3)
    (K : ∀ T' h' v, Sd l Z n0 y bytes maxL ret R p e s m args below T' h' (cells + rm.cells) (slots + rm.slots) → Q v h' → Go p e below G (T'.setTop (mkF m (pc') Ls (v :: rest)))) : Go p e below G (T.setTop (mkF m pc Ls S)) := by
  obtain ⟨meth, c, locs, X, eT, N, hx, hby, hml, hown, hnm, hret, hlk, hZ, hn⟩ := X; subst hp hst has
  obtain ⟨cq, kq, qa, qb, qc⟩ := isOf hZ eT Er
  obtain ⟨v, _, ⟨T', L', k', n'⟩, -, X', ⟨Lc, ⟨N', hQ⟩, lq, yq, zq⟩, st⟩ := X.virtualBack hx (y := y') (z := y') hown (mvT hZ w1) (mvT hZ w2) (notFace_of_selects (args := #[]) (mvT hZ w5)) (mvT hZ w5) (mvT hZ w6) hy (backOf (W := W) (Q := fun v h L => Fr n0 L ∧ Val Q v h) (hM []) hZ w4 w3 hf hlo) qa qc (g := mkF m pc Ls (argsL.reverse ++ .ref a :: rest)) rfl (by rw [hml]; exact hsz) (Steps.refl _) (argsL := argsL) (rest := rest) (lenOf hlen hl) rfl (by show 2 * 0 + _ ≤ _; omega) (hb hby hd) (fun _ _ => ⟨rfl, eT, hc, hs⟩)
  dsimp only [Pt.U, Pt.locs, Pt.cells, Pt.slots] at X' lq yq zq st hQ
  subst lq yq zq
  obtain ⟨v, rfl, hQ⟩ := hQ
  exact go_of (fun _ k => st.trans k) (K T' _ v ⟨meth, c, _, X', rfl, Fr.app N N', hx, hby, hml, hown, hnm, hret, hlk, hZ, hn⟩ hQ)
theorem w_virtualN (X : Sd l Z n0 y bytes maxL ret R p e s m args below T h cells slots) {i : Nat} {y' : MethodName} {bytes' : ByteArray} {maxL' : Nat} {ret' : Option FieldType} {rm : Room} {as' : Array Value} {Q : Heap → Prop} {a : Addr} {C : String} (hd : decode bytes pc = .ok (.invokevirtual i, 3)) (hM : Con l Z n0 y' bytes' maxL' ret' rm as' h (Non Q)) (w1 : (Jvm.Cond.methodLink y.cls i y').before a0 Z = true) (w2 : (Jvm.Cond.declares y').before a0 Z = true) (w5 : (Jvm.Cond.selects C y' y').before a0 Z = true) (w6 : (Jvm.Cond.instanceMethod y').before a0 Z = true) (w3 : (Jvm.Cond.initialized y'.cls).before a0 Z = true) (w4 : (Jvm.Cond.code y' bytes' maxL' ret').before a0 Z = true) (Er : Exa Z h a C) (hy : y'.cls ≠ "java/lang/invoke/MethodHandle" ∧ y'.cls ≠ "java/lang/invoke/VarHandle") (argsL rest : List Value) {ps : List FieldType} {r' : Option FieldType} (hlen : parseMethodDescriptor y'.desc = some ⟨ps, r'⟩) (hl : argsL.length = ps.length) (has : (.ref a :: argsL).toArray = as') (hst : S = argsL.reverse ++ .ref a :: rest) (hsz : Ls.size = maxL) (W : Nat) (hW : (rest.map fun v => v.category).sum ≤ W) (hf : rm.frames + 1 ≤ R.frames) (hlo : W + (maxL' + 11) + rm.locals ≤ R.locals) (hc : cells + rm.cells ≤ R.cells) (hs : slots + rm.slots ≤ R.slots) (hp : pc' = pc + 3)
    (K : ∀ T' h', Sd l Z n0 y bytes maxL ret R p e s m args below T' h' (cells + rm.cells) (slots + rm.slots) → Q h' → Go p e below G (T'.setTop (mkF m (pc') Ls rest))) : Go p e below G (T.setTop (mkF m pc Ls S)) := by
  obtain ⟨meth, c, locs, X, eT, N, hx, hby, hml, hown, hnm, hret, hlk, hZ, hn⟩ := X; subst hp hst has
  obtain ⟨cq, kq, qa, qb, qc⟩ := isOf hZ eT Er
  obtain ⟨v, _, ⟨T', L', k', n'⟩, -, X', ⟨Lc, ⟨N', hQ⟩, lq, yq, zq⟩, st⟩ := X.virtualBack hx (y := y') (z := y') hown (mvT hZ w1) (mvT hZ w2) (notFace_of_selects (args := #[]) (mvT hZ w5)) (mvT hZ w5) (mvT hZ w6) hy (backOf (W := W) (Q := fun v h L => Fr n0 L ∧ Non Q v h) (hM []) hZ w4 w3 hf hlo) qa qc (g := mkF m pc Ls (argsL.reverse ++ .ref a :: rest)) rfl (by rw [hml]; exact hsz) (Steps.refl _) (argsL := argsL) (rest := rest) (lenOf hlen hl) rfl (by show 2 * 0 + _ ≤ _; omega) (hb hby hd) (fun _ _ => ⟨rfl, eT, hc, hs⟩)
  dsimp only [Pt.U, Pt.locs, Pt.cells, Pt.slots] at X' lq yq zq st hQ
  subst lq yq zq
  obtain ⟨rfl, hQ⟩ := hQ
  exact go_of (fun _ k => st.trans k) (K T' _ ⟨meth, c, _, X', rfl, Fr.app N N', hx, hby, hml, hown, hnm, hret, hlk, hZ, hn⟩ hQ)
theorem w_ireturn {z : Int32} (X : Sd l Z n0 y bytes maxL (some .int) R p e s m args below T h cells slots) {Q : Value → Heap → Prop} (hd : decode bytes pc = .ok (.ireturn, 1)) (hq : Q (.int z) h) (hc : cells ≤ R.cells) (hs : slots ≤ R.slots) : Go p e below (Done below s n0 (Val Q) R.cells R.slots) (T.setTop (mkF m pc Ls (.int z :: S))) := by
  obtain ⟨meth, c, locs, X, eT, N, hx, hby, hml, hown, hnm, hret, hlk, hZ, hn⟩ := X
  obtain ⟨fs, hr, hrun, hended, hW, hsame⟩ := X.leave (v := some (.int z)) (fun h => by rw [hret] at h; cases h) hlk
  refine ⟨_, ?_, _, hrun, hended, _, _, rfl, ⟨N, _, rfl, by rw [← eT] at hq; exact hq⟩, ⟨_, rfl⟩, hW, hsame.mono hc hs⟩
  · exact retOut X hx (t := .int) hret rfl (Or.inl ⟨rfl, Or.inl rfl, z, rfl⟩) (hb hby hd) hr
theorem w_zreturn {z : Int32} (X : Sd l Z n0 y bytes maxL (some .boolean) R p e s m args below T h cells slots) {Q : Value → Heap → Prop} (hd : decode bytes pc = .ok (.ireturn, 1)) (hq : Q (.int (nar .boolean z)) h) (hc : cells ≤ R.cells) (hs : slots ≤ R.slots) : Go p e below (Done below s n0 (Val Q) R.cells R.slots) (T.setTop (mkF m pc Ls (.int z :: S))) := by
  obtain ⟨meth, c, locs, X, eT, N, hx, hby, hml, hown, hnm, hret, hlk, hZ, hn⟩ := X
  obtain ⟨fs, hr, hrun, hended, hW, hsame⟩ := X.leave (v := some (.int (nar .boolean z))) (fun h => by rw [hret] at h; cases h) hlk
  refine ⟨_, ?_, _, hrun, hended, _, _, rfl, ⟨N, _, rfl, by rw [← eT] at hq; exact hq⟩, ⟨_, rfl⟩, hW, hsame.mono hc hs⟩
  · exact retN X hx (t := .boolean) hret (by simp) (hb hby hd) hr
theorem w_breturn {z : Int32} (X : Sd l Z n0 y bytes maxL (some .byte) R p e s m args below T h cells slots) {Q : Value → Heap → Prop} (hd : decode bytes pc = .ok (.ireturn, 1)) (hq : Q (.int (nar .byte z)) h) (hc : cells ≤ R.cells) (hs : slots ≤ R.slots) : Go p e below (Done below s n0 (Val Q) R.cells R.slots) (T.setTop (mkF m pc Ls (.int z :: S))) := by
  obtain ⟨meth, c, locs, X, eT, N, hx, hby, hml, hown, hnm, hret, hlk, hZ, hn⟩ := X
  obtain ⟨fs, hr, hrun, hended, hW, hsame⟩ := X.leave (v := some (.int (nar .byte z))) (fun h => by rw [hret] at h; cases h) hlk
  refine ⟨_, ?_, _, hrun, hended, _, _, rfl, ⟨N, _, rfl, by rw [← eT] at hq; exact hq⟩, ⟨_, rfl⟩, hW, hsame.mono hc hs⟩
  · exact retN X hx (t := .byte) hret (by simp) (hb hby hd) hr
theorem w_creturn {z : Int32} (X : Sd l Z n0 y bytes maxL (some .char) R p e s m args below T h cells slots) {Q : Value → Heap → Prop} (hd : decode bytes pc = .ok (.ireturn, 1)) (hq : Q (.int (nar .char z)) h) (hc : cells ≤ R.cells) (hs : slots ≤ R.slots) : Go p e below (Done below s n0 (Val Q) R.cells R.slots) (T.setTop (mkF m pc Ls (.int z :: S))) := by
  obtain ⟨meth, c, locs, X, eT, N, hx, hby, hml, hown, hnm, hret, hlk, hZ, hn⟩ := X
  obtain ⟨fs, hr, hrun, hended, hW, hsame⟩ := X.leave (v := some (.int (nar .char z))) (fun h => by rw [hret] at h; cases h) hlk
  refine ⟨_, ?_, _, hrun, hended, _, _, rfl, ⟨N, _, rfl, by rw [← eT] at hq; exact hq⟩, ⟨_, rfl⟩, hW, hsame.mono hc hs⟩
  · exact retN X hx (t := .char) hret (by simp) (hb hby hd) hr
theorem w_sreturn {z : Int32} (X : Sd l Z n0 y bytes maxL (some .short) R p e s m args below T h cells slots) {Q : Value → Heap → Prop} (hd : decode bytes pc = .ok (.ireturn, 1)) (hq : Q (.int (nar .short z)) h) (hc : cells ≤ R.cells) (hs : slots ≤ R.slots) : Go p e below (Done below s n0 (Val Q) R.cells R.slots) (T.setTop (mkF m pc Ls (.int z :: S))) := by
  obtain ⟨meth, c, locs, X, eT, N, hx, hby, hml, hown, hnm, hret, hlk, hZ, hn⟩ := X
  obtain ⟨fs, hr, hrun, hended, hW, hsame⟩ := X.leave (v := some (.int (nar .short z))) (fun h => by rw [hret] at h; cases h) hlk
  refine ⟨_, ?_, _, hrun, hended, _, _, rfl, ⟨N, _, rfl, by rw [← eT] at hq; exact hq⟩, ⟨_, rfl⟩, hW, hsame.mono hc hs⟩
  · exact retN X hx (t := .short) hret (by simp) (hb hby hd) hr
theorem w_lreturn {z : Int64} (X : Sd l Z n0 y bytes maxL (some .long) R p e s m args below T h cells slots) {Q : Value → Heap → Prop} (hd : decode bytes pc = .ok (.lreturn, 1)) (hq : Q (.long z) h) (hc : cells ≤ R.cells) (hs : slots ≤ R.slots) : Go p e below (Done below s n0 (Val Q) R.cells R.slots) (T.setTop (mkF m pc Ls (.long z :: S))) := by
  obtain ⟨meth, c, locs, X, eT, N, hx, hby, hml, hown, hnm, hret, hlk, hZ, hn⟩ := X
  obtain ⟨fs, hr, hrun, hended, hW, hsame⟩ := X.leave (v := some (.long z)) (fun h => by rw [hret] at h; cases h) hlk
  refine ⟨_, ?_, _, hrun, hended, _, _, rfl, ⟨N, _, rfl, by rw [← eT] at hq; exact hq⟩, ⟨_, rfl⟩, hW, hsame.mono hc hs⟩
  · exact retOut X hx (t := .long) hret rfl (Or.inr (Or.inl ⟨rfl, rfl, z, rfl⟩)) (hb hby hd) hr
theorem w_areturn {t : FieldType} {v : Value} (X : Sd l Z n0 y bytes maxL (some t) R p e s m args below T h cells slots) {Q : Value → Heap → Prop} (hd : decode bytes pc = .ok (.areturn, 1)) (ht : t.isReference = true) (hv : v.isRef = true) (hna : narrow t v = v) (hq : Q v h) (hc : cells ≤ R.cells) (hs : slots ≤ R.slots) : Go p e below (Done below s n0 (Val Q) R.cells R.slots) (T.setTop (mkF m pc Ls (v :: S))) := by
  obtain ⟨meth, c, locs, X, eT, N, hx, hby, hml, hown, hnm, hret, hlk, hZ, hn⟩ := X
  obtain ⟨fs, hr, hrun, hended, hW, hsame⟩ := X.leave (v := some v) (fun h => by rw [hret] at h; cases h) hlk
  refine ⟨_, ?_, _, hrun, hended, _, _, rfl, ⟨N, _, rfl, by rw [← eT] at hq; exact hq⟩, ⟨_, rfl⟩, hW, hsame.mono hc hs⟩
  · exact retOut X hx (t := t) hret hna (Or.inr (Or.inr (Or.inr (Or.inr ⟨rfl, ht, hv⟩)))) (hb hby hd) hr
theorem w_return  (X : Sd l Z n0 y bytes maxL none R p e s m args below T h cells slots) {Q : Heap → Prop} (hd : decode bytes pc = .ok (.return_, 1)) (hq : Q h) (hc : cells ≤ R.cells) (hs : slots ≤ R.slots) : Go p e below (Done below s n0 (Non Q) R.cells R.slots) (T.setTop (mkF m pc Ls [])) := by
  obtain ⟨meth, c, locs, X, eT, N, hx, hby, hml, hown, hnm, hret, hlk, hZ, hn⟩ := X
  obtain ⟨fs, hr, hrun, hended, hW, hsame⟩ := X.leave (v := none) (fun _ => rfl) hlk
  refine ⟨_, ?_, _, hrun, hended, _, _, rfl, ⟨N, rfl, by rw [← eT] at hq; exact hq⟩, ⟨_, rfl⟩, hW, hsame.mono hc hs⟩
  · exact X.returnOut hx hret (hb hby hd) hr
theorem ne_new {a b : Addr} (g : b = h.size) (q : a < h.size) : a ≠ b := by subst g; exact Nat.ne_of_lt q
theorem sz_fresh {h0 : Heap} {b : Addr} {ws : List Addr} (g : b = h.size) (K : Keep h0 h ws) : h0.size ≤ b := by subst g; exact K.1
def Oar (Z : State) (h : Heap) (a : Addr) (C : String) : Prop := ∃ cl, Arr Z h a cl (.object C) ∧ Ovr Z cl.cls C
theorem Oar.lt {a : Addr} {C : String} (O : Oar Z h a C) : a < h.size := by obtain ⟨cl, A, -⟩ := O; exact A.lt
theorem Oar.ext {h' : Heap} {a : Addr} {C : String} (O : Oar Z h a C) (E : Ext h h') : Oar Z h' a C := by obtain ⟨cl, A, r⟩ := O; exact ⟨cl, A.ext E, r⟩
theorem Oar.wr {h' : Heap} {a b : Addr} {sl : Nat} {v : Value} {C : String} (O : Oar Z h a C) (W : Wr h h' b sl v) : Oar Z h' a C := by
  obtain ⟨cl, A, r⟩ := O
  by_cases q : a = b
  · subst q; exact ⟨_, A.same W, r⟩
  · exact ⟨cl, A.other W q, r⟩
theorem Oar.keep {h' : Heap} {a : Addr} {C : String} {ws : List Addr} (O : Oar Z h a C) (K : Keep h h' ws) : Oar Z h' a C := by
  obtain ⟨cl, A, r⟩ := O
  obtain ⟨c', h1, h2, h3, h4⟩ := K.2.2 a cl A.1
  refine ⟨c', ⟨h1, ?_, by rw [h3]; exact A.2.2⟩, by rw [h2]; exact r⟩
  have := A.2.1; unfold State.isArrayOf at this ⊢; rw [h2, h3]; exact this
theorem Oar.sto {a b : Addr} {C : String} (O : Oar Z h a C) (I : Ins Z h b C true) : Sto Z h a (.ref b) := by obtain ⟨cl, A, r⟩ := O; exact Sto.of A r I
end Walk
section Walk0
variable {l : Launch} {Z : State} {n0 : Nat} {y : MethodName} {bytes : ByteArray} {maxL : Nat} {ret : Option FieldType} {R : Room} {p : Program} {e : Env} {s : State} {m : MethodId} {args : Array Value} {below : List Frame} {T : State} {h : Heap} {cells slots : Nat} {G : State → Prop} {a0 : Array Value} {pc pc' : Nat} {Ls : Array Slot} {S : List Value}
theorem w_initO (X : Sd l Z n0 y bytes maxL ret R p e s m args below T h cells slots) {i : Nat} {a : Addr} (hd : decode bytes pc = .ok (.invokespecial i, 3)) (w1 : (Jvm.Cond.methodLink y.cls i Lib.objectInit).before a0 Z = true) (w2 : (Jvm.Cond.instanceMethod Lib.objectInit).before a0 Z = true) (w3 : (Jvm.Cond.code Lib.objectInit object_method_1_code 1 none).before a0 Z = true) (hsz : Ls.size = maxL) (hf : 1 ≤ R.frames) (W : Nat) (hW : (S.map fun v => v.category).sum ≤ W) (hl : W + 12 ≤ R.locals) (hp : pc' = pc + 3) (K : ∀ T', Sd l Z n0 y bytes maxL ret R p e s m args below T' h cells slots → Go p e below G (T'.setTop (mkF m (pc') Ls S))) : Go p e below G (T.setTop (mkF m pc Ls (.ref a :: S))) := by
  obtain ⟨meth, c, locs, X, eT, N, hx, hby, hml, hown, hnm, hret, hlk, hZ, hn⟩ := X; subst hp
  obtain ⟨T', X', e', st⟩ := initO X hx hZ hown w1 w2 w3 eT (g := mkF m pc Ls (.ref a :: S)) rfl (by rw [hml]; exact hsz) rfl (hb hby hd) hf (W := W) (by show 2 * 0 + _ ≤ _; omega) hl
  exact go_of st (K T' ⟨meth, c, _, X', e', N, hx, hby, hml, hown, hnm, hret, hlk, hZ, hn⟩)
end Walk0
theorem own_eqI {a : Term} {k : Int32} {args : Array Value} {s : State} (h : (Jvm.Cond.eq a (.int k)).value args s none s [] = some true) : a.eval args s none [] s = some (.int k) := by
  cases ha : a.eval args s none [] s with
  | none => simp [Cond.value, ha] at h
  | some x => cases x <;> simp [Cond.value, ha, Term.eval] at h; subst h; rfl
theorem own_eqL {a : Term} {k : Int64} {args : Array Value} {s : State} (h : (Jvm.Cond.eq a (.long k)).value args s none s [] = some true) : a.eval args s none [] s = some (.long k) := by
  cases ha : a.eval args s none [] s with
  | none => simp [Cond.value, ha] at h
  | some x => cases x <;> simp [Cond.value, ha, Term.eval] at h; subst h; rfl
theorem d6_0 : decode jdk_52_method_21_code 0 = .ok (.iconst 0, 1) := by decide +kernel
theorem d6_1 : decode jdk_52_method_21_code 1 = .ok (.istore 5, 2) := by decide +kernel
theorem d6_3 : decode jdk_52_method_21_code 3 = .ok (.iload 5, 2) := by decide +kernel
theorem d6_5 : decode jdk_52_method_21_code 5 = .ok (.iload 4, 2) := by decide +kernel
theorem d6_7 : decode jdk_52_method_21_code 7 = .ok (.if_icmp .ge 37, 3) := by decide +kernel
theorem d6_10 : decode jdk_52_method_21_code 10 = .ok (.aload_n 0, 1) := by decide +kernel
theorem d6_11 : decode jdk_52_method_21_code 11 = .ok (.iload_n 1, 1) := by decide +kernel
theorem d6_12 : decode jdk_52_method_21_code 12 = .ok (.caload, 1) := by decide +kernel
theorem d6_13 : decode jdk_52_method_21_code 13 = .ok (.istore 6, 2) := by decide +kernel
theorem d6_15 : decode jdk_52_method_21_code 15 = .ok (.iload 6, 2) := by decide +kernel
theorem d6_17 : decode jdk_52_method_21_code 17 = .ok (.sipush 255, 3) := by decide +kernel
theorem d6_20 : decode jdk_52_method_21_code 20 = .ok (.if_icmp .le 6, 3) := by decide +kernel
theorem d6_23 : decode jdk_52_method_21_code 23 = .ok (.iload 5, 2) := by decide +kernel
theorem d6_25 : decode jdk_52_method_21_code 25 = .ok (.ireturn, 1) := by decide +kernel
theorem d6_26 : decode jdk_52_method_21_code 26 = .ok (.aload_n 2, 1) := by decide +kernel
theorem d6_27 : decode jdk_52_method_21_code 27 = .ok (.iload_n 3, 1) := by decide +kernel
theorem d6_28 : decode jdk_52_method_21_code 28 = .ok (.iload 6, 2) := by decide +kernel
theorem d6_30 : decode jdk_52_method_21_code 30 = .ok (.i2b, 1) := by decide +kernel
theorem d6_31 : decode jdk_52_method_21_code 31 = .ok (.bastore, 1) := by decide +kernel
theorem d6_32 : decode jdk_52_method_21_code 32 = .ok (.iinc 1 1, 3) := by decide +kernel
theorem d6_35 : decode jdk_52_method_21_code 35 = .ok (.iinc 3 1, 3) := by decide +kernel
theorem d6_38 : decode jdk_52_method_21_code 38 = .ok (.iinc 5 1, 3) := by decide +kernel
theorem d6_41 : decode jdk_52_method_21_code 41 = .ok (.goto (-38), 3) := by decide +kernel
theorem d6_44 : decode jdk_52_method_21_code 44 = .ok (.iload 4, 2) := by decide +kernel
theorem d6_46 : decode jdk_52_method_21_code 46 = .ok (.ireturn, 1) := by decide +kernel
theorem pn_6 : plainFor (⟨"java/lang/StringUTF16", "compress", "([CI[BII)I"⟩ : MethodName) = true := plainFor_of_name (by first | (simp [plainName, overriddenIn]; done) | decide +kernel)
theorem pd_6 : parseMethodDescriptor "([CI[BII)I" = some ⟨[(.array .char), .int, (.array .byte), .int, .int], some .int⟩ := by decide +kernel
set_option maxRecDepth 65536 in
set_option maxHeartbeats 40000000 in
theorem rm6 {l : Launch} {Z : State} {a0 : Array Value} (hw : ∀ d ∈ tables_1, d.before a0 Z = true) {n0 : Nat} {h0 : Heap} (Z0 : n0 ≤ h0.size) (a1 a3 : Addr) {f f3 : Nat → Value} {c0 : Int32} (A_1 : Ary Z h0 a1 .char 1 f) (A_3 : Ary Z h0 a3 .byte 1 f3) (ne13 : a1 ≠ a3) (hf0 : f 0 = .int c0) (hc0 : ¬ (255 : Int32) < c0) (g_3 : n0 ≤ a3) :
    Con l Z n0 (⟨"java/lang/StringUTF16", "compress", "([CI[BII)I"⟩ : MethodName) jdk_52_method_21_code 7 (some .int) ({ frames := 0, cells := 0, slots := 0, locals := 0 } : Room) #[(.ref a1), (.int (0 : Int32)), (.ref a3), (.int (0 : Int32)), (.int (1 : Int32))] h0 (Val (fun v h => v = .int 1 ∧ Keep h0 h [a3] ∧ ∃ f', Ary Z h a3 .byte 1 f')) := by
  refine con_intro pn_6 Z0 (fr := fun m => mkF m 0 #[.val (.ref a1), .val (.int (0 : Int32)), .val (.ref a3), .val (.int (0 : Int32)), .val (.int (1 : Int32)), .unset, .unset] []) (fun m => by first | (simp [entryFrame, mkF, argsToLocals, Value.category]; done) | rfl) ?_
  intro p e s m below s₁ hs0 X0
  refine w_iconst X0 (pc' := 1) (0 : Int32) d6_0 rfl rfl ?_
  refine w_istore X0 (pc' := 3) (l' := #[.val (.ref a1), .val (.int (0 : Int32)), .val (.ref a3), .val (.int (0 : Int32)), .val (.int (1 : Int32)), .val (.int (0 : Int32)), .unset]) d6_1 rfl rfl ?_
  refine w_iload X0 (pc' := 5) d6_3 rfl rfl ?_
  refine w_iload X0 (pc' := 7) d6_5 rfl rfl ?_
  refine w_icmp_ge X0 44 10 d6_7 (by decide) rfl rfl (fun hc7 => by exfalso; revert hc7; decide) (fun hc7 => ?_)
  refine w_aloadN X0 (pc' := 11) d6_10 rfl rfl rfl ?_
  refine w_iloadN X0 (pc' := 12) d6_11 rfl rfl ?_
  refine w_caload X0 (pc' := 13) 0 (v := (.int c0)) d6_12 A_1 (by decide) (by decide) hf0 rfl ?_
  refine w_istore X0 (pc' := 15) (l' := #[.val (.ref a1), .val (.int (0 : Int32)), .val (.ref a3), .val (.int (0 : Int32)), .val (.int (1 : Int32)), .val (.int (0 : Int32)), .val (.int c0)]) d6_13 rfl rfl ?_
  refine w_iload X0 (pc' := 17) d6_15 rfl rfl ?_
  refine w_sipush X0 (pc' := 20) (255 : Int32) d6_17 rfl rfl ?_
  refine w_icmp_le X0 26 23 d6_20 (by decide) rfl rfl (fun hc20 => ?_) (fun hc20 => by exfalso; exact hc0 hc20)
  refine w_aloadN X0 (pc' := 27) d6_26 rfl rfl rfl ?_
  refine w_iloadN X0 (pc' := 28) d6_27 rfl rfl ?_
  refine w_iload X0 (pc' := 30) d6_28 rfl rfl ?_
  refine w_i2b X0 (pc' := 31) d6_30 rfl ?_
  refine w_bastore X0 (pc' := 32) 0 d6_31 A_3 (by decide) (by decide) g_3 rfl fun T1 h1 X1 W1 A1 => ?_
  have A_2 := A_1.other W1 ne13
  have K_3r : Keep h0 _ [a3] := (Keep.refl h0 [a3])
  have K_3 : Keep h0 h1 [a3] := K_3r.wr W1 (Or.inl (List.mem_of_getElem? (i := 0) rfl))
  refine w_iinc X1 (pc' := 35) ((0 : Int32) + (1 : Int32)) (l' := #[.val (.ref a1), .val (.int ((0 : Int32) + (1 : Int32))), .val (.ref a3), .val (.int (0 : Int32)), .val (.int (1 : Int32)), .val (.int (0 : Int32)), .val (.int c0)]) d6_32 rfl rfl rfl rfl ?_
  refine w_iinc X1 (pc' := 38) ((0 : Int32) + (1 : Int32)) (l' := #[.val (.ref a1), .val (.int ((0 : Int32) + (1 : Int32))), .val (.ref a3), .val (.int ((0 : Int32) + (1 : Int32))), .val (.int (1 : Int32)), .val (.int (0 : Int32)), .val (.int c0)]) d6_35 rfl rfl rfl rfl ?_
  refine w_iinc X1 (pc' := 41) ((0 : Int32) + (1 : Int32)) (l' := #[.val (.ref a1), .val (.int ((0 : Int32) + (1 : Int32))), .val (.ref a3), .val (.int ((0 : Int32) + (1 : Int32))), .val (.int (1 : Int32)), .val (.int ((0 : Int32) + (1 : Int32))), .val (.int c0)]) d6_38 rfl rfl rfl rfl ?_
  refine w_goto X1 (pc' := 3) d6_41 (by decide) rfl ?_
  refine w_iload X1 (pc' := 5) d6_3 rfl rfl ?_
  refine w_iload X1 (pc' := 7) d6_5 rfl rfl ?_
  refine w_icmp_ge X1 44 10 d6_7 (by decide) rfl rfl (fun hc7 => ?_) (fun hc7 => by exfalso; revert hc7; decide)
  refine w_iload X1 (pc' := 46) d6_44 rfl rfl ?_
  exact w_ireturn X1 d6_46 ⟨rfl, K_3, _, A1⟩ (by decide) (by decide)
theorem d5_0 : decode jdk_52_method_16_code 0 = .ok (.iload_n 2, 1) := by decide +kernel
theorem d5_1 : decode jdk_52_method_16_code 1 = .ok (.newarray .byte, 2) := by decide +kernel
theorem d5_3 : decode jdk_52_method_16_code 3 = .ok (.astore_n 3, 1) := by decide +kernel
theorem d5_4 : decode jdk_52_method_16_code 4 = .ok (.aload_n 0, 1) := by decide +kernel
theorem d5_5 : decode jdk_52_method_16_code 5 = .ok (.iload_n 1, 1) := by decide +kernel
theorem d5_6 : decode jdk_52_method_16_code 6 = .ok (.aload_n 3, 1) := by decide +kernel
theorem d5_7 : decode jdk_52_method_16_code 7 = .ok (.iconst 0, 1) := by decide +kernel
theorem d5_8 : decode jdk_52_method_16_code 8 = .ok (.iload_n 2, 1) := by decide +kernel
theorem d5_9 : decode jdk_52_method_16_code 9 = .ok (.invokestatic 115, 3) := by decide +kernel
theorem d5_12 : decode jdk_52_method_16_code 12 = .ok (.istore 4, 2) := by decide +kernel
theorem d5_14 : decode jdk_52_method_16_code 14 = .ok (.iload 4, 2) := by decide +kernel
theorem d5_16 : decode jdk_52_method_16_code 16 = .ok (.iload_n 2, 1) := by decide +kernel
theorem d5_17 : decode jdk_52_method_16_code 17 = .ok (.if_icmp .eq 40, 3) := by decide +kernel
theorem d5_20 : decode jdk_52_method_16_code 20 = .ok (.aload_n 0, 1) := by decide +kernel
theorem d5_21 : decode jdk_52_method_16_code 21 = .ok (.iload_n 1, 1) := by decide +kernel
theorem d5_22 : decode jdk_52_method_16_code 22 = .ok (.iload_n 2, 1) := by decide +kernel
theorem d5_23 : decode jdk_52_method_16_code 23 = .ok (.invokestatic 119, 3) := by decide +kernel
theorem d5_26 : decode jdk_52_method_16_code 26 = .ok (.astore 5, 2) := by decide +kernel
theorem d5_28 : decode jdk_52_method_16_code 28 = .ok (.aload 5, 2) := by decide +kernel
theorem d5_30 : decode jdk_52_method_16_code 30 = .ok (.iload 4, 2) := by decide +kernel
theorem d5_32 : decode jdk_52_method_16_code 32 = .ok (.invokestatic 71, 3) := by decide +kernel
theorem d5_35 : decode jdk_52_method_16_code 35 = .ok (.sipush 255, 3) := by decide +kernel
theorem d5_38 : decode jdk_52_method_16_code 38 = .ok (.if_icmp .gt 16, 3) := by decide +kernel
theorem d5_41 : decode jdk_52_method_16_code 41 = .ok (.aload 5, 2) := by decide +kernel
theorem d5_43 : decode jdk_52_method_16_code 43 = .ok (.iconst 0, 1) := by decide +kernel
theorem d5_44 : decode jdk_52_method_16_code 44 = .ok (.aload_n 3, 1) := by decide +kernel
theorem d5_45 : decode jdk_52_method_16_code 45 = .ok (.iconst 0, 1) := by decide +kernel
theorem d5_46 : decode jdk_52_method_16_code 46 = .ok (.iload_n 2, 1) := by decide +kernel
theorem d5_47 : decode jdk_52_method_16_code 47 = .ok (.invokestatic 123, 3) := by decide +kernel
theorem d5_50 : decode jdk_52_method_16_code 50 = .ok (.iload_n 2, 1) := by decide +kernel
theorem d5_51 : decode jdk_52_method_16_code 51 = .ok (.if_icmp .eq 6, 3) := by decide +kernel
theorem d5_54 : decode jdk_52_method_16_code 54 = .ok (.aload 5, 2) := by decide +kernel
theorem d5_56 : decode jdk_52_method_16_code 56 = .ok (.areturn, 1) := by decide +kernel
theorem d5_57 : decode jdk_52_method_16_code 57 = .ok (.aload_n 3, 1) := by decide +kernel
theorem d5_58 : decode jdk_52_method_16_code 58 = .ok (.areturn, 1) := by decide +kernel
theorem pn_5 : plainFor (⟨"java/lang/StringUTF16", "compress", "([CII)[B"⟩ : MethodName) = true := plainFor_of_name (by first | (simp [plainName, overriddenIn]; done) | decide +kernel)
theorem pd_5 : parseMethodDescriptor "([CII)[B" = some ⟨[(.array .char), .int, .int], some (.array .byte)⟩ := by decide +kernel
set_option maxRecDepth 65536 in
set_option maxHeartbeats 40000000 in
theorem rm5 {l : Launch} {Z : State} {a0 : Array Value} (hw : ∀ d ∈ tables_1, d.before a0 Z = true) {n0 : Nat} {h0 : Heap} (Z0 : n0 ≤ h0.size) (a1 : Addr) {f : Nat → Value} {c0 : Int32} (A_1 : Ary Z h0 a1 .char 1 f) (hf0 : f 0 = .int c0) (hc0 : ¬ (255 : Int32) < c0) :
    Con l Z n0 (⟨"java/lang/StringUTF16", "compress", "([CII)[B"⟩ : MethodName) jdk_52_method_16_code 6 (some (.array .byte)) ({ frames := 1, cells := 1, slots := 1, locals := 18 } : Room) #[(.ref a1), (.int (0 : Int32)), (.int (1 : Int32))] h0 (Val (fun v h => ∃ b : Addr, v = .ref b ∧ b = h0.size ∧ n0 ≤ b ∧ Keep h0 h [] ∧ ∃ f', Ary Z h b .byte 1 f')) := by
  refine con_intro pn_5 Z0 (fr := fun m => mkF m 0 #[.val (.ref a1), .val (.int (0 : Int32)), .val (.int (1 : Int32)), .unset, .unset, .unset] []) (fun m => by first | (simp [entryFrame, mkF, argsToLocals, Value.category]; done) | rfl) ?_
  intro p e s m below s₁ hs0 X0
  refine w_iloadN X0 (pc' := 1) d5_0 rfl rfl ?_
  refine w_newarray X0 (pc' := 3) 1 1 d5_1 (hw _ (List.mem_of_getElem? (i := 86) rfl)) (by decide) (by decide) (by decide) (by decide) (by decide) rfl fun T1 h1 b1 g1 gn1 X1 E1 A1 => ?_
  have ne_a1_b1 : a1 ≠ b1 := ne_new g1 A_1.lt
  have K_b1 : Keep h0 _ [] := (Keep.refl h0 [])
  have sz_b1 : h0.size ≤ b1 := sz_fresh g1 K_b1
  have A_2 := A_1.ext E1
  have K_3 : Keep h0 h1 [] := K_b1.ext E1
  replace A1 : Ary Z h1 b1 .byte 1 (fun _ => (.int (0 : Int32))) := A1
  refine w_astoreN X1 (pc' := 4) (l' := #[.val (.ref a1), .val (.int (0 : Int32)), .val (.int (1 : Int32)), .val (.ref b1), .unset, .unset]) d5_3 rfl rfl rfl ?_
  refine w_aloadN X1 (pc' := 5) d5_4 rfl rfl rfl ?_
  refine w_iloadN X1 (pc' := 6) d5_5 rfl rfl ?_
  refine w_aloadN X1 (pc' := 7) d5_6 rfl rfl rfl ?_
  refine w_iconst X1 (pc' := 8) (0 : Int32) d5_7 rfl rfl ?_
  refine w_iloadN X1 (pc' := 9) d5_8 rfl rfl ?_
  refine w_staticV X1 (pc' := 12) d5_9 (rm6 hw (h0 := h1) (sd_size X1) a1 b1 A_2 A1 ne_a1_b1 hf0 hc0 gn1) (hw _ (List.mem_of_getElem? (i := 87) rfl)) (hw _ (List.mem_of_getElem? (i := 88) rfl)) (hw _ (List.mem_of_getElem? (i := 84) rfl)) (hw _ (List.mem_of_getElem? (i := 89) rfl)) (by decide) [(.ref a1), (.int (0 : Int32)), (.ref b1), (.int (0 : Int32)), (.int (1 : Int32))] [] pd_6 rfl rfl rfl rfl 0 (Nat.le_refl _) (by decide) (by decide) (by decide) (by decide) rfl fun T4 h4 v4 X4 q4 => ?_
  obtain ⟨rfl, K4, f4, A4⟩ := q4
  have A_5 := A_2.keep K4 (ninS ne_a1_b1 nin0)
  have K_6 : Keep h0 h4 [] := K_3.trans K4 (allS (Or.inr sz_b1) all0)
  refine w_istore X4 (pc' := 14) (l' := #[.val (.ref a1), .val (.int (0 : Int32)), .val (.int (1 : Int32)), .val (.ref b1), .val (.int (1 : Int32)), .unset]) d5_12 rfl rfl ?_
  refine w_iload X4 (pc' := 16) d5_14 rfl rfl ?_
  refine w_iloadN X4 (pc' := 17) d5_16 rfl rfl ?_
  refine w_icmp_eq X4 57 20 d5_17 (by decide) rfl rfl (fun hc17 => ?_) (fun hc17 => by exfalso; revert hc17; decide)
  refine w_aloadN X4 (pc' := 58) d5_57 rfl rfl rfl ?_
  exact w_areturn X4 d5_58 rfl rfl rfl ⟨_, rfl, g1, gn1, K_6, _, A4⟩ (by decide) (by decide)
theorem d7_0 : decode jdk_52_method_15_code 0 = .ok (.iload_n 1, 1) := by decide +kernel
theorem d7_1 : decode jdk_52_method_15_code 1 = .ok (.aload_n 0, 1) := by decide +kernel
theorem d7_2 : decode jdk_52_method_15_code 2 = .ok (.arraylength, 1) := by decide +kernel
theorem d7_3 : decode jdk_52_method_15_code 3 = .ok (.isub, 1) := by decide +kernel
theorem d7_4 : decode jdk_52_method_15_code 4 = .ok (.bipush 31, 2) := by decide +kernel
theorem d7_6 : decode jdk_52_method_15_code 6 = .ok (.iushr, 1) := by decide +kernel
theorem d7_7 : decode jdk_52_method_15_code 7 = .ok (.i2b, 1) := by decide +kernel
theorem d7_8 : decode jdk_52_method_15_code 8 = .ok (.ireturn, 1) := by decide +kernel
theorem pn_7 : plainFor (⟨"java/lang/StringUTF16", "coderFromArrayLen", "([BI)B"⟩ : MethodName) = true := plainFor_of_name (by first | (simp [plainName, overriddenIn]; done) | decide +kernel)
theorem pd_7 : parseMethodDescriptor "([BI)B" = some ⟨[(.array .byte), .int], some .byte⟩ := by decide +kernel
set_option maxRecDepth 65536 in
set_option maxHeartbeats 40000000 in
theorem rm7 {l : Launch} {Z : State} {a0 : Array Value} (hw : ∀ d ∈ tables_1, d.before a0 Z = true) {n0 : Nat} {h0 : Heap} (Z0 : n0 ≤ h0.size) (a1 : Addr) {f : Nat → Value} (A_1 : Ary Z h0 a1 .byte 1 f) :
    Con l Z n0 (⟨"java/lang/StringUTF16", "coderFromArrayLen", "([BI)B"⟩ : MethodName) jdk_52_method_15_code 2 (some .byte) ({ frames := 0, cells := 0, slots := 0, locals := 0 } : Room) #[(.ref a1), (.int (1 : Int32))] h0 (Val (fun v h => v = .int 0 ∧ h0 = h)) := by
  refine con_intro pn_7 Z0 (fr := fun m => mkF m 0 #[.val (.ref a1), .val (.int (1 : Int32))] []) (fun m => by first | (simp [entryFrame, mkF, argsToLocals, Value.category]; done) | rfl) ?_
  intro p e s m below s₁ hs0 X0
  refine w_iloadN X0 (pc' := 1) d7_0 rfl rfl ?_
  refine w_aloadN X0 (pc' := 2) d7_1 rfl rfl rfl ?_
  refine w_arraylength X0 (pc' := 3) (1 : Int32) d7_2 A_1 (by decide) rfl ?_
  refine w_isub X0 (pc' := 4) d7_3 rfl ?_
  refine w_bipush X0 (pc' := 6) (31 : Int32) d7_4 rfl rfl ?_
  refine w_iushr X0 (pc' := 7) d7_6 rfl ?_
  refine w_i2b X0 (pc' := 8) d7_7 rfl ?_
  exact w_breturn X0 d7_8 ⟨by decide, rfl⟩ (by decide) (by decide)
theorem d3_0 : decode jdk_42_method_149_code 0 = .ok (.aload_n 0, 1) := by decide +kernel
theorem d3_1 : decode jdk_42_method_149_code 1 = .ok (.invokespecial 1, 3) := by decide +kernel
theorem d3_4 : decode jdk_42_method_149_code 4 = .ok (.iload_n 3, 1) := by decide +kernel
theorem d3_5 : decode jdk_42_method_149_code 5 = .ok (.ifCond .ne 22, 3) := by decide +kernel
theorem d3_8 : decode jdk_42_method_149_code 8 = .ok (.aload_n 0, 1) := by decide +kernel
theorem d3_9 : decode jdk_42_method_149_code 9 = .ok (.ldc 7, 2) := by decide +kernel
theorem d3_11 : decode jdk_42_method_149_code 11 = .ok (.getfield 9, 3) := by decide +kernel
theorem d3_14 : decode jdk_42_method_149_code 14 = .ok (.putfield 9, 3) := by decide +kernel
theorem d3_17 : decode jdk_42_method_149_code 17 = .ok (.aload_n 0, 1) := by decide +kernel
theorem d3_18 : decode jdk_42_method_149_code 18 = .ok (.ldc 7, 2) := by decide +kernel
theorem d3_20 : decode jdk_42_method_149_code 20 = .ok (.getfield 15, 3) := by decide +kernel
theorem d3_23 : decode jdk_42_method_149_code 23 = .ok (.putfield 15, 3) := by decide +kernel
theorem d3_26 : decode jdk_42_method_149_code 26 = .ok (.return_, 1) := by decide +kernel
theorem d3_27 : decode jdk_42_method_149_code 27 = .ok (.getstatic 38, 3) := by decide +kernel
theorem d3_30 : decode jdk_42_method_149_code 30 = .ok (.ifCond .eq 28, 3) := by decide +kernel
theorem d3_33 : decode jdk_42_method_149_code 33 = .ok (.aload_n 1, 1) := by decide +kernel
theorem d3_34 : decode jdk_42_method_149_code 34 = .ok (.iload_n 2, 1) := by decide +kernel
theorem d3_35 : decode jdk_42_method_149_code 35 = .ok (.iload_n 3, 1) := by decide +kernel
theorem d3_36 : decode jdk_42_method_149_code 36 = .ok (.invokestatic 177, 3) := by decide +kernel
theorem d3_39 : decode jdk_42_method_149_code 39 = .ok (.astore 5, 2) := by decide +kernel
theorem d3_41 : decode jdk_42_method_149_code 41 = .ok (.aload_n 0, 1) := by decide +kernel
theorem d3_42 : decode jdk_42_method_149_code 42 = .ok (.aload 5, 2) := by decide +kernel
theorem d3_44 : decode jdk_42_method_149_code 44 = .ok (.iload_n 3, 1) := by decide +kernel
theorem d3_45 : decode jdk_42_method_149_code 45 = .ok (.invokestatic 47, 3) := by decide +kernel
theorem d3_48 : decode jdk_42_method_149_code 48 = .ok (.putfield 15, 3) := by decide +kernel
theorem d3_51 : decode jdk_42_method_149_code 51 = .ok (.aload_n 0, 1) := by decide +kernel
theorem d3_52 : decode jdk_42_method_149_code 52 = .ok (.aload 5, 2) := by decide +kernel
theorem d3_54 : decode jdk_42_method_149_code 54 = .ok (.putfield 9, 3) := by decide +kernel
theorem d3_57 : decode jdk_42_method_149_code 57 = .ok (.return_, 1) := by decide +kernel
theorem d3_58 : decode jdk_42_method_149_code 58 = .ok (.aload_n 0, 1) := by decide +kernel
theorem d3_59 : decode jdk_42_method_149_code 59 = .ok (.iconst 1, 1) := by decide +kernel
theorem d3_60 : decode jdk_42_method_149_code 60 = .ok (.putfield 15, 3) := by decide +kernel
theorem d3_63 : decode jdk_42_method_149_code 63 = .ok (.aload_n 0, 1) := by decide +kernel
theorem d3_64 : decode jdk_42_method_149_code 64 = .ok (.aload_n 1, 1) := by decide +kernel
theorem d3_65 : decode jdk_42_method_149_code 65 = .ok (.iload_n 2, 1) := by decide +kernel
theorem d3_66 : decode jdk_42_method_149_code 66 = .ok (.iload_n 3, 1) := by decide +kernel
theorem d3_67 : decode jdk_42_method_149_code 67 = .ok (.invokestatic 180, 3) := by decide +kernel
theorem d3_70 : decode jdk_42_method_149_code 70 = .ok (.putfield 9, 3) := by decide +kernel
theorem d3_73 : decode jdk_42_method_149_code 73 = .ok (.return_, 1) := by decide +kernel
theorem pn_3 : plainFor (⟨"java/lang/String", "<init>", "([CIILjava/lang/Void;)V"⟩ : MethodName) = true := plainFor_of_name (by first | (simp [plainName, overriddenIn]; done) | decide +kernel)
theorem pd_3 : parseMethodDescriptor "([CIILjava/lang/Void;)V" = some ⟨[(.array .char), .int, .int, (.object "java/lang/Void")], none⟩ := by decide +kernel
set_option maxRecDepth 65536 in
set_option maxHeartbeats 40000000 in
theorem rm3 {l : Launch} {Z : State} {a0 : Array Value} (hw : ∀ d ∈ tables_1, d.before a0 Z = true) {n0 : Nat} {h0 : Heap} (Z0 : n0 ≤ h0.size) (a1 a2 : Addr) {f : Nat → Value} {c0 zc : Int32} {u1 u2 : Value} (E_1 : Exa Z h0 a1 "java/lang/String") (F_v : Fld Z h0 a1 "java/lang/String" "value" "[B" u1) (F_c : Fld Z h0 a1 "java/lang/String" "coder" "B" u2) (g_1 : n0 ≤ a1) (A_2 : Ary Z h0 a2 .char 1 f) (ne12 : a1 ≠ a2) (hf0 : f 0 = .int c0) (hc0 : ¬ (255 : Int32) < c0) (S_c : Sta Z h0 "java/lang/String" "COMPACT_STRINGS" "Z" (.int zc)) (hzc : ¬ zc = (0 : Int32)) :
    Con l Z n0 (⟨"java/lang/String", "<init>", "([CIILjava/lang/Void;)V"⟩ : MethodName) jdk_42_method_149_code 6 none ({ frames := 2, cells := 1, slots := 1, locals := 35 } : Room) #[(.ref a1), (.ref a2), (.int (0 : Int32)), (.int (1 : Int32)), .null] h0 (Non (fun h => Keep h0 h [a1])) := by
  refine con_intro pn_3 Z0 (fr := fun m => mkF m 0 #[.val (.ref a1), .val (.ref a2), .val (.int (0 : Int32)), .val (.int (1 : Int32)), .val .null, .unset] []) (fun m => by first | (simp [entryFrame, mkF, argsToLocals, Value.category]; done) | rfl) ?_
  intro p e s m below s₁ hs0 X0
  refine w_aloadN X0 (pc' := 1) d3_0 rfl rfl rfl ?_
  refine w_initO X0 (pc' := 4) d3_1 (hw _ (List.mem_of_getElem? (i := 78) rfl)) (hw _ (List.mem_of_getElem? (i := 79) rfl)) (hw _ (List.mem_of_getElem? (i := 80) rfl)) rfl (by decide) 0 (Nat.le_refl _) (by decide) rfl fun T1 X1 => ?_
  refine w_iloadN X1 (pc' := 5) d3_4 rfl rfl ?_
  refine w_if_ne X1 27 8 d3_5 (by decide) rfl rfl (fun hc5 => ?_) (fun hc5 => by exfalso; revert hc5; decide)
  refine w_getstatic X1 (pc' := 30) d3_27 (host := "") (Or.inl (hw _ (List.mem_of_getElem? (i := 81) rfl))) Via.refl S_c rfl fun T2 X2 => ?_
  refine w_if_eq X2 58 33 d3_30 (by decide) rfl rfl (fun hc30 => by exfalso; exact hzc hc30) (fun hc30 => ?_)
  refine w_aloadN X2 (pc' := 34) d3_33 rfl rfl rfl ?_
  refine w_iloadN X2 (pc' := 35) d3_34 rfl rfl ?_
  refine w_iloadN X2 (pc' := 36) d3_35 rfl rfl ?_
  refine w_staticV X2 (pc' := 39) d3_36 (rm5 hw (h0 := h0) (sd_size X2) a2 A_2 hf0 hc0) (hw _ (List.mem_of_getElem? (i := 82) rfl)) (hw _ (List.mem_of_getElem? (i := 83) rfl)) (hw _ (List.mem_of_getElem? (i := 84) rfl)) (hw _ (List.mem_of_getElem? (i := 85) rfl)) (by decide) [(.ref a2), (.int (0 : Int32)), (.int (1 : Int32))] [] pd_5 rfl rfl rfl rfl 0 (Nat.le_refl _) (by decide) (by decide) (by decide) (by decide) rfl fun T3 h3 v3 X3 q3 => ?_
  obtain ⟨b3, rfl, g3, gn3, K3, f3, A3⟩ := q3
  have ne_a1_b3 : a1 ≠ b3 := ne_new g3 F_v.lt
  have ne_a2_b3 : a2 ≠ b3 := ne_new g3 A_2.lt
  have K_b3 : Keep h0 _ [a1] := (Keep.refl h0 [a1])
  have sz_b3 : h0.size ≤ b3 := sz_fresh g3 K_b3
  have F_v_4 := F_v.keep K3 nin0
  have F_c_4 := F_c.keep K3 nin0
  have E_4 := E_1.keep K3
  have A_4 := A_2.keep K3 nin0
  have K_5 : Keep h0 h3 [a1] := K_b3.trans K3 all0
  refine w_astore X3 (pc' := 41) (l' := #[.val (.ref a1), .val (.ref a2), .val (.int (0 : Int32)), .val (.int (1 : Int32)), .val .null, .val (.ref b3)]) d3_39 rfl rfl rfl ?_
  refine w_aloadN X3 (pc' := 42) d3_41 rfl rfl rfl ?_
  refine w_aload X3 (pc' := 44) d3_42 rfl rfl rfl ?_
  refine w_iloadN X3 (pc' := 45) d3_44 rfl rfl ?_
  refine w_staticV X3 (pc' := 48) d3_45 (rm7 hw (h0 := h3) (sd_size X3) b3 A3) (hw _ (List.mem_of_getElem? (i := 90) rfl)) (hw _ (List.mem_of_getElem? (i := 91) rfl)) (hw _ (List.mem_of_getElem? (i := 84) rfl)) (hw _ (List.mem_of_getElem? (i := 92) rfl)) (by decide) [(.ref b3), (.int (1 : Int32))] [(.ref a1)] pd_7 rfl rfl rfl rfl 1 (Nat.le_refl _) (by decide) (by decide) (by decide) (by decide) rfl fun T6 h6 v6 X6 q6 => ?_
  obtain ⟨rfl, rfl⟩ := q6
  refine w_putfieldN X6 (pc' := 51) d3_48 (hw _ (List.mem_of_getElem? (i := 93) rfl)) Via.refl F_c_4 E_4 (Or.inr ⟨(hw _ (List.mem_of_getElem? (i := 94) rfl)), rfl, rfl⟩) (hw _ (List.mem_of_getElem? (i := 69) rfl)) (ty := .byte) (v' := (.int (nar .byte (0 : Int32)))) (by decide) rfl (fits_nar_byte _) g_1 rfl fun T7 h7 X7 W7 F7 => ?_
  have F_v_8 := Fld.other W7 F_v_4 (Or.inr (slot_ne (C := "java/lang/String") (Or.inr (hw _ (List.mem_of_getElem? (i := 96) rfl))) (Or.inr (hw _ (List.mem_of_getElem? (i := 94) rfl))) (by decide) (t := (.array .byte)) (t' := .byte) (by decide) (by decide)))
  have E_8 := Exa.wr W7 E_4
  have A_8 := A_4.other W7 (Ne.symm ne12)
  have A3_8 := A3.other W7 (Ne.symm ne_a1_b3)
  have K_9 : Keep h0 h7 [a1] := K_5.wr W7 (Or.inl (List.mem_of_getElem? (i := 0) rfl))
  refine w_aloadN X7 (pc' := 52) d3_51 rfl rfl rfl ?_
  refine w_aload X7 (pc' := 54) d3_52 rfl rfl rfl ?_
  refine w_putfield X7 (pc' := 57) d3_54 (host := "") (Or.inl (hw _ (List.mem_of_getElem? (i := 95) rfl))) Via.refl F_v_8 E_8 (Or.inr ⟨(hw _ (List.mem_of_getElem? (i := 96) rfl)), rfl, rfl⟩) (hw _ (List.mem_of_getElem? (i := 69) rfl)) (ty := (.array .byte)) (by decide) rfl rfl g_1 rfl fun T10 h10 X10 W10 F10 => ?_
  have F7_11 := Fld.other W10 F7 (Or.inr (slot_ne (C := "java/lang/String") (Or.inr (hw _ (List.mem_of_getElem? (i := 94) rfl))) (Or.inr (hw _ (List.mem_of_getElem? (i := 96) rfl))) (by decide) (t := .byte) (t' := (.array .byte)) (by decide) (by decide)))
  have E_11 := Exa.wr W10 E_8
  have A_11 := A_8.other W10 (Ne.symm ne12)
  have A3_11 := A3_8.other W10 (Ne.symm ne_a1_b3)
  have K_12 : Keep h0 h10 [a1] := K_9.wr W10 (Or.inl (List.mem_of_getElem? (i := 0) rfl))
  exact w_return X10 d3_57 K_12 (by decide) (by decide)
theorem d2_0 : decode jdk_42_method_3_code 0 = .ok (.aload_n 0, 1) := by decide +kernel
theorem d2_1 : decode jdk_42_method_3_code 1 = .ok (.aload_n 1, 1) := by decide +kernel
theorem d2_2 : decode jdk_42_method_3_code 2 = .ok (.iconst 0, 1) := by decide +kernel
theorem d2_3 : decode jdk_42_method_3_code 3 = .ok (.aload_n 1, 1) := by decide +kernel
theorem d2_4 : decode jdk_42_method_3_code 4 = .ok (.arraylength, 1) := by decide +kernel
theorem d2_5 : decode jdk_42_method_3_code 5 = .ok (.aconst_null, 1) := by decide +kernel
theorem d2_6 : decode jdk_42_method_3_code 6 = .ok (.invokespecial 27, 3) := by decide +kernel
theorem d2_9 : decode jdk_42_method_3_code 9 = .ok (.return_, 1) := by decide +kernel
theorem pn_2 : plainFor (⟨"java/lang/String", "<init>", "([C)V"⟩ : MethodName) = true := plainFor_of_name (by first | (simp [plainName, overriddenIn]; done) | decide +kernel)
theorem pd_2 : parseMethodDescriptor "([C)V" = some ⟨[(.array .char)], none⟩ := by decide +kernel
set_option maxRecDepth 65536 in
set_option maxHeartbeats 40000000 in
theorem rm2 {l : Launch} {Z : State} {a0 : Array Value} (hw : ∀ d ∈ tables_1, d.before a0 Z = true) {n0 : Nat} {h0 : Heap} (Z0 : n0 ≤ h0.size) (a1 a2 : Addr) {f : Nat → Value} {c0 zc : Int32} {u1 u2 : Value} (E_1 : Exa Z h0 a1 "java/lang/String") (F_v : Fld Z h0 a1 "java/lang/String" "value" "[B" u1) (F_c : Fld Z h0 a1 "java/lang/String" "coder" "B" u2) (g_1 : n0 ≤ a1) (A_2 : Ary Z h0 a2 .char 1 f) (ne12 : a1 ≠ a2) (hf0 : f 0 = .int c0) (hc0 : ¬ (255 : Int32) < c0) (S_c : Sta Z h0 "java/lang/String" "COMPACT_STRINGS" "Z" (.int zc)) (hzc : ¬ zc = (0 : Int32)) :
    Con l Z n0 (⟨"java/lang/String", "<init>", "([C)V"⟩ : MethodName) jdk_42_method_3_code 2 none ({ frames := 3, cells := 1, slots := 1, locals := 52 } : Room) #[(.ref a1), (.ref a2)] h0 (Non (fun h => Keep h0 h [a1])) := by
  refine con_intro pn_2 Z0 (fr := fun m => mkF m 0 #[.val (.ref a1), .val (.ref a2)] []) (fun m => by first | (simp [entryFrame, mkF, argsToLocals, Value.category]; done) | rfl) ?_
  intro p e s m below s₁ hs0 X0
  refine w_aloadN X0 (pc' := 1) d2_0 rfl rfl rfl ?_
  refine w_aloadN X0 (pc' := 2) d2_1 rfl rfl rfl ?_
  refine w_iconst X0 (pc' := 3) (0 : Int32) d2_2 rfl rfl ?_
  refine w_aloadN X0 (pc' := 4) d2_3 rfl rfl rfl ?_
  refine w_arraylength X0 (pc' := 5) (1 : Int32) d2_4 A_2 (by decide) rfl ?_
  refine w_aconst_null X0 (pc' := 6) d2_5 rfl ?_
  refine w_specialN X0 (pc' := 9) d2_6 (rm3 hw (h0 := h0) (sd_size X0) a1 a2 E_1 F_v F_c g_1 A_2 ne12 hf0 hc0 S_c hzc) (hw _ (List.mem_of_getElem? (i := 74) rfl)) (hw _ (List.mem_of_getElem? (i := 75) rfl)) (hw _ (List.mem_of_getElem? (i := 70) rfl)) (hw _ (List.mem_of_getElem? (i := 77) rfl)) rfl (by decide) [(.ref a2), (.int (0 : Int32)), (.int (1 : Int32)), .null] [] pd_3 rfl rfl rfl rfl 0 (Nat.le_refl _) (by decide) (by decide) (by decide) (by decide) rfl fun T1 h1 X1 q1 => ?_
  have K1 := q1
  have E_2 := E_1.keep K1
  have A_2 := A_2.keep K1 (ninS (Ne.symm ne12) nin0)
  have K_3r : Keep h0 _ [a1] := (Keep.refl h0 [a1])
  have K_3 : Keep h0 h1 [a1] := K_3r.trans K1 (allS (Or.inl (List.mem_of_getElem? (i := 0) rfl)) all0)
  exact w_return X1 d2_9 K_3 (by decide) (by decide)
theorem d1_0 : decode method_2_code 0 = .ok (.bipush 30, 2) := by decide +kernel
theorem d1_2 : decode method_2_code 2 = .ok (.anewarray 7, 3) := by decide +kernel
theorem d1_5 : decode method_2_code 5 = .ok (.dup, 1) := by decide +kernel
theorem d1_6 : decode method_2_code 6 = .ok (.iconst 0, 1) := by decide +kernel
theorem d1_7 : decode method_2_code 7 = .ok (.getstatic 9, 3) := by decide +kernel
theorem d1_10 : decode method_2_code 10 = .ok (.aastore, 1) := by decide +kernel
theorem d1_11 : decode method_2_code 11 = .ok (.dup, 1) := by decide +kernel
theorem d1_12 : decode method_2_code 12 = .ok (.iconst 1, 1) := by decide +kernel
theorem d1_13 : decode method_2_code 13 = .ok (.getstatic 13, 3) := by decide +kernel
theorem d1_16 : decode method_2_code 16 = .ok (.aastore, 1) := by decide +kernel
theorem d1_17 : decode method_2_code 17 = .ok (.dup, 1) := by decide +kernel
theorem d1_18 : decode method_2_code 18 = .ok (.iconst 2, 1) := by decide +kernel
theorem d1_19 : decode method_2_code 19 = .ok (.getstatic 16, 3) := by decide +kernel
theorem d1_22 : decode method_2_code 22 = .ok (.aastore, 1) := by decide +kernel
theorem d1_23 : decode method_2_code 23 = .ok (.dup, 1) := by decide +kernel
theorem d1_24 : decode method_2_code 24 = .ok (.iconst 3, 1) := by decide +kernel
theorem d1_25 : decode method_2_code 25 = .ok (.getstatic 19, 3) := by decide +kernel
theorem d1_28 : decode method_2_code 28 = .ok (.aastore, 1) := by decide +kernel
theorem d1_29 : decode method_2_code 29 = .ok (.dup, 1) := by decide +kernel
theorem d1_30 : decode method_2_code 30 = .ok (.iconst 4, 1) := by decide +kernel
theorem d1_31 : decode method_2_code 31 = .ok (.getstatic 22, 3) := by decide +kernel
theorem d1_34 : decode method_2_code 34 = .ok (.aastore, 1) := by decide +kernel
theorem d1_35 : decode method_2_code 35 = .ok (.dup, 1) := by decide +kernel
theorem d1_36 : decode method_2_code 36 = .ok (.iconst 5, 1) := by decide +kernel
theorem d1_37 : decode method_2_code 37 = .ok (.getstatic 25, 3) := by decide +kernel
theorem d1_40 : decode method_2_code 40 = .ok (.aastore, 1) := by decide +kernel
theorem d1_41 : decode method_2_code 41 = .ok (.dup, 1) := by decide +kernel
theorem d1_42 : decode method_2_code 42 = .ok (.bipush 6, 2) := by decide +kernel
theorem d1_44 : decode method_2_code 44 = .ok (.getstatic 28, 3) := by decide +kernel
theorem d1_47 : decode method_2_code 47 = .ok (.aastore, 1) := by decide +kernel
theorem d1_48 : decode method_2_code 48 = .ok (.dup, 1) := by decide +kernel
theorem d1_49 : decode method_2_code 49 = .ok (.bipush 7, 2) := by decide +kernel
theorem d1_51 : decode method_2_code 51 = .ok (.getstatic 31, 3) := by decide +kernel
theorem d1_54 : decode method_2_code 54 = .ok (.aastore, 1) := by decide +kernel
theorem d1_55 : decode method_2_code 55 = .ok (.dup, 1) := by decide +kernel
theorem d1_56 : decode method_2_code 56 = .ok (.bipush 8, 2) := by decide +kernel
theorem d1_58 : decode method_2_code 58 = .ok (.getstatic 34, 3) := by decide +kernel
theorem d1_61 : decode method_2_code 61 = .ok (.aastore, 1) := by decide +kernel
theorem d1_62 : decode method_2_code 62 = .ok (.dup, 1) := by decide +kernel
theorem d1_63 : decode method_2_code 63 = .ok (.bipush 9, 2) := by decide +kernel
theorem d1_65 : decode method_2_code 65 = .ok (.getstatic 37, 3) := by decide +kernel
theorem d1_68 : decode method_2_code 68 = .ok (.aastore, 1) := by decide +kernel
theorem d1_69 : decode method_2_code 69 = .ok (.dup, 1) := by decide +kernel
theorem d1_70 : decode method_2_code 70 = .ok (.bipush 10, 2) := by decide +kernel
theorem d1_72 : decode method_2_code 72 = .ok (.getstatic 40, 3) := by decide +kernel
theorem d1_75 : decode method_2_code 75 = .ok (.aastore, 1) := by decide +kernel
theorem d1_76 : decode method_2_code 76 = .ok (.dup, 1) := by decide +kernel
theorem d1_77 : decode method_2_code 77 = .ok (.bipush 11, 2) := by decide +kernel
theorem d1_79 : decode method_2_code 79 = .ok (.getstatic 43, 3) := by decide +kernel
theorem d1_82 : decode method_2_code 82 = .ok (.aastore, 1) := by decide +kernel
theorem d1_83 : decode method_2_code 83 = .ok (.dup, 1) := by decide +kernel
theorem d1_84 : decode method_2_code 84 = .ok (.bipush 12, 2) := by decide +kernel
theorem d1_86 : decode method_2_code 86 = .ok (.getstatic 46, 3) := by decide +kernel
theorem d1_89 : decode method_2_code 89 = .ok (.aastore, 1) := by decide +kernel
theorem d1_90 : decode method_2_code 90 = .ok (.dup, 1) := by decide +kernel
theorem d1_91 : decode method_2_code 91 = .ok (.bipush 13, 2) := by decide +kernel
theorem d1_93 : decode method_2_code 93 = .ok (.getstatic 49, 3) := by decide +kernel
theorem d1_96 : decode method_2_code 96 = .ok (.aastore, 1) := by decide +kernel
theorem d1_97 : decode method_2_code 97 = .ok (.dup, 1) := by decide +kernel
theorem d1_98 : decode method_2_code 98 = .ok (.bipush 14, 2) := by decide +kernel
theorem d1_100 : decode method_2_code 100 = .ok (.getstatic 52, 3) := by decide +kernel
theorem d1_103 : decode method_2_code 103 = .ok (.aastore, 1) := by decide +kernel
theorem d1_104 : decode method_2_code 104 = .ok (.dup, 1) := by decide +kernel
theorem d1_105 : decode method_2_code 105 = .ok (.bipush 15, 2) := by decide +kernel
theorem d1_107 : decode method_2_code 107 = .ok (.getstatic 55, 3) := by decide +kernel
theorem d1_110 : decode method_2_code 110 = .ok (.aastore, 1) := by decide +kernel
theorem d1_111 : decode method_2_code 111 = .ok (.dup, 1) := by decide +kernel
theorem d1_112 : decode method_2_code 112 = .ok (.bipush 16, 2) := by decide +kernel
theorem d1_114 : decode method_2_code 114 = .ok (.getstatic 58, 3) := by decide +kernel
theorem d1_117 : decode method_2_code 117 = .ok (.aastore, 1) := by decide +kernel
theorem d1_118 : decode method_2_code 118 = .ok (.dup, 1) := by decide +kernel
theorem d1_119 : decode method_2_code 119 = .ok (.bipush 17, 2) := by decide +kernel
theorem d1_121 : decode method_2_code 121 = .ok (.getstatic 61, 3) := by decide +kernel
theorem d1_124 : decode method_2_code 124 = .ok (.aastore, 1) := by decide +kernel
theorem d1_125 : decode method_2_code 125 = .ok (.dup, 1) := by decide +kernel
theorem d1_126 : decode method_2_code 126 = .ok (.bipush 18, 2) := by decide +kernel
theorem d1_128 : decode method_2_code 128 = .ok (.getstatic 64, 3) := by decide +kernel
theorem d1_131 : decode method_2_code 131 = .ok (.aastore, 1) := by decide +kernel
theorem d1_132 : decode method_2_code 132 = .ok (.dup, 1) := by decide +kernel
theorem d1_133 : decode method_2_code 133 = .ok (.bipush 19, 2) := by decide +kernel
theorem d1_135 : decode method_2_code 135 = .ok (.getstatic 67, 3) := by decide +kernel
theorem d1_138 : decode method_2_code 138 = .ok (.aastore, 1) := by decide +kernel
theorem d1_139 : decode method_2_code 139 = .ok (.dup, 1) := by decide +kernel
theorem d1_140 : decode method_2_code 140 = .ok (.bipush 20, 2) := by decide +kernel
theorem d1_142 : decode method_2_code 142 = .ok (.getstatic 70, 3) := by decide +kernel
theorem d1_145 : decode method_2_code 145 = .ok (.aastore, 1) := by decide +kernel
theorem d1_146 : decode method_2_code 146 = .ok (.dup, 1) := by decide +kernel
theorem d1_147 : decode method_2_code 147 = .ok (.bipush 21, 2) := by decide +kernel
theorem d1_149 : decode method_2_code 149 = .ok (.getstatic 73, 3) := by decide +kernel
theorem d1_152 : decode method_2_code 152 = .ok (.aastore, 1) := by decide +kernel
theorem d1_153 : decode method_2_code 153 = .ok (.dup, 1) := by decide +kernel
theorem d1_154 : decode method_2_code 154 = .ok (.bipush 22, 2) := by decide +kernel
theorem d1_156 : decode method_2_code 156 = .ok (.getstatic 76, 3) := by decide +kernel
theorem d1_159 : decode method_2_code 159 = .ok (.aastore, 1) := by decide +kernel
theorem d1_160 : decode method_2_code 160 = .ok (.dup, 1) := by decide +kernel
theorem d1_161 : decode method_2_code 161 = .ok (.bipush 23, 2) := by decide +kernel
theorem d1_163 : decode method_2_code 163 = .ok (.getstatic 79, 3) := by decide +kernel
theorem d1_166 : decode method_2_code 166 = .ok (.aastore, 1) := by decide +kernel
theorem d1_167 : decode method_2_code 167 = .ok (.dup, 1) := by decide +kernel
theorem d1_168 : decode method_2_code 168 = .ok (.bipush 24, 2) := by decide +kernel
theorem d1_170 : decode method_2_code 170 = .ok (.getstatic 82, 3) := by decide +kernel
theorem d1_173 : decode method_2_code 173 = .ok (.aastore, 1) := by decide +kernel
theorem d1_174 : decode method_2_code 174 = .ok (.dup, 1) := by decide +kernel
theorem d1_175 : decode method_2_code 175 = .ok (.bipush 25, 2) := by decide +kernel
theorem d1_177 : decode method_2_code 177 = .ok (.getstatic 85, 3) := by decide +kernel
theorem d1_180 : decode method_2_code 180 = .ok (.aastore, 1) := by decide +kernel
theorem d1_181 : decode method_2_code 181 = .ok (.dup, 1) := by decide +kernel
theorem d1_182 : decode method_2_code 182 = .ok (.bipush 26, 2) := by decide +kernel
theorem d1_184 : decode method_2_code 184 = .ok (.getstatic 88, 3) := by decide +kernel
theorem d1_187 : decode method_2_code 187 = .ok (.aastore, 1) := by decide +kernel
theorem d1_188 : decode method_2_code 188 = .ok (.dup, 1) := by decide +kernel
theorem d1_189 : decode method_2_code 189 = .ok (.bipush 27, 2) := by decide +kernel
theorem d1_191 : decode method_2_code 191 = .ok (.getstatic 91, 3) := by decide +kernel
theorem d1_194 : decode method_2_code 194 = .ok (.aastore, 1) := by decide +kernel
theorem d1_195 : decode method_2_code 195 = .ok (.dup, 1) := by decide +kernel
theorem d1_196 : decode method_2_code 196 = .ok (.bipush 28, 2) := by decide +kernel
theorem d1_198 : decode method_2_code 198 = .ok (.getstatic 94, 3) := by decide +kernel
theorem d1_201 : decode method_2_code 201 = .ok (.aastore, 1) := by decide +kernel
theorem d1_202 : decode method_2_code 202 = .ok (.dup, 1) := by decide +kernel
theorem d1_203 : decode method_2_code 203 = .ok (.bipush 29, 2) := by decide +kernel
theorem d1_205 : decode method_2_code 205 = .ok (.aconst_null, 1) := by decide +kernel
theorem d1_206 : decode method_2_code 206 = .ok (.aastore, 1) := by decide +kernel
theorem d1_207 : decode method_2_code 207 = .ok (.astore_n 0, 1) := by decide +kernel
theorem d1_208 : decode method_2_code 208 = .ok (.aload_n 0, 1) := by decide +kernel
theorem d1_209 : decode method_2_code 209 = .ok (.areturn, 1) := by decide +kernel
theorem pn_1 : plainFor (⟨"com/example/edict4/edict4/policy/TokenIsPinLaw", "kinds", "()[Lcom/example/edict4/edict4/policy/Token$Kind;"⟩ : MethodName) = true := plainFor_of_name (by first | (simp [plainName, overriddenIn]; done) | decide +kernel)
theorem pd_1 : parseMethodDescriptor "()[Lcom/example/edict4/edict4/policy/Token$Kind;" = some ⟨[], some (.array (.object "com/example/edict4/edict4/policy/Token$Kind"))⟩ := by decide +kernel
def own_kv (d0 d1 d2 d3 d4 d5 d6 d7 d8 d9 d10 d11 d12 d13 d14 d15 d16 d17 d18 d19 d20 d21 d22 d23 d24 d25 d26 d27 d28 : Addr) : Nat → Value := (upd (upd (upd (upd (upd (upd (upd (upd (upd (upd (upd (upd (upd (upd (upd (upd (upd (upd (upd (upd (upd (upd (upd (upd (upd (upd (upd (upd (upd (upd (fun _ => .null) 0 (.ref d0)) 1 (.ref d1)) 2 (.ref d2)) 3 (.ref d3)) 4 (.ref d4)) 5 (.ref d5)) 6 (.ref d6)) 7 (.ref d7)) 8 (.ref d8)) 9 (.ref d9)) 10 (.ref d10)) 11 (.ref d11)) 12 (.ref d12)) 13 (.ref d13)) 14 (.ref d14)) 15 (.ref d15)) 16 (.ref d16)) 17 (.ref d17)) 18 (.ref d18)) 19 (.ref d19)) 20 (.ref d20)) 21 (.ref d21)) 22 (.ref d22)) 23 (.ref d23)) 24 (.ref d24)) 25 (.ref d25)) 26 (.ref d26)) 27 (.ref d27)) 28 (.ref d28)) 29 .null)
set_option maxRecDepth 65536 in
set_option maxHeartbeats 40000000 in
theorem rm1 {l : Launch} {Z : State} {a0 : Array Value} (hw : ∀ d ∈ tables_1, d.before a0 Z = true) {n0 : Nat} {h0 : Heap} (Z0 : n0 ≤ h0.size)  (Zn : h0.size ≤ n0) {d0 : Addr} (S_d0 : Sta Z h0 "com/example/edict4/edict4/policy/Token$Kind" "NAME" "Lcom/example/edict4/edict4/policy/Token$Kind;" (.ref d0)) (E_d0 : Exa Z h0 d0 "com/example/edict4/edict4/policy/Token$Kind") {d1 : Addr} (S_d1 : Sta Z h0 "com/example/edict4/edict4/policy/Token$Kind" "STRING" "Lcom/example/edict4/edict4/policy/Token$Kind;" (.ref d1)) (E_d1 : Exa Z h0 d1 "com/example/edict4/edict4/policy/Token$Kind") {d2 : Addr} (S_d2 : Sta Z h0 "com/example/edict4/edict4/policy/Token$Kind" "NUMBER" "Lcom/example/edict4/edict4/policy/Token$Kind;" (.ref d2)) (E_d2 : Exa Z h0 d2 "com/example/edict4/edict4/policy/Token$Kind") {d3 : Addr} (S_d3 : Sta Z h0 "com/example/edict4/edict4/policy/Token$Kind" "OR" "Lcom/example/edict4/edict4/policy/Token$Kind;" (.ref d3)) (E_d3 : Exa Z h0 d3 "com/example/edict4/edict4/policy/Token$Kind") {d4 : Addr} (S_d4 : Sta Z h0 "com/example/edict4/edict4/policy/Token$Kind" "AND" "Lcom/example/edict4/edict4/policy/Token$Kind;" (.ref d4)) (E_d4 : Exa Z h0 d4 "com/example/edict4/edict4/policy/Token$Kind") {d5 : Addr} (S_d5 : Sta Z h0 "com/example/edict4/edict4/policy/Token$Kind" "EQUALS" "Lcom/example/edict4/edict4/policy/Token$Kind;" (.ref d5)) (E_d5 : Exa Z h0 d5 "com/example/edict4/edict4/policy/Token$Kind") {d6 : Addr} (S_d6 : Sta Z h0 "com/example/edict4/edict4/policy/Token$Kind" "NOT_EQUALS" "Lcom/example/edict4/edict4/policy/Token$Kind;" (.ref d6)) (E_d6 : Exa Z h0 d6 "com/example/edict4/edict4/policy/Token$Kind") {d7 : Addr} (S_d7 : Sta Z h0 "com/example/edict4/edict4/policy/Token$Kind" "MATCHES" "Lcom/example/edict4/edict4/policy/Token$Kind;" (.ref d7)) (E_d7 : Exa Z h0 d7 "com/example/edict4/edict4/policy/Token$Kind") {d8 : Addr} (S_d8 : Sta Z h0 "com/example/edict4/edict4/policy/Token$Kind" "LESS" "Lcom/example/edict4/edict4/policy/Token$Kind;" (.ref d8)) (E_d8 : Exa Z h0 d8 "com/example/edict4/edict4/policy/Token$Kind") {d9 : Addr} (S_d9 : Sta Z h0 "com/example/edict4/edict4/policy/Token$Kind" "LESS_OR_EQUAL" "Lcom/example/edict4/edict4/policy/Token$Kind;" (.ref d9)) (E_d9 : Exa Z h0 d9 "com/example/edict4/edict4/policy/Token$Kind") {d10 : Addr} (S_d10 : Sta Z h0 "com/example/edict4/edict4/policy/Token$Kind" "GREATER" "Lcom/example/edict4/edict4/policy/Token$Kind;" (.ref d10)) (E_d10 : Exa Z h0 d10 "com/example/edict4/edict4/policy/Token$Kind") {d11 : Addr} (S_d11 : Sta Z h0 "com/example/edict4/edict4/policy/Token$Kind" "GREATER_OR_EQUAL" "Lcom/example/edict4/edict4/policy/Token$Kind;" (.ref d11)) (E_d11 : Exa Z h0 d11 "com/example/edict4/edict4/policy/Token$Kind") {d12 : Addr} (S_d12 : Sta Z h0 "com/example/edict4/edict4/policy/Token$Kind" "NOT" "Lcom/example/edict4/edict4/policy/Token$Kind;" (.ref d12)) (E_d12 : Exa Z h0 d12 "com/example/edict4/edict4/policy/Token$Kind") {d13 : Addr} (S_d13 : Sta Z h0 "com/example/edict4/edict4/policy/Token$Kind" "PLUS" "Lcom/example/edict4/edict4/policy/Token$Kind;" (.ref d13)) (E_d13 : Exa Z h0 d13 "com/example/edict4/edict4/policy/Token$Kind") {d14 : Addr} (S_d14 : Sta Z h0 "com/example/edict4/edict4/policy/Token$Kind" "MINUS" "Lcom/example/edict4/edict4/policy/Token$Kind;" (.ref d14)) (E_d14 : Exa Z h0 d14 "com/example/edict4/edict4/policy/Token$Kind") {d15 : Addr} (S_d15 : Sta Z h0 "com/example/edict4/edict4/policy/Token$Kind" "TIMES" "Lcom/example/edict4/edict4/policy/Token$Kind;" (.ref d15)) (E_d15 : Exa Z h0 d15 "com/example/edict4/edict4/policy/Token$Kind") {d16 : Addr} (S_d16 : Sta Z h0 "com/example/edict4/edict4/policy/Token$Kind" "DIVIDE" "Lcom/example/edict4/edict4/policy/Token$Kind;" (.ref d16)) (E_d16 : Exa Z h0 d16 "com/example/edict4/edict4/policy/Token$Kind") {d17 : Addr} (S_d17 : Sta Z h0 "com/example/edict4/edict4/policy/Token$Kind" "REMAINDER" "Lcom/example/edict4/edict4/policy/Token$Kind;" (.ref d17)) (E_d17 : Exa Z h0 d17 "com/example/edict4/edict4/policy/Token$Kind") {d18 : Addr} (S_d18 : Sta Z h0 "com/example/edict4/edict4/policy/Token$Kind" "DOT" "Lcom/example/edict4/edict4/policy/Token$Kind;" (.ref d18)) (E_d18 : Exa Z h0 d18 "com/example/edict4/edict4/policy/Token$Kind") {d19 : Addr} (S_d19 : Sta Z h0 "com/example/edict4/edict4/policy/Token$Kind" "SEMICOLON" "Lcom/example/edict4/edict4/policy/Token$Kind;" (.ref d19)) (E_d19 : Exa Z h0 d19 "com/example/edict4/edict4/policy/Token$Kind") {d20 : Addr} (S_d20 : Sta Z h0 "com/example/edict4/edict4/policy/Token$Kind" "COMMA" "Lcom/example/edict4/edict4/policy/Token$Kind;" (.ref d20)) (E_d20 : Exa Z h0 d20 "com/example/edict4/edict4/policy/Token$Kind") {d21 : Addr} (S_d21 : Sta Z h0 "com/example/edict4/edict4/policy/Token$Kind" "COLON" "Lcom/example/edict4/edict4/policy/Token$Kind;" (.ref d21)) (E_d21 : Exa Z h0 d21 "com/example/edict4/edict4/policy/Token$Kind") {d22 : Addr} (S_d22 : Sta Z h0 "com/example/edict4/edict4/policy/Token$Kind" "LEFT_PAREN" "Lcom/example/edict4/edict4/policy/Token$Kind;" (.ref d22)) (E_d22 : Exa Z h0 d22 "com/example/edict4/edict4/policy/Token$Kind") {d23 : Addr} (S_d23 : Sta Z h0 "com/example/edict4/edict4/policy/Token$Kind" "RIGHT_PAREN" "Lcom/example/edict4/edict4/policy/Token$Kind;" (.ref d23)) (E_d23 : Exa Z h0 d23 "com/example/edict4/edict4/policy/Token$Kind") {d24 : Addr} (S_d24 : Sta Z h0 "com/example/edict4/edict4/policy/Token$Kind" "LEFT_BRACE" "Lcom/example/edict4/edict4/policy/Token$Kind;" (.ref d24)) (E_d24 : Exa Z h0 d24 "com/example/edict4/edict4/policy/Token$Kind") {d25 : Addr} (S_d25 : Sta Z h0 "com/example/edict4/edict4/policy/Token$Kind" "RIGHT_BRACE" "Lcom/example/edict4/edict4/policy/Token$Kind;" (.ref d25)) (E_d25 : Exa Z h0 d25 "com/example/edict4/edict4/policy/Token$Kind") {d26 : Addr} (S_d26 : Sta Z h0 "com/example/edict4/edict4/policy/Token$Kind" "LEFT_BRACKET" "Lcom/example/edict4/edict4/policy/Token$Kind;" (.ref d26)) (E_d26 : Exa Z h0 d26 "com/example/edict4/edict4/policy/Token$Kind") {d27 : Addr} (S_d27 : Sta Z h0 "com/example/edict4/edict4/policy/Token$Kind" "RIGHT_BRACKET" "Lcom/example/edict4/edict4/policy/Token$Kind;" (.ref d27)) (E_d27 : Exa Z h0 d27 "com/example/edict4/edict4/policy/Token$Kind") {d28 : Addr} (S_d28 : Sta Z h0 "com/example/edict4/edict4/policy/Token$Kind" "END" "Lcom/example/edict4/edict4/policy/Token$Kind;" (.ref d28)) (E_d28 : Exa Z h0 d28 "com/example/edict4/edict4/policy/Token$Kind") :
    Con l Z n0 (⟨"com/example/edict4/edict4/policy/TokenIsPinLaw", "kinds", "()[Lcom/example/edict4/edict4/policy/Token$Kind;"⟩ : MethodName) method_2_code 1 (some (.array (.object "com/example/edict4/edict4/policy/Token$Kind"))) ({ frames := 0, cells := 1, slots := 30, locals := 0 } : Room) #[] h0 (Val (fun v h => ∃ b : Addr, v = .ref b ∧ b = h0.size ∧ n0 ≤ b ∧ Keep h0 h [] ∧ Ary Z h b (.object "com/example/edict4/edict4/policy/Token$Kind") 30 (own_kv d0 d1 d2 d3 d4 d5 d6 d7 d8 d9 d10 d11 d12 d13 d14 d15 d16 d17 d18 d19 d20 d21 d22 d23 d24 d25 d26 d27 d28))) := by
  refine con_intro pn_1 Z0 (fr := fun m => mkF m 0 #[.unset] []) (fun m => by first | (simp [entryFrame, mkF, argsToLocals, Value.category]; done) | rfl) ?_
  intro p e s m below s₁ hs0 X0
  refine w_bipush X0 (pc' := 2) (30 : Int32) d1_0 rfl rfl ?_
  refine w_anewarray X0 (pc' := 5) 30 30 d1_2 (hw _ (List.mem_of_getElem? (i := 4) rfl)) (hw _ (List.mem_of_getElem? (i := 5) rfl)) (by decide) (by decide) (by decide) (by decide) (by decide) rfl fun T1 h1 b1 g1 gn1 X1 E1 O1 A1 => ?_
  have K_b1 : Keep h0 _ [] := (Keep.refl h0 [])
  have sz_b1 : h0.size ≤ b1 := sz_fresh g1 K_b1
  have K_3 : Keep h0 h1 [] := K_b1.ext E1
  have Oa1 : Oar Z h1 b1 "com/example/edict4/edict4/policy/Token$Kind" := O1
  replace A1 : Ary Z h1 b1 (.object "com/example/edict4/edict4/policy/Token$Kind") 30 (fun _ => .null) := A1
  refine w_dup X1 (pc' := 6) d1_5 rfl rfl ?_
  refine w_iconst X1 (pc' := 7) (0 : Int32) d1_6 rfl rfl ?_
  refine w_getstatic X1 (pc' := 10) d1_7 (host := "") (Or.inl (hw _ (List.mem_of_getElem? (i := 6) rfl))) Via.refl (Sta.ext (sd_ext X1 hs0 Zn) S_d0) rfl fun T4 X4 => ?_
  refine w_aastore X4 (pc' := 11) 0 d1_10 A1 rfl (Oa1.sto (Ins.self (Exa.ext (sd_ext X4 hs0 Zn) E_d0))) (by decide) (by decide) gn1 rfl fun T5 h5 X5 W5 A5 => ?_
  have Oa1_6 := Oa1.wr W5
  have K_7 : Keep h0 h5 [] := K_3.wr W5 (Or.inr sz_b1)
  refine w_dup X5 (pc' := 12) d1_11 rfl rfl ?_
  refine w_iconst X5 (pc' := 13) (1 : Int32) d1_12 rfl rfl ?_
  refine w_getstatic X5 (pc' := 16) d1_13 (host := "") (Or.inl (hw _ (List.mem_of_getElem? (i := 10) rfl))) Via.refl (Sta.ext (sd_ext X5 hs0 Zn) S_d1) rfl fun T8 X8 => ?_
  refine w_aastore X8 (pc' := 17) 1 d1_16 A5 rfl (Oa1_6.sto (Ins.self (Exa.ext (sd_ext X8 hs0 Zn) E_d1))) (by decide) (by decide) gn1 rfl fun T9 h9 X9 W9 A9 => ?_
  have Oa1_10 := Oa1_6.wr W9
  have K_11 : Keep h0 h9 [] := K_7.wr W9 (Or.inr sz_b1)
  refine w_dup X9 (pc' := 18) d1_17 rfl rfl ?_
  refine w_iconst X9 (pc' := 19) (2 : Int32) d1_18 rfl rfl ?_
  refine w_getstatic X9 (pc' := 22) d1_19 (host := "") (Or.inl (hw _ (List.mem_of_getElem? (i := 12) rfl))) Via.refl (Sta.ext (sd_ext X9 hs0 Zn) S_d2) rfl fun T12 X12 => ?_
  refine w_aastore X12 (pc' := 23) 2 d1_22 A9 rfl (Oa1_10.sto (Ins.self (Exa.ext (sd_ext X12 hs0 Zn) E_d2))) (by decide) (by decide) gn1 rfl fun T13 h13 X13 W13 A13 => ?_
  have Oa1_14 := Oa1_10.wr W13
  have K_15 : Keep h0 h13 [] := K_11.wr W13 (Or.inr sz_b1)
  refine w_dup X13 (pc' := 24) d1_23 rfl rfl ?_
  refine w_iconst X13 (pc' := 25) (3 : Int32) d1_24 rfl rfl ?_
  refine w_getstatic X13 (pc' := 28) d1_25 (host := "") (Or.inl (hw _ (List.mem_of_getElem? (i := 14) rfl))) Via.refl (Sta.ext (sd_ext X13 hs0 Zn) S_d3) rfl fun T16 X16 => ?_
  refine w_aastore X16 (pc' := 29) 3 d1_28 A13 rfl (Oa1_14.sto (Ins.self (Exa.ext (sd_ext X16 hs0 Zn) E_d3))) (by decide) (by decide) gn1 rfl fun T17 h17 X17 W17 A17 => ?_
  have Oa1_18 := Oa1_14.wr W17
  have K_19 : Keep h0 h17 [] := K_15.wr W17 (Or.inr sz_b1)
  refine w_dup X17 (pc' := 30) d1_29 rfl rfl ?_
  refine w_iconst X17 (pc' := 31) (4 : Int32) d1_30 rfl rfl ?_
  refine w_getstatic X17 (pc' := 34) d1_31 (host := "") (Or.inl (hw _ (List.mem_of_getElem? (i := 16) rfl))) Via.refl (Sta.ext (sd_ext X17 hs0 Zn) S_d4) rfl fun T20 X20 => ?_
  refine w_aastore X20 (pc' := 35) 4 d1_34 A17 rfl (Oa1_18.sto (Ins.self (Exa.ext (sd_ext X20 hs0 Zn) E_d4))) (by decide) (by decide) gn1 rfl fun T21 h21 X21 W21 A21 => ?_
  have Oa1_22 := Oa1_18.wr W21
  have K_23 : Keep h0 h21 [] := K_19.wr W21 (Or.inr sz_b1)
  refine w_dup X21 (pc' := 36) d1_35 rfl rfl ?_
  refine w_iconst X21 (pc' := 37) (5 : Int32) d1_36 rfl rfl ?_
  refine w_getstatic X21 (pc' := 40) d1_37 (host := "") (Or.inl (hw _ (List.mem_of_getElem? (i := 18) rfl))) Via.refl (Sta.ext (sd_ext X21 hs0 Zn) S_d5) rfl fun T24 X24 => ?_
  refine w_aastore X24 (pc' := 41) 5 d1_40 A21 rfl (Oa1_22.sto (Ins.self (Exa.ext (sd_ext X24 hs0 Zn) E_d5))) (by decide) (by decide) gn1 rfl fun T25 h25 X25 W25 A25 => ?_
  have Oa1_26 := Oa1_22.wr W25
  have K_27 : Keep h0 h25 [] := K_23.wr W25 (Or.inr sz_b1)
  refine w_dup X25 (pc' := 42) d1_41 rfl rfl ?_
  refine w_bipush X25 (pc' := 44) (6 : Int32) d1_42 rfl rfl ?_
  refine w_getstatic X25 (pc' := 47) d1_44 (host := "") (Or.inl (hw _ (List.mem_of_getElem? (i := 20) rfl))) Via.refl (Sta.ext (sd_ext X25 hs0 Zn) S_d6) rfl fun T28 X28 => ?_
  refine w_aastore X28 (pc' := 48) 6 d1_47 A25 rfl (Oa1_26.sto (Ins.self (Exa.ext (sd_ext X28 hs0 Zn) E_d6))) (by decide) (by decide) gn1 rfl fun T29 h29 X29 W29 A29 => ?_
  have Oa1_30 := Oa1_26.wr W29
  have K_31 : Keep h0 h29 [] := K_27.wr W29 (Or.inr sz_b1)
  refine w_dup X29 (pc' := 49) d1_48 rfl rfl ?_
  refine w_bipush X29 (pc' := 51) (7 : Int32) d1_49 rfl rfl ?_
  refine w_getstatic X29 (pc' := 54) d1_51 (host := "") (Or.inl (hw _ (List.mem_of_getElem? (i := 22) rfl))) Via.refl (Sta.ext (sd_ext X29 hs0 Zn) S_d7) rfl fun T32 X32 => ?_
  refine w_aastore X32 (pc' := 55) 7 d1_54 A29 rfl (Oa1_30.sto (Ins.self (Exa.ext (sd_ext X32 hs0 Zn) E_d7))) (by decide) (by decide) gn1 rfl fun T33 h33 X33 W33 A33 => ?_
  have Oa1_34 := Oa1_30.wr W33
  have K_35 : Keep h0 h33 [] := K_31.wr W33 (Or.inr sz_b1)
  refine w_dup X33 (pc' := 56) d1_55 rfl rfl ?_
  refine w_bipush X33 (pc' := 58) (8 : Int32) d1_56 rfl rfl ?_
  refine w_getstatic X33 (pc' := 61) d1_58 (host := "") (Or.inl (hw _ (List.mem_of_getElem? (i := 24) rfl))) Via.refl (Sta.ext (sd_ext X33 hs0 Zn) S_d8) rfl fun T36 X36 => ?_
  refine w_aastore X36 (pc' := 62) 8 d1_61 A33 rfl (Oa1_34.sto (Ins.self (Exa.ext (sd_ext X36 hs0 Zn) E_d8))) (by decide) (by decide) gn1 rfl fun T37 h37 X37 W37 A37 => ?_
  have Oa1_38 := Oa1_34.wr W37
  have K_39 : Keep h0 h37 [] := K_35.wr W37 (Or.inr sz_b1)
  refine w_dup X37 (pc' := 63) d1_62 rfl rfl ?_
  refine w_bipush X37 (pc' := 65) (9 : Int32) d1_63 rfl rfl ?_
  refine w_getstatic X37 (pc' := 68) d1_65 (host := "") (Or.inl (hw _ (List.mem_of_getElem? (i := 26) rfl))) Via.refl (Sta.ext (sd_ext X37 hs0 Zn) S_d9) rfl fun T40 X40 => ?_
  refine w_aastore X40 (pc' := 69) 9 d1_68 A37 rfl (Oa1_38.sto (Ins.self (Exa.ext (sd_ext X40 hs0 Zn) E_d9))) (by decide) (by decide) gn1 rfl fun T41 h41 X41 W41 A41 => ?_
  have Oa1_42 := Oa1_38.wr W41
  have K_43 : Keep h0 h41 [] := K_39.wr W41 (Or.inr sz_b1)
  refine w_dup X41 (pc' := 70) d1_69 rfl rfl ?_
  refine w_bipush X41 (pc' := 72) (10 : Int32) d1_70 rfl rfl ?_
  refine w_getstatic X41 (pc' := 75) d1_72 (host := "") (Or.inl (hw _ (List.mem_of_getElem? (i := 28) rfl))) Via.refl (Sta.ext (sd_ext X41 hs0 Zn) S_d10) rfl fun T44 X44 => ?_
  refine w_aastore X44 (pc' := 76) 10 d1_75 A41 rfl (Oa1_42.sto (Ins.self (Exa.ext (sd_ext X44 hs0 Zn) E_d10))) (by decide) (by decide) gn1 rfl fun T45 h45 X45 W45 A45 => ?_
  have Oa1_46 := Oa1_42.wr W45
  have K_47 : Keep h0 h45 [] := K_43.wr W45 (Or.inr sz_b1)
  refine w_dup X45 (pc' := 77) d1_76 rfl rfl ?_
  refine w_bipush X45 (pc' := 79) (11 : Int32) d1_77 rfl rfl ?_
  refine w_getstatic X45 (pc' := 82) d1_79 (host := "") (Or.inl (hw _ (List.mem_of_getElem? (i := 30) rfl))) Via.refl (Sta.ext (sd_ext X45 hs0 Zn) S_d11) rfl fun T48 X48 => ?_
  refine w_aastore X48 (pc' := 83) 11 d1_82 A45 rfl (Oa1_46.sto (Ins.self (Exa.ext (sd_ext X48 hs0 Zn) E_d11))) (by decide) (by decide) gn1 rfl fun T49 h49 X49 W49 A49 => ?_
  have Oa1_50 := Oa1_46.wr W49
  have K_51 : Keep h0 h49 [] := K_47.wr W49 (Or.inr sz_b1)
  refine w_dup X49 (pc' := 84) d1_83 rfl rfl ?_
  refine w_bipush X49 (pc' := 86) (12 : Int32) d1_84 rfl rfl ?_
  refine w_getstatic X49 (pc' := 89) d1_86 (host := "") (Or.inl (hw _ (List.mem_of_getElem? (i := 32) rfl))) Via.refl (Sta.ext (sd_ext X49 hs0 Zn) S_d12) rfl fun T52 X52 => ?_
  refine w_aastore X52 (pc' := 90) 12 d1_89 A49 rfl (Oa1_50.sto (Ins.self (Exa.ext (sd_ext X52 hs0 Zn) E_d12))) (by decide) (by decide) gn1 rfl fun T53 h53 X53 W53 A53 => ?_
  have Oa1_54 := Oa1_50.wr W53
  have K_55 : Keep h0 h53 [] := K_51.wr W53 (Or.inr sz_b1)
  refine w_dup X53 (pc' := 91) d1_90 rfl rfl ?_
  refine w_bipush X53 (pc' := 93) (13 : Int32) d1_91 rfl rfl ?_
  refine w_getstatic X53 (pc' := 96) d1_93 (host := "") (Or.inl (hw _ (List.mem_of_getElem? (i := 34) rfl))) Via.refl (Sta.ext (sd_ext X53 hs0 Zn) S_d13) rfl fun T56 X56 => ?_
  refine w_aastore X56 (pc' := 97) 13 d1_96 A53 rfl (Oa1_54.sto (Ins.self (Exa.ext (sd_ext X56 hs0 Zn) E_d13))) (by decide) (by decide) gn1 rfl fun T57 h57 X57 W57 A57 => ?_
  have Oa1_58 := Oa1_54.wr W57
  have K_59 : Keep h0 h57 [] := K_55.wr W57 (Or.inr sz_b1)
  refine w_dup X57 (pc' := 98) d1_97 rfl rfl ?_
  refine w_bipush X57 (pc' := 100) (14 : Int32) d1_98 rfl rfl ?_
  refine w_getstatic X57 (pc' := 103) d1_100 (host := "") (Or.inl (hw _ (List.mem_of_getElem? (i := 36) rfl))) Via.refl (Sta.ext (sd_ext X57 hs0 Zn) S_d14) rfl fun T60 X60 => ?_
  refine w_aastore X60 (pc' := 104) 14 d1_103 A57 rfl (Oa1_58.sto (Ins.self (Exa.ext (sd_ext X60 hs0 Zn) E_d14))) (by decide) (by decide) gn1 rfl fun T61 h61 X61 W61 A61 => ?_
  have Oa1_62 := Oa1_58.wr W61
  have K_63 : Keep h0 h61 [] := K_59.wr W61 (Or.inr sz_b1)
  refine w_dup X61 (pc' := 105) d1_104 rfl rfl ?_
  refine w_bipush X61 (pc' := 107) (15 : Int32) d1_105 rfl rfl ?_
  refine w_getstatic X61 (pc' := 110) d1_107 (host := "") (Or.inl (hw _ (List.mem_of_getElem? (i := 38) rfl))) Via.refl (Sta.ext (sd_ext X61 hs0 Zn) S_d15) rfl fun T64 X64 => ?_
  refine w_aastore X64 (pc' := 111) 15 d1_110 A61 rfl (Oa1_62.sto (Ins.self (Exa.ext (sd_ext X64 hs0 Zn) E_d15))) (by decide) (by decide) gn1 rfl fun T65 h65 X65 W65 A65 => ?_
  have Oa1_66 := Oa1_62.wr W65
  have K_67 : Keep h0 h65 [] := K_63.wr W65 (Or.inr sz_b1)
  refine w_dup X65 (pc' := 112) d1_111 rfl rfl ?_
  refine w_bipush X65 (pc' := 114) (16 : Int32) d1_112 rfl rfl ?_
  refine w_getstatic X65 (pc' := 117) d1_114 (host := "") (Or.inl (hw _ (List.mem_of_getElem? (i := 40) rfl))) Via.refl (Sta.ext (sd_ext X65 hs0 Zn) S_d16) rfl fun T68 X68 => ?_
  refine w_aastore X68 (pc' := 118) 16 d1_117 A65 rfl (Oa1_66.sto (Ins.self (Exa.ext (sd_ext X68 hs0 Zn) E_d16))) (by decide) (by decide) gn1 rfl fun T69 h69 X69 W69 A69 => ?_
  have Oa1_70 := Oa1_66.wr W69
  have K_71 : Keep h0 h69 [] := K_67.wr W69 (Or.inr sz_b1)
  refine w_dup X69 (pc' := 119) d1_118 rfl rfl ?_
  refine w_bipush X69 (pc' := 121) (17 : Int32) d1_119 rfl rfl ?_
  refine w_getstatic X69 (pc' := 124) d1_121 (host := "") (Or.inl (hw _ (List.mem_of_getElem? (i := 42) rfl))) Via.refl (Sta.ext (sd_ext X69 hs0 Zn) S_d17) rfl fun T72 X72 => ?_
  refine w_aastore X72 (pc' := 125) 17 d1_124 A69 rfl (Oa1_70.sto (Ins.self (Exa.ext (sd_ext X72 hs0 Zn) E_d17))) (by decide) (by decide) gn1 rfl fun T73 h73 X73 W73 A73 => ?_
  have Oa1_74 := Oa1_70.wr W73
  have K_75 : Keep h0 h73 [] := K_71.wr W73 (Or.inr sz_b1)
  refine w_dup X73 (pc' := 126) d1_125 rfl rfl ?_
  refine w_bipush X73 (pc' := 128) (18 : Int32) d1_126 rfl rfl ?_
  refine w_getstatic X73 (pc' := 131) d1_128 (host := "") (Or.inl (hw _ (List.mem_of_getElem? (i := 44) rfl))) Via.refl (Sta.ext (sd_ext X73 hs0 Zn) S_d18) rfl fun T76 X76 => ?_
  refine w_aastore X76 (pc' := 132) 18 d1_131 A73 rfl (Oa1_74.sto (Ins.self (Exa.ext (sd_ext X76 hs0 Zn) E_d18))) (by decide) (by decide) gn1 rfl fun T77 h77 X77 W77 A77 => ?_
  have Oa1_78 := Oa1_74.wr W77
  have K_79 : Keep h0 h77 [] := K_75.wr W77 (Or.inr sz_b1)
  refine w_dup X77 (pc' := 133) d1_132 rfl rfl ?_
  refine w_bipush X77 (pc' := 135) (19 : Int32) d1_133 rfl rfl ?_
  refine w_getstatic X77 (pc' := 138) d1_135 (host := "") (Or.inl (hw _ (List.mem_of_getElem? (i := 46) rfl))) Via.refl (Sta.ext (sd_ext X77 hs0 Zn) S_d19) rfl fun T80 X80 => ?_
  refine w_aastore X80 (pc' := 139) 19 d1_138 A77 rfl (Oa1_78.sto (Ins.self (Exa.ext (sd_ext X80 hs0 Zn) E_d19))) (by decide) (by decide) gn1 rfl fun T81 h81 X81 W81 A81 => ?_
  have Oa1_82 := Oa1_78.wr W81
  have K_83 : Keep h0 h81 [] := K_79.wr W81 (Or.inr sz_b1)
  refine w_dup X81 (pc' := 140) d1_139 rfl rfl ?_
  refine w_bipush X81 (pc' := 142) (20 : Int32) d1_140 rfl rfl ?_
  refine w_getstatic X81 (pc' := 145) d1_142 (host := "") (Or.inl (hw _ (List.mem_of_getElem? (i := 48) rfl))) Via.refl (Sta.ext (sd_ext X81 hs0 Zn) S_d20) rfl fun T84 X84 => ?_
  refine w_aastore X84 (pc' := 146) 20 d1_145 A81 rfl (Oa1_82.sto (Ins.self (Exa.ext (sd_ext X84 hs0 Zn) E_d20))) (by decide) (by decide) gn1 rfl fun T85 h85 X85 W85 A85 => ?_
  have Oa1_86 := Oa1_82.wr W85
  have K_87 : Keep h0 h85 [] := K_83.wr W85 (Or.inr sz_b1)
  refine w_dup X85 (pc' := 147) d1_146 rfl rfl ?_
  refine w_bipush X85 (pc' := 149) (21 : Int32) d1_147 rfl rfl ?_
  refine w_getstatic X85 (pc' := 152) d1_149 (host := "") (Or.inl (hw _ (List.mem_of_getElem? (i := 50) rfl))) Via.refl (Sta.ext (sd_ext X85 hs0 Zn) S_d21) rfl fun T88 X88 => ?_
  refine w_aastore X88 (pc' := 153) 21 d1_152 A85 rfl (Oa1_86.sto (Ins.self (Exa.ext (sd_ext X88 hs0 Zn) E_d21))) (by decide) (by decide) gn1 rfl fun T89 h89 X89 W89 A89 => ?_
  have Oa1_90 := Oa1_86.wr W89
  have K_91 : Keep h0 h89 [] := K_87.wr W89 (Or.inr sz_b1)
  refine w_dup X89 (pc' := 154) d1_153 rfl rfl ?_
  refine w_bipush X89 (pc' := 156) (22 : Int32) d1_154 rfl rfl ?_
  refine w_getstatic X89 (pc' := 159) d1_156 (host := "") (Or.inl (hw _ (List.mem_of_getElem? (i := 52) rfl))) Via.refl (Sta.ext (sd_ext X89 hs0 Zn) S_d22) rfl fun T92 X92 => ?_
  refine w_aastore X92 (pc' := 160) 22 d1_159 A89 rfl (Oa1_90.sto (Ins.self (Exa.ext (sd_ext X92 hs0 Zn) E_d22))) (by decide) (by decide) gn1 rfl fun T93 h93 X93 W93 A93 => ?_
  have Oa1_94 := Oa1_90.wr W93
  have K_95 : Keep h0 h93 [] := K_91.wr W93 (Or.inr sz_b1)
  refine w_dup X93 (pc' := 161) d1_160 rfl rfl ?_
  refine w_bipush X93 (pc' := 163) (23 : Int32) d1_161 rfl rfl ?_
  refine w_getstatic X93 (pc' := 166) d1_163 (host := "") (Or.inl (hw _ (List.mem_of_getElem? (i := 54) rfl))) Via.refl (Sta.ext (sd_ext X93 hs0 Zn) S_d23) rfl fun T96 X96 => ?_
  refine w_aastore X96 (pc' := 167) 23 d1_166 A93 rfl (Oa1_94.sto (Ins.self (Exa.ext (sd_ext X96 hs0 Zn) E_d23))) (by decide) (by decide) gn1 rfl fun T97 h97 X97 W97 A97 => ?_
  have Oa1_98 := Oa1_94.wr W97
  have K_99 : Keep h0 h97 [] := K_95.wr W97 (Or.inr sz_b1)
  refine w_dup X97 (pc' := 168) d1_167 rfl rfl ?_
  refine w_bipush X97 (pc' := 170) (24 : Int32) d1_168 rfl rfl ?_
  refine w_getstatic X97 (pc' := 173) d1_170 (host := "") (Or.inl (hw _ (List.mem_of_getElem? (i := 56) rfl))) Via.refl (Sta.ext (sd_ext X97 hs0 Zn) S_d24) rfl fun T100 X100 => ?_
  refine w_aastore X100 (pc' := 174) 24 d1_173 A97 rfl (Oa1_98.sto (Ins.self (Exa.ext (sd_ext X100 hs0 Zn) E_d24))) (by decide) (by decide) gn1 rfl fun T101 h101 X101 W101 A101 => ?_
  have Oa1_102 := Oa1_98.wr W101
  have K_103 : Keep h0 h101 [] := K_99.wr W101 (Or.inr sz_b1)
  refine w_dup X101 (pc' := 175) d1_174 rfl rfl ?_
  refine w_bipush X101 (pc' := 177) (25 : Int32) d1_175 rfl rfl ?_
  refine w_getstatic X101 (pc' := 180) d1_177 (host := "") (Or.inl (hw _ (List.mem_of_getElem? (i := 58) rfl))) Via.refl (Sta.ext (sd_ext X101 hs0 Zn) S_d25) rfl fun T104 X104 => ?_
  refine w_aastore X104 (pc' := 181) 25 d1_180 A101 rfl (Oa1_102.sto (Ins.self (Exa.ext (sd_ext X104 hs0 Zn) E_d25))) (by decide) (by decide) gn1 rfl fun T105 h105 X105 W105 A105 => ?_
  have Oa1_106 := Oa1_102.wr W105
  have K_107 : Keep h0 h105 [] := K_103.wr W105 (Or.inr sz_b1)
  refine w_dup X105 (pc' := 182) d1_181 rfl rfl ?_
  refine w_bipush X105 (pc' := 184) (26 : Int32) d1_182 rfl rfl ?_
  refine w_getstatic X105 (pc' := 187) d1_184 (host := "") (Or.inl (hw _ (List.mem_of_getElem? (i := 60) rfl))) Via.refl (Sta.ext (sd_ext X105 hs0 Zn) S_d26) rfl fun T108 X108 => ?_
  refine w_aastore X108 (pc' := 188) 26 d1_187 A105 rfl (Oa1_106.sto (Ins.self (Exa.ext (sd_ext X108 hs0 Zn) E_d26))) (by decide) (by decide) gn1 rfl fun T109 h109 X109 W109 A109 => ?_
  have Oa1_110 := Oa1_106.wr W109
  have K_111 : Keep h0 h109 [] := K_107.wr W109 (Or.inr sz_b1)
  refine w_dup X109 (pc' := 189) d1_188 rfl rfl ?_
  refine w_bipush X109 (pc' := 191) (27 : Int32) d1_189 rfl rfl ?_
  refine w_getstatic X109 (pc' := 194) d1_191 (host := "") (Or.inl (hw _ (List.mem_of_getElem? (i := 62) rfl))) Via.refl (Sta.ext (sd_ext X109 hs0 Zn) S_d27) rfl fun T112 X112 => ?_
  refine w_aastore X112 (pc' := 195) 27 d1_194 A109 rfl (Oa1_110.sto (Ins.self (Exa.ext (sd_ext X112 hs0 Zn) E_d27))) (by decide) (by decide) gn1 rfl fun T113 h113 X113 W113 A113 => ?_
  have Oa1_114 := Oa1_110.wr W113
  have K_115 : Keep h0 h113 [] := K_111.wr W113 (Or.inr sz_b1)
  refine w_dup X113 (pc' := 196) d1_195 rfl rfl ?_
  refine w_bipush X113 (pc' := 198) (28 : Int32) d1_196 rfl rfl ?_
  refine w_getstatic X113 (pc' := 201) d1_198 (host := "") (Or.inl (hw _ (List.mem_of_getElem? (i := 64) rfl))) Via.refl (Sta.ext (sd_ext X113 hs0 Zn) S_d28) rfl fun T116 X116 => ?_
  refine w_aastore X116 (pc' := 202) 28 d1_201 A113 rfl (Oa1_114.sto (Ins.self (Exa.ext (sd_ext X116 hs0 Zn) E_d28))) (by decide) (by decide) gn1 rfl fun T117 h117 X117 W117 A117 => ?_
  have Oa1_118 := Oa1_114.wr W117
  have K_119 : Keep h0 h117 [] := K_115.wr W117 (Or.inr sz_b1)
  refine w_dup X117 (pc' := 203) d1_202 rfl rfl ?_
  refine w_bipush X117 (pc' := 205) (29 : Int32) d1_203 rfl rfl ?_
  refine w_aconst_null X117 (pc' := 206) d1_205 rfl ?_
  refine w_aastore X117 (pc' := 207) 29 d1_206 A117 rfl (Or.inl rfl) (by decide) (by decide) gn1 rfl fun T120 h120 X120 W120 A120 => ?_
  have Oa1_121 := Oa1_118.wr W120
  have K_122 : Keep h0 h120 [] := K_119.wr W120 (Or.inr sz_b1)
  refine w_astoreN X120 (pc' := 208) (l' := #[.val (.ref b1)]) d1_207 rfl rfl rfl ?_
  refine w_aloadN X120 (pc' := 209) d1_208 rfl rfl rfl ?_
  exact w_areturn X120 d1_209 rfl rfl rfl ⟨_, rfl, g1, gn1, K_122, A120⟩ (by decide) (by decide)
theorem own_kvP (d0 d1 d2 d3 d4 d5 d6 d7 d8 d9 d10 d11 d12 d13 d14 d15 d16 d17 d18 d19 d20 d21 d22 d23 d24 d25 d26 d27 d28 : Addr) (i : Nat) (hi : i < 30) : (own_kv d0 d1 d2 d3 d4 d5 d6 d7 d8 d9 d10 d11 d12 d13 d14 d15 d16 d17 d18 d19 d20 d21 d22 d23 d24 d25 d26 d27 d28 i).isRef = true := by
  have : i = 0 ∨ i = 1 ∨ i = 2 ∨ i = 3 ∨ i = 4 ∨ i = 5 ∨ i = 6 ∨ i = 7 ∨ i = 8 ∨ i = 9 ∨ i = 10 ∨ i = 11 ∨ i = 12 ∨ i = 13 ∨ i = 14 ∨ i = 15 ∨ i = 16 ∨ i = 17 ∨ i = 18 ∨ i = 19 ∨ i = 20 ∨ i = 21 ∨ i = 22 ∨ i = 23 ∨ i = 24 ∨ i = 25 ∨ i = 26 ∨ i = 27 ∨ i = 28 ∨ i = 29 := by omega
  rcases this with rfl | rfl | rfl | rfl | rfl | rfl | rfl | rfl | rfl | rfl | rfl | rfl | rfl | rfl | rfl | rfl | rfl | rfl | rfl | rfl | rfl | rfl | rfl | rfl | rfl | rfl | rfl | rfl | rfl | rfl <;> rfl
theorem own_kvF {Z : State} {h0 : Heap} {d0 d1 d2 d3 d4 d5 d6 d7 d8 d9 d10 d11 d12 d13 d14 d15 d16 d17 d18 d19 d20 d21 d22 d23 d24 d25 d26 d27 d28 : Addr} (F_d0_ordinal : Fld Z h0 d0 "java/lang/Enum" "ordinal" "I" (.int (0 : Int32))) (F_d3_ordinal : Fld Z h0 d3 "java/lang/Enum" "ordinal" "I" (.int (3 : Int32))) (F_d12_ordinal : Fld Z h0 d12 "java/lang/Enum" "ordinal" "I" (.int (12 : Int32))) (F_d4_ordinal : Fld Z h0 d4 "java/lang/Enum" "ordinal" "I" (.int (4 : Int32))) (F_d28_ordinal : Fld Z h0 d28 "java/lang/Enum" "ordinal" "I" (.int (28 : Int32))) (F_d1_ordinal : Fld Z h0 d1 "java/lang/Enum" "ordinal" "I" (.int (1 : Int32))) (F_d8_ordinal : Fld Z h0 d8 "java/lang/Enum" "ordinal" "I" (.int (8 : Int32))) (F_d5_ordinal : Fld Z h0 d5 "java/lang/Enum" "ordinal" "I" (.int (5 : Int32))) (F_d13_ordinal : Fld Z h0 d13 "java/lang/Enum" "ordinal" "I" (.int (13 : Int32))) (F_d21_ordinal : Fld Z h0 d21 "java/lang/Enum" "ordinal" "I" (.int (21 : Int32))) (F_d19_ordinal : Fld Z h0 d19 "java/lang/Enum" "ordinal" "I" (.int (19 : Int32))) (F_d16_ordinal : Fld Z h0 d16 "java/lang/Enum" "ordinal" "I" (.int (16 : Int32))) (F_d7_ordinal : Fld Z h0 d7 "java/lang/Enum" "ordinal" "I" (.int (7 : Int32))) (F_d15_ordinal : Fld Z h0 d15 "java/lang/Enum" "ordinal" "I" (.int (15 : Int32))) (F_d18_ordinal : Fld Z h0 d18 "java/lang/Enum" "ordinal" "I" (.int (18 : Int32))) (F_d10_ordinal : Fld Z h0 d10 "java/lang/Enum" "ordinal" "I" (.int (10 : Int32))) (F_d2_ordinal : Fld Z h0 d2 "java/lang/Enum" "ordinal" "I" (.int (2 : Int32))) (F_d20_ordinal : Fld Z h0 d20 "java/lang/Enum" "ordinal" "I" (.int (20 : Int32))) (F_d9_ordinal : Fld Z h0 d9 "java/lang/Enum" "ordinal" "I" (.int (9 : Int32))) (F_d24_ordinal : Fld Z h0 d24 "java/lang/Enum" "ordinal" "I" (.int (24 : Int32))) (F_d17_ordinal : Fld Z h0 d17 "java/lang/Enum" "ordinal" "I" (.int (17 : Int32))) (F_d6_ordinal : Fld Z h0 d6 "java/lang/Enum" "ordinal" "I" (.int (6 : Int32))) (F_d23_ordinal : Fld Z h0 d23 "java/lang/Enum" "ordinal" "I" (.int (23 : Int32))) (F_d22_ordinal : Fld Z h0 d22 "java/lang/Enum" "ordinal" "I" (.int (22 : Int32))) (F_d27_ordinal : Fld Z h0 d27 "java/lang/Enum" "ordinal" "I" (.int (27 : Int32))) (F_d14_ordinal : Fld Z h0 d14 "java/lang/Enum" "ordinal" "I" (.int (14 : Int32))) (F_d25_ordinal : Fld Z h0 d25 "java/lang/Enum" "ordinal" "I" (.int (25 : Int32))) (F_d11_ordinal : Fld Z h0 d11 "java/lang/Enum" "ordinal" "I" (.int (11 : Int32))) (F_d26_ordinal : Fld Z h0 d26 "java/lang/Enum" "ordinal" "I" (.int (26 : Int32))) (i : Nat) (hi : i < 29) : ∃ d, own_kv d0 d1 d2 d3 d4 d5 d6 d7 d8 d9 d10 d11 d12 d13 d14 d15 d16 d17 d18 d19 d20 d21 d22 d23 d24 d25 d26 d27 d28 i = .ref d ∧ Fld Z h0 d "java/lang/Enum" "ordinal" "I" (.int (Int32.ofNat i)) := by
  have : i = 0 ∨ i = 1 ∨ i = 2 ∨ i = 3 ∨ i = 4 ∨ i = 5 ∨ i = 6 ∨ i = 7 ∨ i = 8 ∨ i = 9 ∨ i = 10 ∨ i = 11 ∨ i = 12 ∨ i = 13 ∨ i = 14 ∨ i = 15 ∨ i = 16 ∨ i = 17 ∨ i = 18 ∨ i = 19 ∨ i = 20 ∨ i = 21 ∨ i = 22 ∨ i = 23 ∨ i = 24 ∨ i = 25 ∨ i = 26 ∨ i = 27 ∨ i = 28 := by omega
  rcases this with rfl | rfl | rfl | rfl | rfl | rfl | rfl | rfl | rfl | rfl | rfl | rfl | rfl | rfl | rfl | rfl | rfl | rfl | rfl | rfl | rfl | rfl | rfl | rfl | rfl | rfl | rfl | rfl | rfl
  · exact ⟨d0, rfl, F_d0_ordinal⟩
  · exact ⟨d1, rfl, F_d1_ordinal⟩
  · exact ⟨d2, rfl, F_d2_ordinal⟩
  · exact ⟨d3, rfl, F_d3_ordinal⟩
  · exact ⟨d4, rfl, F_d4_ordinal⟩
  · exact ⟨d5, rfl, F_d5_ordinal⟩
  · exact ⟨d6, rfl, F_d6_ordinal⟩
  · exact ⟨d7, rfl, F_d7_ordinal⟩
  · exact ⟨d8, rfl, F_d8_ordinal⟩
  · exact ⟨d9, rfl, F_d9_ordinal⟩
  · exact ⟨d10, rfl, F_d10_ordinal⟩
  · exact ⟨d11, rfl, F_d11_ordinal⟩
  · exact ⟨d12, rfl, F_d12_ordinal⟩
  · exact ⟨d13, rfl, F_d13_ordinal⟩
  · exact ⟨d14, rfl, F_d14_ordinal⟩
  · exact ⟨d15, rfl, F_d15_ordinal⟩
  · exact ⟨d16, rfl, F_d16_ordinal⟩
  · exact ⟨d17, rfl, F_d17_ordinal⟩
  · exact ⟨d18, rfl, F_d18_ordinal⟩
  · exact ⟨d19, rfl, F_d19_ordinal⟩
  · exact ⟨d20, rfl, F_d20_ordinal⟩
  · exact ⟨d21, rfl, F_d21_ordinal⟩
  · exact ⟨d22, rfl, F_d22_ordinal⟩
  · exact ⟨d23, rfl, F_d23_ordinal⟩
  · exact ⟨d24, rfl, F_d24_ordinal⟩
  · exact ⟨d25, rfl, F_d25_ordinal⟩
  · exact ⟨d26, rfl, F_d26_ordinal⟩
  · exact ⟨d27, rfl, F_d27_ordinal⟩
  · exact ⟨d28, rfl, F_d28_ordinal⟩
theorem own_inj {Z : State} {h0 : Heap} {kv : Nat → Value} (P : ∀ i, i < 29 → ∃ d, kv i = .ref d ∧ Fld Z h0 d "java/lang/Enum" "ordinal" "I" (.int (Int32.ofNat i))) (h29 : kv 29 = .null) {i j : Nat} (hi : i < 30) (hj : j < 30) (q : kv i = kv j) : i = j := by
  by_cases a : i < 29
  · obtain ⟨d, e1, F1⟩ := P i a
    by_cases b : j < 29
    · obtain ⟨d', e2, F2⟩ := P j b
      rw [e1, e2] at q
      have z := Value.ref.inj q
      apply Decidable.byContradiction
      intro ne
      refine F1.ne F2 ?_ z
      intro w
      have w2 := congrArg Int32.toInt (Value.int.inj w)
      rw [Int32.toInt_ofNat_small (by omega), Int32.toInt_ofNat_small (by omega)] at w2
      omega
    · obtain rfl : j = 29 := by omega
      rw [e1, h29] at q; cases q
  · obtain rfl : i = 29 := by omega
    by_cases b : j < 29
    · obtain ⟨d', e2, F2⟩ := P j b
      rw [h29, e2] at q; cases q
    · omega
theorem d8_0 : decode prog_33_method_1_code 0 = .ok (.aload_n 0, 1) := by decide +kernel
theorem d8_1 : decode prog_33_method_1_code 1 = .ok (.invokespecial 1, 3) := by decide +kernel
theorem d8_4 : decode prog_33_method_1_code 4 = .ok (.aload_n 0, 1) := by decide +kernel
theorem d8_5 : decode prog_33_method_1_code 5 = .ok (.aload_n 1, 1) := by decide +kernel
theorem d8_6 : decode prog_33_method_1_code 6 = .ok (.putfield 7, 3) := by decide +kernel
theorem d8_9 : decode prog_33_method_1_code 9 = .ok (.aload_n 0, 1) := by decide +kernel
theorem d8_10 : decode prog_33_method_1_code 10 = .ok (.aload_n 2, 1) := by decide +kernel
theorem d8_11 : decode prog_33_method_1_code 11 = .ok (.putfield 13, 3) := by decide +kernel
theorem d8_14 : decode prog_33_method_1_code 14 = .ok (.aload_n 0, 1) := by decide +kernel
theorem d8_15 : decode prog_33_method_1_code 15 = .ok (.iload_n 3, 1) := by decide +kernel
theorem d8_16 : decode prog_33_method_1_code 16 = .ok (.putfield 17, 3) := by decide +kernel
theorem d8_19 : decode prog_33_method_1_code 19 = .ok (.return_, 1) := by decide +kernel
theorem pn_8 : plainFor (⟨"com/example/edict4/edict4/policy/Token", "<init>", "(Lcom/example/edict4/edict4/policy/Token$Kind;Ljava/lang/String;I)V"⟩ : MethodName) = true := plainFor_of_name (by first | (simp [plainName, overriddenIn]; done) | decide +kernel)
theorem pd_8 : parseMethodDescriptor "(Lcom/example/edict4/edict4/policy/Token$Kind;Ljava/lang/String;I)V" = some ⟨[(.object "com/example/edict4/edict4/policy/Token$Kind"), (.object "java/lang/String"), .int], none⟩ := by decide +kernel
set_option maxRecDepth 65536 in
set_option maxHeartbeats 40000000 in
theorem rm8n {l : Launch} {Z : State} {a0 : Array Value} (hw : ∀ d ∈ tables_1, d.before a0 Z = true) {n0 : Nat} {h0 : Heap} (Z0 : n0 ≤ h0.size) (a1 : Addr) (a3 : Addr) (p4 : Int32) {u1 u2 u3 : Value} (E_1 : Exa Z h0 a1 "com/example/edict4/edict4/policy/Token") (F_k : Fld Z h0 a1 "com/example/edict4/edict4/policy/Token" "mKind" "Lcom/example/edict4/edict4/policy/Token$Kind;" u1) (F_t : Fld Z h0 a1 "com/example/edict4/edict4/policy/Token" "mText" "Ljava/lang/String;" u2) (F_o : Fld Z h0 a1 "com/example/edict4/edict4/policy/Token" "mOffset" "I" u3) (g_1 : n0 ≤ a1) :
    Con l Z n0 (⟨"com/example/edict4/edict4/policy/Token", "<init>", "(Lcom/example/edict4/edict4/policy/Token$Kind;Ljava/lang/String;I)V"⟩ : MethodName) prog_33_method_1_code 4 none ({ frames := 1, cells := 0, slots := 0, locals := 12 } : Room) #[(.ref a1), .null, (.ref a3), (.int p4)] h0 (Non (fun h => Keep h0 h [a1] ∧ Fld Z h a1 "com/example/edict4/edict4/policy/Token" "mKind" "Lcom/example/edict4/edict4/policy/Token$Kind;" .null)) := by
  refine con_intro pn_8 Z0 (fr := fun m => mkF m 0 #[.val (.ref a1), .val .null, .val (.ref a3), .val (.int p4)] []) (fun m => by first | (simp [entryFrame, mkF, argsToLocals, Value.category]; done) | rfl) ?_
  intro p e s m below s₁ hs0 X0
  refine w_aloadN X0 (pc' := 1) d8_0 rfl rfl rfl ?_
  refine w_initO X0 (pc' := 4) d8_1 (hw _ (List.mem_of_getElem? (i := 103) rfl)) (hw _ (List.mem_of_getElem? (i := 79) rfl)) (hw _ (List.mem_of_getElem? (i := 80) rfl)) rfl (by decide) 0 (Nat.le_refl _) (by decide) rfl fun T1 X1 => ?_
  refine w_aloadN X1 (pc' := 5) d8_4 rfl rfl rfl ?_
  refine w_aloadN X1 (pc' := 6) d8_5 rfl rfl rfl ?_
  refine w_putfield X1 (pc' := 9) d8_6 (host := "") (Or.inl (hw _ (List.mem_of_getElem? (i := 104) rfl))) Via.refl F_k E_1 (Or.inr ⟨(hw _ (List.mem_of_getElem? (i := 105) rfl)), rfl, rfl⟩) (hw _ (List.mem_of_getElem? (i := 98) rfl)) (ty := (.object "com/example/edict4/edict4/policy/Token$Kind")) (by decide) rfl rfl g_1 rfl fun T2 h2 X2 W2 F2 => ?_
  have F_t_3 := Fld.other W2 F_t (Or.inr (slot_ne (C := "com/example/edict4/edict4/policy/Token") (Or.inr (hw _ (List.mem_of_getElem? (i := 107) rfl))) (Or.inr (hw _ (List.mem_of_getElem? (i := 105) rfl))) (by decide) (t := (.object "java/lang/String")) (t' := (.object "com/example/edict4/edict4/policy/Token$Kind")) (by decide) (by decide)))
  have F_o_3 := Fld.other W2 F_o (Or.inr (slot_ne (C := "com/example/edict4/edict4/policy/Token") (Or.inr (hw _ (List.mem_of_getElem? (i := 109) rfl))) (Or.inr (hw _ (List.mem_of_getElem? (i := 105) rfl))) (by decide) (t := .int) (t' := (.object "com/example/edict4/edict4/policy/Token$Kind")) (by decide) (by decide)))
  have E_3 := Exa.wr W2 E_1
  have K_4r : Keep h0 _ [a1] := (Keep.refl h0 [a1])
  have K_4 : Keep h0 h2 [a1] := K_4r.wr W2 (Or.inl (List.mem_of_getElem? (i := 0) rfl))
  refine w_aloadN X2 (pc' := 10) d8_9 rfl rfl rfl ?_
  refine w_aloadN X2 (pc' := 11) d8_10 rfl rfl rfl ?_
  refine w_putfield X2 (pc' := 14) d8_11 (host := "") (Or.inl (hw _ (List.mem_of_getElem? (i := 106) rfl))) Via.refl F_t_3 E_3 (Or.inr ⟨(hw _ (List.mem_of_getElem? (i := 107) rfl)), rfl, rfl⟩) (hw _ (List.mem_of_getElem? (i := 98) rfl)) (ty := (.object "java/lang/String")) (by decide) rfl rfl g_1 rfl fun T5 h5 X5 W5 F5 => ?_
  have F_o_6 := Fld.other W5 F_o_3 (Or.inr (slot_ne (C := "com/example/edict4/edict4/policy/Token") (Or.inr (hw _ (List.mem_of_getElem? (i := 109) rfl))) (Or.inr (hw _ (List.mem_of_getElem? (i := 107) rfl))) (by decide) (t := .int) (t' := (.object "java/lang/String")) (by decide) (by decide)))
  have F2_6 := Fld.other W5 F2 (Or.inr (slot_ne (C := "com/example/edict4/edict4/policy/Token") (Or.inr (hw _ (List.mem_of_getElem? (i := 105) rfl))) (Or.inr (hw _ (List.mem_of_getElem? (i := 107) rfl))) (by decide) (t := (.object "com/example/edict4/edict4/policy/Token$Kind")) (t' := (.object "java/lang/String")) (by decide) (by decide)))
  have E_6 := Exa.wr W5 E_3
  have K_7 : Keep h0 h5 [a1] := K_4.wr W5 (Or.inl (List.mem_of_getElem? (i := 0) rfl))
  refine w_aloadN X5 (pc' := 15) d8_14 rfl rfl rfl ?_
  refine w_iloadN X5 (pc' := 16) d8_15 rfl rfl ?_
  refine w_putfield X5 (pc' := 19) d8_16 (host := "") (Or.inl (hw _ (List.mem_of_getElem? (i := 108) rfl))) Via.refl F_o_6 E_6 (Or.inr ⟨(hw _ (List.mem_of_getElem? (i := 109) rfl)), rfl, rfl⟩) (hw _ (List.mem_of_getElem? (i := 98) rfl)) (ty := .int) (by decide) rfl rfl g_1 rfl fun T8 h8 X8 W8 F8 => ?_
  have F2_9 := Fld.other W8 F2_6 (Or.inr (slot_ne (C := "com/example/edict4/edict4/policy/Token") (Or.inr (hw _ (List.mem_of_getElem? (i := 105) rfl))) (Or.inr (hw _ (List.mem_of_getElem? (i := 109) rfl))) (by decide) (t := (.object "com/example/edict4/edict4/policy/Token$Kind")) (t' := .int) (by decide) (by decide)))
  have F5_9 := Fld.other W8 F5 (Or.inr (slot_ne (C := "com/example/edict4/edict4/policy/Token") (Or.inr (hw _ (List.mem_of_getElem? (i := 107) rfl))) (Or.inr (hw _ (List.mem_of_getElem? (i := 109) rfl))) (by decide) (t := (.object "java/lang/String")) (t' := .int) (by decide) (by decide)))
  have E_9 := Exa.wr W8 E_6
  have K_10 : Keep h0 h8 [a1] := K_7.wr W8 (Or.inl (List.mem_of_getElem? (i := 0) rfl))
  exact w_return X8 d8_19 ⟨K_10, F2_9⟩ (by decide) (by decide)
set_option maxRecDepth 65536 in
set_option maxHeartbeats 40000000 in
theorem rm8r {l : Launch} {Z : State} {a0 : Array Value} (hw : ∀ d ∈ tables_1, d.before a0 Z = true) {n0 : Nat} {h0 : Heap} (Z0 : n0 ≤ h0.size) (a1 : Addr) (d2 : Addr) (a3 : Addr) (p4 : Int32) {u1 u2 u3 : Value} (E_1 : Exa Z h0 a1 "com/example/edict4/edict4/policy/Token") (F_k : Fld Z h0 a1 "com/example/edict4/edict4/policy/Token" "mKind" "Lcom/example/edict4/edict4/policy/Token$Kind;" u1) (F_t : Fld Z h0 a1 "com/example/edict4/edict4/policy/Token" "mText" "Ljava/lang/String;" u2) (F_o : Fld Z h0 a1 "com/example/edict4/edict4/policy/Token" "mOffset" "I" u3) (g_1 : n0 ≤ a1) :
    Con l Z n0 (⟨"com/example/edict4/edict4/policy/Token", "<init>", "(Lcom/example/edict4/edict4/policy/Token$Kind;Ljava/lang/String;I)V"⟩ : MethodName) prog_33_method_1_code 4 none ({ frames := 1, cells := 0, slots := 0, locals := 12 } : Room) #[(.ref a1), (.ref d2), (.ref a3), (.int p4)] h0 (Non (fun h => Keep h0 h [a1] ∧ Fld Z h a1 "com/example/edict4/edict4/policy/Token" "mKind" "Lcom/example/edict4/edict4/policy/Token$Kind;" (.ref d2))) := by
  refine con_intro pn_8 Z0 (fr := fun m => mkF m 0 #[.val (.ref a1), .val (.ref d2), .val (.ref a3), .val (.int p4)] []) (fun m => by first | (simp [entryFrame, mkF, argsToLocals, Value.category]; done) | rfl) ?_
  intro p e s m below s₁ hs0 X0
  refine w_aloadN X0 (pc' := 1) d8_0 rfl rfl rfl ?_
  refine w_initO X0 (pc' := 4) d8_1 (hw _ (List.mem_of_getElem? (i := 103) rfl)) (hw _ (List.mem_of_getElem? (i := 79) rfl)) (hw _ (List.mem_of_getElem? (i := 80) rfl)) rfl (by decide) 0 (Nat.le_refl _) (by decide) rfl fun T1 X1 => ?_
  refine w_aloadN X1 (pc' := 5) d8_4 rfl rfl rfl ?_
  refine w_aloadN X1 (pc' := 6) d8_5 rfl rfl rfl ?_
  refine w_putfield X1 (pc' := 9) d8_6 (host := "") (Or.inl (hw _ (List.mem_of_getElem? (i := 104) rfl))) Via.refl F_k E_1 (Or.inr ⟨(hw _ (List.mem_of_getElem? (i := 105) rfl)), rfl, rfl⟩) (hw _ (List.mem_of_getElem? (i := 98) rfl)) (ty := (.object "com/example/edict4/edict4/policy/Token$Kind")) (by decide) rfl rfl g_1 rfl fun T2 h2 X2 W2 F2 => ?_
  have F_t_3 := Fld.other W2 F_t (Or.inr (slot_ne (C := "com/example/edict4/edict4/policy/Token") (Or.inr (hw _ (List.mem_of_getElem? (i := 107) rfl))) (Or.inr (hw _ (List.mem_of_getElem? (i := 105) rfl))) (by decide) (t := (.object "java/lang/String")) (t' := (.object "com/example/edict4/edict4/policy/Token$Kind")) (by decide) (by decide)))
  have F_o_3 := Fld.other W2 F_o (Or.inr (slot_ne (C := "com/example/edict4/edict4/policy/Token") (Or.inr (hw _ (List.mem_of_getElem? (i := 109) rfl))) (Or.inr (hw _ (List.mem_of_getElem? (i := 105) rfl))) (by decide) (t := .int) (t' := (.object "com/example/edict4/edict4/policy/Token$Kind")) (by decide) (by decide)))
  have E_3 := Exa.wr W2 E_1
  have K_4r : Keep h0 _ [a1] := (Keep.refl h0 [a1])
  have K_4 : Keep h0 h2 [a1] := K_4r.wr W2 (Or.inl (List.mem_of_getElem? (i := 0) rfl))
  refine w_aloadN X2 (pc' := 10) d8_9 rfl rfl rfl ?_
  refine w_aloadN X2 (pc' := 11) d8_10 rfl rfl rfl ?_
  refine w_putfield X2 (pc' := 14) d8_11 (host := "") (Or.inl (hw _ (List.mem_of_getElem? (i := 106) rfl))) Via.refl F_t_3 E_3 (Or.inr ⟨(hw _ (List.mem_of_getElem? (i := 107) rfl)), rfl, rfl⟩) (hw _ (List.mem_of_getElem? (i := 98) rfl)) (ty := (.object "java/lang/String")) (by decide) rfl rfl g_1 rfl fun T5 h5 X5 W5 F5 => ?_
  have F_o_6 := Fld.other W5 F_o_3 (Or.inr (slot_ne (C := "com/example/edict4/edict4/policy/Token") (Or.inr (hw _ (List.mem_of_getElem? (i := 109) rfl))) (Or.inr (hw _ (List.mem_of_getElem? (i := 107) rfl))) (by decide) (t := .int) (t' := (.object "java/lang/String")) (by decide) (by decide)))
  have F2_6 := Fld.other W5 F2 (Or.inr (slot_ne (C := "com/example/edict4/edict4/policy/Token") (Or.inr (hw _ (List.mem_of_getElem? (i := 105) rfl))) (Or.inr (hw _ (List.mem_of_getElem? (i := 107) rfl))) (by decide) (t := (.object "com/example/edict4/edict4/policy/Token$Kind")) (t' := (.object "java/lang/String")) (by decide) (by decide)))
  have E_6 := Exa.wr W5 E_3
  have K_7 : Keep h0 h5 [a1] := K_4.wr W5 (Or.inl (List.mem_of_getElem? (i := 0) rfl))
  refine w_aloadN X5 (pc' := 15) d8_14 rfl rfl rfl ?_
  refine w_iloadN X5 (pc' := 16) d8_15 rfl rfl ?_
  refine w_putfield X5 (pc' := 19) d8_16 (host := "") (Or.inl (hw _ (List.mem_of_getElem? (i := 108) rfl))) Via.refl F_o_6 E_6 (Or.inr ⟨(hw _ (List.mem_of_getElem? (i := 109) rfl)), rfl, rfl⟩) (hw _ (List.mem_of_getElem? (i := 98) rfl)) (ty := .int) (by decide) rfl rfl g_1 rfl fun T8 h8 X8 W8 F8 => ?_
  have F2_9 := Fld.other W8 F2_6 (Or.inr (slot_ne (C := "com/example/edict4/edict4/policy/Token") (Or.inr (hw _ (List.mem_of_getElem? (i := 105) rfl))) (Or.inr (hw _ (List.mem_of_getElem? (i := 109) rfl))) (by decide) (t := (.object "com/example/edict4/edict4/policy/Token$Kind")) (t' := .int) (by decide) (by decide)))
  have F5_9 := Fld.other W8 F5 (Or.inr (slot_ne (C := "com/example/edict4/edict4/policy/Token") (Or.inr (hw _ (List.mem_of_getElem? (i := 107) rfl))) (Or.inr (hw _ (List.mem_of_getElem? (i := 109) rfl))) (by decide) (t := (.object "java/lang/String")) (t' := .int) (by decide) (by decide)))
  have E_9 := Exa.wr W8 E_6
  have K_10 : Keep h0 h8 [a1] := K_7.wr W8 (Or.inl (List.mem_of_getElem? (i := 0) rfl))
  exact w_return X8 d8_19 ⟨K_10, F2_9⟩ (by decide) (by decide)
theorem rm8 {l : Launch} {Z : State} {a0 : Array Value} (hw : ∀ d ∈ tables_1, d.before a0 Z = true) {n0 : Nat} {h0 : Heap} (Z0 : n0 ≤ h0.size) (a1 : Addr) {v2 : Value} (hv : v2.isRef = true) (a3 : Addr) (p4 : Int32) {u1 u2 u3 : Value} (E_1 : Exa Z h0 a1 "com/example/edict4/edict4/policy/Token") (F_k : Fld Z h0 a1 "com/example/edict4/edict4/policy/Token" "mKind" "Lcom/example/edict4/edict4/policy/Token$Kind;" u1) (F_t : Fld Z h0 a1 "com/example/edict4/edict4/policy/Token" "mText" "Ljava/lang/String;" u2) (F_o : Fld Z h0 a1 "com/example/edict4/edict4/policy/Token" "mOffset" "I" u3) (g_1 : n0 ≤ a1) : Con l Z n0 (⟨"com/example/edict4/edict4/policy/Token", "<init>", "(Lcom/example/edict4/edict4/policy/Token$Kind;Ljava/lang/String;I)V"⟩ : MethodName) prog_33_method_1_code 4 none ({ frames := 1, cells := 0, slots := 0, locals := 12 } : Room) #[.ref a1, v2, .ref a3, .int p4] h0 (Non (fun h => Keep h0 h [a1] ∧ Fld Z h a1 "com/example/edict4/edict4/policy/Token" "mKind" "Lcom/example/edict4/edict4/policy/Token$Kind;" v2)) := by
  rcases ref_cases hv with rfl | ⟨d2, rfl⟩
  · exact rm8n hw Z0 a1 a3 p4 E_1 F_k F_t F_o g_1
  · exact rm8r hw Z0 a1 d2 a3 p4 E_1 F_k F_t F_o g_1
theorem d9_0 : decode prog_33_method_5_code 0 = .ok (.aload_n 0, 1) := by decide +kernel
theorem d9_1 : decode prog_33_method_5_code 1 = .ok (.getfield 7, 3) := by decide +kernel
theorem d9_4 : decode prog_33_method_5_code 4 = .ok (.aload_n 1, 1) := by decide +kernel
theorem d9_5 : decode prog_33_method_5_code 5 = .ok (.if_acmp .ne 7, 3) := by decide +kernel
theorem d9_8 : decode prog_33_method_5_code 8 = .ok (.iconst 1, 1) := by decide +kernel
theorem d9_9 : decode prog_33_method_5_code 9 = .ok (.goto 4, 3) := by decide +kernel
theorem d9_12 : decode prog_33_method_5_code 12 = .ok (.iconst 0, 1) := by decide +kernel
theorem d9_13 : decode prog_33_method_5_code 13 = .ok (.ireturn, 1) := by decide +kernel
theorem pn_9 : plainFor (⟨"com/example/edict4/edict4/policy/Token", "is", "(Lcom/example/edict4/edict4/policy/Token$Kind;)Z"⟩ : MethodName) = true := plainFor_of_name (by first | (simp [plainName, overriddenIn]; done) | decide +kernel)
theorem pd_9 : parseMethodDescriptor "(Lcom/example/edict4/edict4/policy/Token$Kind;)Z" = some ⟨[(.object "com/example/edict4/edict4/policy/Token$Kind")], some .boolean⟩ := by decide +kernel
set_option maxRecDepth 65536 in
set_option maxHeartbeats 40000000 in
theorem rm9n {l : Launch} {Z : State} {a0 : Array Value} (hw : ∀ d ∈ tables_1, d.before a0 Z = true) {n0 : Nat} {h0 : Heap} (Z0 : n0 ≤ h0.size) (a1 : Addr) {v1 : Value} (hv1 : v1.isRef = true) (F_k : Fld Z h0 a1 "com/example/edict4/edict4/policy/Token" "mKind" "Lcom/example/edict4/edict4/policy/Token$Kind;" v1) :
    Con l Z n0 (⟨"com/example/edict4/edict4/policy/Token", "is", "(Lcom/example/edict4/edict4/policy/Token$Kind;)Z"⟩ : MethodName) prog_33_method_5_code 2 (some .boolean) ({ frames := 0, cells := 0, slots := 0, locals := 0 } : Room) #[(.ref a1), .null] h0 (Val (fun v h => v = .int (if v1 = .null then 1 else 0) ∧ h0 = h)) := by
  refine con_intro pn_9 Z0 (fr := fun m => mkF m 0 #[.val (.ref a1), .val .null] []) (fun m => by first | (simp [entryFrame, mkF, argsToLocals, Value.category]; done) | rfl) ?_
  intro p e s m below s₁ hs0 X0
  refine w_aloadN X0 (pc' := 1) d9_0 rfl rfl rfl ?_
  refine w_getfield X0 (pc' := 4) d9_1 (host := "") (Or.inl (hw _ (List.mem_of_getElem? (i := 104) rfl))) Via.refl F_k rfl fun T1 X1 => ?_
  refine w_aloadN X1 (pc' := 5) d9_4 rfl rfl rfl ?_
  refine w_acmp_ne X1 hv1 rfl 12 8 d9_5 (by decide) rfl rfl (fun hc5 => ?_) (fun hc5 => ?_)
  · skip
    refine w_iconst X1 (pc' := 13) (0 : Int32) d9_12 rfl rfl ?_
    exact w_zreturn X1 d9_13 ⟨by rw [if_neg hc5]; rfl, rfl⟩ (by decide) (by decide)
  · skip
    refine w_iconst X1 (pc' := 9) (1 : Int32) d9_8 rfl rfl ?_
    refine w_goto X1 (pc' := 13) d9_9 (by decide) rfl ?_
    exact w_zreturn X1 d9_13 ⟨by rw [if_pos hc5]; rfl, rfl⟩ (by decide) (by decide)
set_option maxRecDepth 65536 in
set_option maxHeartbeats 40000000 in
theorem rm9r {l : Launch} {Z : State} {a0 : Array Value} (hw : ∀ d ∈ tables_1, d.before a0 Z = true) {n0 : Nat} {h0 : Heap} (Z0 : n0 ≤ h0.size) (a1 : Addr) (d2 : Addr) {v1 : Value} (hv1 : v1.isRef = true) (F_k : Fld Z h0 a1 "com/example/edict4/edict4/policy/Token" "mKind" "Lcom/example/edict4/edict4/policy/Token$Kind;" v1) :
    Con l Z n0 (⟨"com/example/edict4/edict4/policy/Token", "is", "(Lcom/example/edict4/edict4/policy/Token$Kind;)Z"⟩ : MethodName) prog_33_method_5_code 2 (some .boolean) ({ frames := 0, cells := 0, slots := 0, locals := 0 } : Room) #[(.ref a1), (.ref d2)] h0 (Val (fun v h => v = .int (if v1 = (.ref d2) then 1 else 0) ∧ h0 = h)) := by
  refine con_intro pn_9 Z0 (fr := fun m => mkF m 0 #[.val (.ref a1), .val (.ref d2)] []) (fun m => by first | (simp [entryFrame, mkF, argsToLocals, Value.category]; done) | rfl) ?_
  intro p e s m below s₁ hs0 X0
  refine w_aloadN X0 (pc' := 1) d9_0 rfl rfl rfl ?_
  refine w_getfield X0 (pc' := 4) d9_1 (host := "") (Or.inl (hw _ (List.mem_of_getElem? (i := 104) rfl))) Via.refl F_k rfl fun T1 X1 => ?_
  refine w_aloadN X1 (pc' := 5) d9_4 rfl rfl rfl ?_
  refine w_acmp_ne X1 hv1 rfl 12 8 d9_5 (by decide) rfl rfl (fun hc5 => ?_) (fun hc5 => ?_)
  · skip
    refine w_iconst X1 (pc' := 13) (0 : Int32) d9_12 rfl rfl ?_
    exact w_zreturn X1 d9_13 ⟨by rw [if_neg hc5]; rfl, rfl⟩ (by decide) (by decide)
  · skip
    refine w_iconst X1 (pc' := 9) (1 : Int32) d9_8 rfl rfl ?_
    refine w_goto X1 (pc' := 13) d9_9 (by decide) rfl ?_
    exact w_zreturn X1 d9_13 ⟨by rw [if_pos hc5]; rfl, rfl⟩ (by decide) (by decide)
theorem rm9 {l : Launch} {Z : State} {a0 : Array Value} (hw : ∀ d ∈ tables_1, d.before a0 Z = true) {n0 : Nat} {h0 : Heap} (Z0 : n0 ≤ h0.size) (a1 : Addr) {v2 : Value} (hv : v2.isRef = true) {v1 : Value} (hv1 : v1.isRef = true) (F_k : Fld Z h0 a1 "com/example/edict4/edict4/policy/Token" "mKind" "Lcom/example/edict4/edict4/policy/Token$Kind;" v1) : Con l Z n0 (⟨"com/example/edict4/edict4/policy/Token", "is", "(Lcom/example/edict4/edict4/policy/Token$Kind;)Z"⟩ : MethodName) prog_33_method_5_code 2 (some .boolean) ({ frames := 0, cells := 0, slots := 0, locals := 0 } : Room) #[.ref a1, v2] h0 (Val (fun v h => v = .int (if v1 = v2 then 1 else 0) ∧ h0 = h)) := by
  rcases ref_cases hv with rfl | ⟨d2, rfl⟩
  · exact rm9n hw Z0 a1 hv1 F_k
  · exact rm9r hw Z0 a1 d2 hv1 F_k
theorem pn_0 : plainFor (⟨"com/example/edict4/edict4/policy/TokenIsPinLaw", "law", "(IIII)Z"⟩ : MethodName) = true := plainFor_of_name (by first | (simp [plainName, overriddenIn]; done) | decide +kernel)
theorem pd_0 : parseMethodDescriptor "(IIII)Z" = some ⟨[.int, .int, .int, .int], some .boolean⟩ := by decide +kernel
theorem own_ne {p k : Int32} {n i : Nat} (h : p.toInt = (n : Int)) (hk : k.toInt = (i : Int)) (q : ¬ p = k) : n ≠ i := fun z => q (Int32.toInt_inj.mp (by rw [h, hk, z]))
theorem own_eq {p k : Int32} {n i : Nat} (h : p.toInt = (n : Int)) (hk : k.toInt = (i : Int)) (q : p = k) : n = i := by rw [q, hk] at h; omega
set_option maxRecDepth 65536 in
set_option maxHeartbeats 40000000 in
theorem rm0 {l : Launch} {Z : State} {a0 : Array Value} (hw : ∀ d ∈ tables_1, d.before a0 Z = true) {n0 : Nat} {h0 : Heap} (Z0 : n0 ≤ h0.size) (p1 p2 p3 p4 : Int32) (Zn : h0.size ≤ n0) {zc : Int32} (S_c : Sta Z h0 "java/lang/String" "COMPACT_STRINGS" "Z" (.int zc)) (hzc : ¬ zc = (0 : Int32)) {d0 : Addr} (S_d0 : Sta Z h0 "com/example/edict4/edict4/policy/Token$Kind" "NAME" "Lcom/example/edict4/edict4/policy/Token$Kind;" (.ref d0)) (E_d0 : Exa Z h0 d0 "com/example/edict4/edict4/policy/Token$Kind") {d1 : Addr} (S_d1 : Sta Z h0 "com/example/edict4/edict4/policy/Token$Kind" "STRING" "Lcom/example/edict4/edict4/policy/Token$Kind;" (.ref d1)) (E_d1 : Exa Z h0 d1 "com/example/edict4/edict4/policy/Token$Kind") {d2 : Addr} (S_d2 : Sta Z h0 "com/example/edict4/edict4/policy/Token$Kind" "NUMBER" "Lcom/example/edict4/edict4/policy/Token$Kind;" (.ref d2)) (E_d2 : Exa Z h0 d2 "com/example/edict4/edict4/policy/Token$Kind") {d3 : Addr} (S_d3 : Sta Z h0 "com/example/edict4/edict4/policy/Token$Kind" "OR" "Lcom/example/edict4/edict4/policy/Token$Kind;" (.ref d3)) (E_d3 : Exa Z h0 d3 "com/example/edict4/edict4/policy/Token$Kind") {d4 : Addr} (S_d4 : Sta Z h0 "com/example/edict4/edict4/policy/Token$Kind" "AND" "Lcom/example/edict4/edict4/policy/Token$Kind;" (.ref d4)) (E_d4 : Exa Z h0 d4 "com/example/edict4/edict4/policy/Token$Kind") {d5 : Addr} (S_d5 : Sta Z h0 "com/example/edict4/edict4/policy/Token$Kind" "EQUALS" "Lcom/example/edict4/edict4/policy/Token$Kind;" (.ref d5)) (E_d5 : Exa Z h0 d5 "com/example/edict4/edict4/policy/Token$Kind") {d6 : Addr} (S_d6 : Sta Z h0 "com/example/edict4/edict4/policy/Token$Kind" "NOT_EQUALS" "Lcom/example/edict4/edict4/policy/Token$Kind;" (.ref d6)) (E_d6 : Exa Z h0 d6 "com/example/edict4/edict4/policy/Token$Kind") {d7 : Addr} (S_d7 : Sta Z h0 "com/example/edict4/edict4/policy/Token$Kind" "MATCHES" "Lcom/example/edict4/edict4/policy/Token$Kind;" (.ref d7)) (E_d7 : Exa Z h0 d7 "com/example/edict4/edict4/policy/Token$Kind") {d8 : Addr} (S_d8 : Sta Z h0 "com/example/edict4/edict4/policy/Token$Kind" "LESS" "Lcom/example/edict4/edict4/policy/Token$Kind;" (.ref d8)) (E_d8 : Exa Z h0 d8 "com/example/edict4/edict4/policy/Token$Kind") {d9 : Addr} (S_d9 : Sta Z h0 "com/example/edict4/edict4/policy/Token$Kind" "LESS_OR_EQUAL" "Lcom/example/edict4/edict4/policy/Token$Kind;" (.ref d9)) (E_d9 : Exa Z h0 d9 "com/example/edict4/edict4/policy/Token$Kind") {d10 : Addr} (S_d10 : Sta Z h0 "com/example/edict4/edict4/policy/Token$Kind" "GREATER" "Lcom/example/edict4/edict4/policy/Token$Kind;" (.ref d10)) (E_d10 : Exa Z h0 d10 "com/example/edict4/edict4/policy/Token$Kind") {d11 : Addr} (S_d11 : Sta Z h0 "com/example/edict4/edict4/policy/Token$Kind" "GREATER_OR_EQUAL" "Lcom/example/edict4/edict4/policy/Token$Kind;" (.ref d11)) (E_d11 : Exa Z h0 d11 "com/example/edict4/edict4/policy/Token$Kind") {d12 : Addr} (S_d12 : Sta Z h0 "com/example/edict4/edict4/policy/Token$Kind" "NOT" "Lcom/example/edict4/edict4/policy/Token$Kind;" (.ref d12)) (E_d12 : Exa Z h0 d12 "com/example/edict4/edict4/policy/Token$Kind") {d13 : Addr} (S_d13 : Sta Z h0 "com/example/edict4/edict4/policy/Token$Kind" "PLUS" "Lcom/example/edict4/edict4/policy/Token$Kind;" (.ref d13)) (E_d13 : Exa Z h0 d13 "com/example/edict4/edict4/policy/Token$Kind") {d14 : Addr} (S_d14 : Sta Z h0 "com/example/edict4/edict4/policy/Token$Kind" "MINUS" "Lcom/example/edict4/edict4/policy/Token$Kind;" (.ref d14)) (E_d14 : Exa Z h0 d14 "com/example/edict4/edict4/policy/Token$Kind") {d15 : Addr} (S_d15 : Sta Z h0 "com/example/edict4/edict4/policy/Token$Kind" "TIMES" "Lcom/example/edict4/edict4/policy/Token$Kind;" (.ref d15)) (E_d15 : Exa Z h0 d15 "com/example/edict4/edict4/policy/Token$Kind") {d16 : Addr} (S_d16 : Sta Z h0 "com/example/edict4/edict4/policy/Token$Kind" "DIVIDE" "Lcom/example/edict4/edict4/policy/Token$Kind;" (.ref d16)) (E_d16 : Exa Z h0 d16 "com/example/edict4/edict4/policy/Token$Kind") {d17 : Addr} (S_d17 : Sta Z h0 "com/example/edict4/edict4/policy/Token$Kind" "REMAINDER" "Lcom/example/edict4/edict4/policy/Token$Kind;" (.ref d17)) (E_d17 : Exa Z h0 d17 "com/example/edict4/edict4/policy/Token$Kind") {d18 : Addr} (S_d18 : Sta Z h0 "com/example/edict4/edict4/policy/Token$Kind" "DOT" "Lcom/example/edict4/edict4/policy/Token$Kind;" (.ref d18)) (E_d18 : Exa Z h0 d18 "com/example/edict4/edict4/policy/Token$Kind") {d19 : Addr} (S_d19 : Sta Z h0 "com/example/edict4/edict4/policy/Token$Kind" "SEMICOLON" "Lcom/example/edict4/edict4/policy/Token$Kind;" (.ref d19)) (E_d19 : Exa Z h0 d19 "com/example/edict4/edict4/policy/Token$Kind") {d20 : Addr} (S_d20 : Sta Z h0 "com/example/edict4/edict4/policy/Token$Kind" "COMMA" "Lcom/example/edict4/edict4/policy/Token$Kind;" (.ref d20)) (E_d20 : Exa Z h0 d20 "com/example/edict4/edict4/policy/Token$Kind") {d21 : Addr} (S_d21 : Sta Z h0 "com/example/edict4/edict4/policy/Token$Kind" "COLON" "Lcom/example/edict4/edict4/policy/Token$Kind;" (.ref d21)) (E_d21 : Exa Z h0 d21 "com/example/edict4/edict4/policy/Token$Kind") {d22 : Addr} (S_d22 : Sta Z h0 "com/example/edict4/edict4/policy/Token$Kind" "LEFT_PAREN" "Lcom/example/edict4/edict4/policy/Token$Kind;" (.ref d22)) (E_d22 : Exa Z h0 d22 "com/example/edict4/edict4/policy/Token$Kind") {d23 : Addr} (S_d23 : Sta Z h0 "com/example/edict4/edict4/policy/Token$Kind" "RIGHT_PAREN" "Lcom/example/edict4/edict4/policy/Token$Kind;" (.ref d23)) (E_d23 : Exa Z h0 d23 "com/example/edict4/edict4/policy/Token$Kind") {d24 : Addr} (S_d24 : Sta Z h0 "com/example/edict4/edict4/policy/Token$Kind" "LEFT_BRACE" "Lcom/example/edict4/edict4/policy/Token$Kind;" (.ref d24)) (E_d24 : Exa Z h0 d24 "com/example/edict4/edict4/policy/Token$Kind") {d25 : Addr} (S_d25 : Sta Z h0 "com/example/edict4/edict4/policy/Token$Kind" "RIGHT_BRACE" "Lcom/example/edict4/edict4/policy/Token$Kind;" (.ref d25)) (E_d25 : Exa Z h0 d25 "com/example/edict4/edict4/policy/Token$Kind") {d26 : Addr} (S_d26 : Sta Z h0 "com/example/edict4/edict4/policy/Token$Kind" "LEFT_BRACKET" "Lcom/example/edict4/edict4/policy/Token$Kind;" (.ref d26)) (E_d26 : Exa Z h0 d26 "com/example/edict4/edict4/policy/Token$Kind") {d27 : Addr} (S_d27 : Sta Z h0 "com/example/edict4/edict4/policy/Token$Kind" "RIGHT_BRACKET" "Lcom/example/edict4/edict4/policy/Token$Kind;" (.ref d27)) (E_d27 : Exa Z h0 d27 "com/example/edict4/edict4/policy/Token$Kind") {d28 : Addr} (S_d28 : Sta Z h0 "com/example/edict4/edict4/policy/Token$Kind" "END" "Lcom/example/edict4/edict4/policy/Token$Kind;" (.ref d28)) (E_d28 : Exa Z h0 d28 "com/example/edict4/edict4/policy/Token$Kind") (F_d0_ordinal : Fld Z h0 d0 "java/lang/Enum" "ordinal" "I" (.int (0 : Int32))) (F_d3_ordinal : Fld Z h0 d3 "java/lang/Enum" "ordinal" "I" (.int (3 : Int32))) (F_d12_ordinal : Fld Z h0 d12 "java/lang/Enum" "ordinal" "I" (.int (12 : Int32))) (F_d4_ordinal : Fld Z h0 d4 "java/lang/Enum" "ordinal" "I" (.int (4 : Int32))) (F_d28_ordinal : Fld Z h0 d28 "java/lang/Enum" "ordinal" "I" (.int (28 : Int32))) (F_d1_ordinal : Fld Z h0 d1 "java/lang/Enum" "ordinal" "I" (.int (1 : Int32))) (F_d8_ordinal : Fld Z h0 d8 "java/lang/Enum" "ordinal" "I" (.int (8 : Int32))) (F_d5_ordinal : Fld Z h0 d5 "java/lang/Enum" "ordinal" "I" (.int (5 : Int32))) (F_d13_ordinal : Fld Z h0 d13 "java/lang/Enum" "ordinal" "I" (.int (13 : Int32))) (F_d21_ordinal : Fld Z h0 d21 "java/lang/Enum" "ordinal" "I" (.int (21 : Int32))) (F_d19_ordinal : Fld Z h0 d19 "java/lang/Enum" "ordinal" "I" (.int (19 : Int32))) (F_d16_ordinal : Fld Z h0 d16 "java/lang/Enum" "ordinal" "I" (.int (16 : Int32))) (F_d7_ordinal : Fld Z h0 d7 "java/lang/Enum" "ordinal" "I" (.int (7 : Int32))) (F_d15_ordinal : Fld Z h0 d15 "java/lang/Enum" "ordinal" "I" (.int (15 : Int32))) (F_d18_ordinal : Fld Z h0 d18 "java/lang/Enum" "ordinal" "I" (.int (18 : Int32))) (F_d10_ordinal : Fld Z h0 d10 "java/lang/Enum" "ordinal" "I" (.int (10 : Int32))) (F_d2_ordinal : Fld Z h0 d2 "java/lang/Enum" "ordinal" "I" (.int (2 : Int32))) (F_d20_ordinal : Fld Z h0 d20 "java/lang/Enum" "ordinal" "I" (.int (20 : Int32))) (F_d9_ordinal : Fld Z h0 d9 "java/lang/Enum" "ordinal" "I" (.int (9 : Int32))) (F_d24_ordinal : Fld Z h0 d24 "java/lang/Enum" "ordinal" "I" (.int (24 : Int32))) (F_d17_ordinal : Fld Z h0 d17 "java/lang/Enum" "ordinal" "I" (.int (17 : Int32))) (F_d6_ordinal : Fld Z h0 d6 "java/lang/Enum" "ordinal" "I" (.int (6 : Int32))) (F_d23_ordinal : Fld Z h0 d23 "java/lang/Enum" "ordinal" "I" (.int (23 : Int32))) (F_d22_ordinal : Fld Z h0 d22 "java/lang/Enum" "ordinal" "I" (.int (22 : Int32))) (F_d27_ordinal : Fld Z h0 d27 "java/lang/Enum" "ordinal" "I" (.int (27 : Int32))) (F_d14_ordinal : Fld Z h0 d14 "java/lang/Enum" "ordinal" "I" (.int (14 : Int32))) (F_d25_ordinal : Fld Z h0 d25 "java/lang/Enum" "ordinal" "I" (.int (25 : Int32))) (F_d11_ordinal : Fld Z h0 d11 "java/lang/Enum" "ordinal" "I" (.int (11 : Int32))) (F_d26_ordinal : Fld Z h0 d26 "java/lang/Enum" "ordinal" "I" (.int (26 : Int32))) :
    Con l Z n0 x code maxLocals ret room_1 #[(.int p1), (.int p2), (.int p3), (.int p4)] h0 (Val (fun v _ => v = .int 1)) := by
  refine con_intro pn_0 Z0 (fr := fun m => mkF m 0 #[.val (.int p1), .val (.int p2), .val (.int p3), .val (.int p4), .unset, .unset, .unset, .unset, .unset, .unset, .unset, .unset] []) (fun m => by first | (simp [entryFrame, mkF, argsToLocals, Value.category, maxLocals]; done) | rfl) ?_
  intro p e s m below s₁ hs0 X0
  refine w_staticV X0 (pc' := 3) at_0 (rm1 hw (h0 := h0) (sd_size X0) Zn S_d0 E_d0 S_d1 E_d1 S_d2 E_d2 S_d3 E_d3 S_d4 E_d4 S_d5 E_d5 S_d6 E_d6 S_d7 E_d7 S_d8 E_d8 S_d9 E_d9 S_d10 E_d10 S_d11 E_d11 S_d12 E_d12 S_d13 E_d13 S_d14 E_d14 S_d15 E_d15 S_d16 E_d16 S_d17 E_d17 S_d18 E_d18 S_d19 E_d19 S_d20 E_d20 S_d21 E_d21 S_d22 E_d22 S_d23 E_d23 S_d24 E_d24 S_d25 E_d25 S_d26 E_d26 S_d27 E_d27 S_d28 E_d28) (hw _ (List.mem_of_getElem? (i := 0) rfl)) (hw _ (List.mem_of_getElem? (i := 1) rfl)) (hw _ (List.mem_of_getElem? (i := 2) rfl)) (hw _ (List.mem_of_getElem? (i := 3) rfl)) (by decide) [] [] pd_1 rfl rfl rfl rfl 0 (Nat.le_refl _) (by decide) (by decide) (by decide) (by decide) rfl fun T1 h1 v1 X1 q1 => ?_
  obtain ⟨b1, rfl, g1, gn1, K1, A1⟩ := q1
  refine w_astore X1 (pc' := 5) (l' := #[.val (.int p1), .val (.int p2), .val (.int p3), .val (.int p4), .val (.ref b1), .unset, .unset, .unset, .unset, .unset, .unset, .unset]) at_3 rfl rfl rfl ?_
  refine w_iloadN X1 (pc' := 6) at_5 rfl rfl ?_
  refine w_ldc X1 (pc' := 8) at_6 (hw _ (List.mem_of_getElem? (i := 66) rfl)) rfl ?_
  refine w_iand X1 (pc' := 9) at_8 rfl ?_
  refine w_bipush X1 (pc' := 11) (30 : Int32) at_9 rfl rfl ?_
  refine w_irem X1 (pc' := 12) at_11 (by decide) rfl ?_
  refine w_istore X1 (pc' := 14) (l' := #[.val (.int p1), .val (.int p2), .val (.int p3), .val (.int p4), .val (.ref b1), .val (.int ((p1 &&& (2147483647 : Int32)) % (30 : Int32))), .unset, .unset, .unset, .unset, .unset, .unset]) at_12 rfl rfl ?_
  obtain ⟨n5, hn5⟩ : ∃ n : Nat, ((p1 &&& (2147483647 : Int32)) % (30 : Int32)).toInt = (n : Int) ∧ n < 30 := by
    have e1 : (p1 &&& (2147483647 : Int32)).toInt = p1.toInt % 2 ^ 31 := Jvm.Kit.i32_mask p1 2147483647 (k := 31) (by decide) (by decide)
    have e2 : ((p1 &&& (2147483647 : Int32)) % (30 : Int32)).toInt = (p1 &&& (2147483647 : Int32)).toInt % 30 := by rw [Jvm.Kit.i32_rem_nonneg (by omega)]; rfl
    exact ⟨((p1 &&& (2147483647 : Int32)) % (30 : Int32)).toInt.toNat, by omega, by omega⟩
  generalize ((p1 &&& (2147483647 : Int32)) % (30 : Int32)) = j5 at hn5 ⊢
  refine w_iloadN X1 (pc' := 15) at_14 rfl rfl ?_
  refine w_ldc X1 (pc' := 17) at_15 (hw _ (List.mem_of_getElem? (i := 66) rfl)) rfl ?_
  refine w_iand X1 (pc' := 18) at_17 rfl ?_
  refine w_bipush X1 (pc' := 20) (30 : Int32) at_18 rfl rfl ?_
  refine w_irem X1 (pc' := 21) at_20 (by decide) rfl ?_
  refine w_istore X1 (pc' := 23) (l' := #[.val (.int p1), .val (.int p2), .val (.int p3), .val (.int p4), .val (.ref b1), .val (.int j5), .val (.int ((p2 &&& (2147483647 : Int32)) % (30 : Int32))), .unset, .unset, .unset, .unset, .unset]) at_21 rfl rfl ?_
  obtain ⟨n6, hn6⟩ : ∃ n : Nat, ((p2 &&& (2147483647 : Int32)) % (30 : Int32)).toInt = (n : Int) ∧ n < 30 := by
    have e1 : (p2 &&& (2147483647 : Int32)).toInt = p2.toInt % 2 ^ 31 := Jvm.Kit.i32_mask p2 2147483647 (k := 31) (by decide) (by decide)
    have e2 : ((p2 &&& (2147483647 : Int32)) % (30 : Int32)).toInt = (p2 &&& (2147483647 : Int32)).toInt % 30 := by rw [Jvm.Kit.i32_rem_nonneg (by omega)]; rfl
    exact ⟨((p2 &&& (2147483647 : Int32)) % (30 : Int32)).toInt.toNat, by omega, by omega⟩
  generalize ((p2 &&& (2147483647 : Int32)) % (30 : Int32)) = j6 at hn6 ⊢
  refine w_iconst X1 (pc' := 24) (1 : Int32) at_23 rfl rfl ?_
  refine w_newarray X1 (pc' := 26) 1 1 at_24 (hw _ (List.mem_of_getElem? (i := 67) rfl)) (by decide) (by decide) (by decide) (by decide) (by decide) rfl fun T3 h3 b3 g3 gn3 X3 E3 A3 => ?_
  have ne_b1_b3 : b1 ≠ b3 := ne_new g3 A1.lt
  have A1_4 := A1.ext E3
  replace A3 : Ary Z h3 b3 .char 1 (fun _ => (.int (0 : Int32))) := A3
  refine w_astore X3 (pc' := 28) (l' := #[.val (.int p1), .val (.int p2), .val (.int p3), .val (.int p4), .val (.ref b1), .val (.int j5), .val (.int j6), .val (.ref b3), .unset, .unset, .unset, .unset]) at_26 rfl rfl rfl ?_
  refine w_aload X3 (pc' := 30) at_28 rfl rfl rfl ?_
  refine w_iconst X3 (pc' := 31) (0 : Int32) at_30 rfl rfl ?_
  refine w_iloadN X3 (pc' := 32) at_31 rfl rfl ?_
  refine w_sipush X3 (pc' := 35) (255 : Int32) at_32 rfl rfl ?_
  refine w_iand X3 (pc' := 36) at_35 rfl ?_
  refine w_i2c X3 (pc' := 37) at_36 rfl ?_
  refine w_castore X3 (pc' := 38) 0 at_37 A3 (by decide) (by decide) gn3 rfl fun T5 h5 X5 W5 A5 => ?_
  have A1_6 := A1_4.other W5 ne_b1_b3
  have hf0 : (upd (fun _ => (.int (0 : Int32))) 0 (.int (nar .char ((p3 &&& (255 : Int32)).toUInt32.toUInt16.toUInt32.toInt32)))) 0 = .int (p3 &&& (255 : Int32)) := by show Value.int (nar .char ((p3 &&& (255 : Int32)).toUInt32.toUInt16.toUInt32.toInt32)) = _; rw [i2c_mask]; show Value.int ((p3 &&& (255 : Int32)).toUInt32.toUInt16.toUInt32.toInt32) = _; rw [i2c_mask]
  have hc0 : ¬ (255 : Int32) < p3 &&& (255 : Int32) := by
    have e1 : (p3 &&& (255 : Int32)).toInt = p3.toInt % 2 ^ 8 := Jvm.Kit.i32_mask p3 255 (k := 8) (by decide) (by decide)
    rw [Int32.lt_iff_toInt_lt, show (255 : Int32).toInt = 255 from by decide]; omega
  refine w_new X5 (pc' := 41) at_38 (hw _ (List.mem_of_getElem? (i := 68) rfl)) (hw _ (List.mem_of_getElem? (i := 69) rfl)) (hw _ (List.mem_of_getElem? (i := 70) rfl)) (by decide) (by decide) rfl fun T7 h7 b7 g7 gn7 X7 E7 A7 D7 => ?_
  have ne_b1_b7 : b1 ≠ b7 := ne_new g7 A1_6.lt
  have ne_b3_b7 : b3 ≠ b7 := ne_new g7 A5.lt
  have A1_8 := A1_6.ext E7
  have A5_8 := A5.ext E7
  have Fcoder_7 : Fld Z h7 b7 "java/lang/String" "coder" "B" (.int (0 : Int32)) := D7 (Or.inr (hw _ (List.mem_of_getElem? (i := 94) rfl))) (ty := .byte) (by decide)
  have Fvalue_7 : Fld Z h7 b7 "java/lang/String" "value" "[B" .null := D7 (Or.inr (hw _ (List.mem_of_getElem? (i := 96) rfl))) (ty := (.array .byte)) (by decide)
  refine w_dup X7 (pc' := 42) at_41 rfl rfl ?_
  refine w_aload X7 (pc' := 44) at_42 rfl rfl rfl ?_
  refine w_specialN X7 (pc' := 47) at_44 (rm2 hw (h0 := h7) (sd_size X7) b7 b3 A7 Fvalue_7 Fcoder_7 gn7 A5_8 (Ne.symm ne_b3_b7) hf0 hc0 (Sta.ext (sd_ext X7 hs0 Zn) S_c) hzc) (hw _ (List.mem_of_getElem? (i := 71) rfl)) (hw _ (List.mem_of_getElem? (i := 72) rfl)) (hw _ (List.mem_of_getElem? (i := 70) rfl)) (hw _ (List.mem_of_getElem? (i := 73) rfl)) rfl (by decide) [(.ref b3)] [(.ref b7)] pd_2 rfl rfl rfl rfl 1 (Nat.le_refl _) (by decide) (by decide) (by decide) (by decide) rfl fun T9 h9 X9 q9 => ?_
  have K9 := q9
  have A7_10 := A7.keep K9
  have A1_10 := A1_8.keep K9 (ninS ne_b1_b7 nin0)
  have A5_10 := A5_8.keep K9 (ninS ne_b3_b7 nin0)
  refine w_astore X9 (pc' := 49) (l' := #[.val (.int p1), .val (.int p2), .val (.int p3), .val (.int p4), .val (.ref b1), .val (.int j5), .val (.int j6), .val (.ref b3), .val (.ref b7), .unset, .unset, .unset]) at_47 rfl rfl rfl ?_
  refine w_new X9 (pc' := 52) at_49 (hw _ (List.mem_of_getElem? (i := 97) rfl)) (hw _ (List.mem_of_getElem? (i := 98) rfl)) (hw _ (List.mem_of_getElem? (i := 99) rfl)) (by decide) (by decide) rfl fun T11 h11 b11 g11 gn11 X11 E11 A11 D11 => ?_
  have ne_b7_b11 : b7 ≠ b11 := ne_new g11 A7_10.lt
  have ne_b1_b11 : b1 ≠ b11 := ne_new g11 A1_10.lt
  have ne_b3_b11 : b3 ≠ b11 := ne_new g11 A5_10.lt
  have A7_12 := Exa.ext E11 A7_10
  have A1_12 := A1_10.ext E11
  have A5_12 := A5_10.ext E11
  have FmKind_11 : Fld Z h11 b11 "com/example/edict4/edict4/policy/Token" "mKind" "Lcom/example/edict4/edict4/policy/Token$Kind;" .null := D11 (Or.inr (hw _ (List.mem_of_getElem? (i := 105) rfl))) (ty := (.object "com/example/edict4/edict4/policy/Token$Kind")) (by decide)
  have FmText_11 : Fld Z h11 b11 "com/example/edict4/edict4/policy/Token" "mText" "Ljava/lang/String;" .null := D11 (Or.inr (hw _ (List.mem_of_getElem? (i := 107) rfl))) (ty := (.object "java/lang/String")) (by decide)
  have FmOffset_11 : Fld Z h11 b11 "com/example/edict4/edict4/policy/Token" "mOffset" "I" (.int (0 : Int32)) := D11 (Or.inr (hw _ (List.mem_of_getElem? (i := 109) rfl))) (ty := .int) (by decide)
  refine w_dup X11 (pc' := 53) at_52 rfl rfl ?_
  refine w_aload X11 (pc' := 55) at_53 rfl rfl rfl ?_
  refine w_iload X11 (pc' := 57) at_55 rfl rfl ?_
  obtain ⟨u5, hu5⟩ : ∃ u, own_kv d0 d1 d2 d3 d4 d5 d6 d7 d8 d9 d10 d11 d12 d13 d14 d15 d16 d17 d18 d19 d20 d21 d22 d23 d24 d25 d26 d27 d28 n5 = u := ⟨_, rfl⟩
  have hr5 : u5.isRef = true := hu5 ▸ own_kvP d0 d1 d2 d3 d4 d5 d6 d7 d8 d9 d10 d11 d12 d13 d14 d15 d16 d17 d18 d19 d20 d21 d22 d23 d24 d25 d26 d27 d28 n5 hn5.2
  refine w_aaload X11 (pc' := 58) n5 (v := u5) at_57 A1_12 rfl hn5.1 hn5.2 hu5 rfl ?_
  refine w_aload X11 (pc' := 60) at_58 rfl rfl rfl ?_
  refine w_iloadN X11 (pc' := 61) at_60 rfl rfl ?_
  refine w_specialN X11 (pc' := 64) at_61 (rm8 hw (h0 := h11) (sd_size X11) b11 hr5 b7 p4 A11 FmKind_11 FmText_11 FmOffset_11 gn11) (hw _ (List.mem_of_getElem? (i := 100) rfl)) (hw _ (List.mem_of_getElem? (i := 101) rfl)) (hw _ (List.mem_of_getElem? (i := 99) rfl)) (hw _ (List.mem_of_getElem? (i := 102) rfl)) rfl (by decide) [u5, (.ref b7), (.int p4)] [(.ref b11)] pd_8 rfl rfl rfl rfl 1 (Nat.le_refl _) (by decide) (by decide) (by decide) (by decide) rfl fun T13 h13 X13 q13 => ?_
  obtain ⟨K13, F13⟩ := q13
  have A7_14 := A7_12.keep K13
  have A11_14 := A11.keep K13
  have A1_14 := A1_12.keep K13 (ninS ne_b1_b11 nin0)
  have A5_14 := A5_12.keep K13 (ninS ne_b3_b11 nin0)
  refine w_astore X13 (pc' := 66) (l' := #[.val (.int p1), .val (.int p2), .val (.int p3), .val (.int p4), .val (.ref b1), .val (.int j5), .val (.int j6), .val (.ref b3), .val (.ref b7), .val (.ref b11), .unset, .unset]) at_64 rfl rfl rfl ?_
  refine w_aload X13 (pc' := 68) at_66 rfl rfl rfl ?_
  refine w_aload X13 (pc' := 70) at_68 rfl rfl rfl ?_
  refine w_iload X13 (pc' := 72) at_70 rfl rfl ?_
  obtain ⟨u6, hu6⟩ : ∃ u, own_kv d0 d1 d2 d3 d4 d5 d6 d7 d8 d9 d10 d11 d12 d13 d14 d15 d16 d17 d18 d19 d20 d21 d22 d23 d24 d25 d26 d27 d28 n6 = u := ⟨_, rfl⟩
  have hr6 : u6.isRef = true := hu6 ▸ own_kvP d0 d1 d2 d3 d4 d5 d6 d7 d8 d9 d10 d11 d12 d13 d14 d15 d16 d17 d18 d19 d20 d21 d22 d23 d24 d25 d26 d27 d28 n6 hn6.2
  refine w_aaload X13 (pc' := 73) n6 (v := u6) at_72 A1_14 rfl hn6.1 hn6.2 hu6 rfl ?_
  refine w_virtualV X13 (pc' := 76) at_73 (rm9 hw (h0 := h13) (sd_size X13) b11 hr6 hr5 F13) (hw _ (List.mem_of_getElem? (i := 110) rfl)) (hw _ (List.mem_of_getElem? (i := 111) rfl)) (hw _ (List.mem_of_getElem? (i := 113) rfl)) (hw _ (List.mem_of_getElem? (i := 112) rfl)) (hw _ (List.mem_of_getElem? (i := 99) rfl)) (hw _ (List.mem_of_getElem? (i := 114) rfl)) A11_14 (by decide) [u6] [] pd_9 rfl rfl rfl rfl 0 (Nat.le_refl _) (by decide) (by decide) (by decide) (by decide) rfl fun T15 h15 v15 X15 q15 => ?_
  obtain ⟨rfl, rfl⟩ := q15
  refine w_istore X15 (pc' := 78) (l' := #[.val (.int p1), .val (.int p2), .val (.int p3), .val (.int p4), .val (.ref b1), .val (.int j5), .val (.int j6), .val (.ref b3), .val (.ref b7), .val (.ref b11), .val (.int (if u5 = u6 then (1 : Int32) else 0)), .unset]) at_76 rfl rfl ?_
  refine w_iload X15 (pc' := 80) at_78 rfl rfl ?_
  refine w_iload X15 (pc' := 82) at_80 rfl rfl ?_
  refine w_icmp_ne X15 89 85 at_82 (by decide) rfl rfl (fun hc82 => ?_) (fun hc82 => ?_)
  · skip
    refine w_iconst X15 (pc' := 90) (0 : Int32) at_89 rfl rfl ?_
    refine w_istore X15 (pc' := 92) (l' := #[.val (.int p1), .val (.int p2), .val (.int p3), .val (.int p4), .val (.ref b1), .val (.int j5), .val (.int j6), .val (.ref b3), .val (.ref b7), .val (.ref b11), .val (.int (if u5 = u6 then (1 : Int32) else 0)), .val (.int (0 : Int32))]) at_90 rfl rfl ?_
    refine w_iload X15 (pc' := 94) at_92 rfl rfl ?_
    refine w_iload X15 (pc' := 96) at_94 rfl rfl ?_
    refine w_icmp_ne X15 103 99 at_96 (by decide) rfl rfl (fun hc96 => by exfalso; exact hc96 (if_neg (fun q => own_ne hn5.1 hn6.1 hc82 (own_inj (own_kvF F_d0_ordinal F_d3_ordinal F_d12_ordinal F_d4_ordinal F_d28_ordinal F_d1_ordinal F_d8_ordinal F_d5_ordinal F_d13_ordinal F_d21_ordinal F_d19_ordinal F_d16_ordinal F_d7_ordinal F_d15_ordinal F_d18_ordinal F_d10_ordinal F_d2_ordinal F_d20_ordinal F_d9_ordinal F_d24_ordinal F_d17_ordinal F_d6_ordinal F_d23_ordinal F_d22_ordinal F_d27_ordinal F_d14_ordinal F_d25_ordinal F_d11_ordinal F_d26_ordinal) rfl hn5.2 hn6.2 (hu5.trans (q.trans hu6.symm)))))) (fun hc96 => ?_)
    refine w_iconst X15 (pc' := 100) (1 : Int32) at_99 rfl rfl ?_
    refine w_goto X15 (pc' := 104) at_100 (by decide) rfl ?_
    exact w_zreturn X15 at_104 rfl (by decide) (by decide)
  · skip
    refine w_iconst X15 (pc' := 86) (1 : Int32) at_85 rfl rfl ?_
    refine w_goto X15 (pc' := 90) at_86 (by decide) rfl ?_
    refine w_istore X15 (pc' := 92) (l' := #[.val (.int p1), .val (.int p2), .val (.int p3), .val (.int p4), .val (.ref b1), .val (.int j5), .val (.int j6), .val (.ref b3), .val (.ref b7), .val (.ref b11), .val (.int (if u5 = u6 then (1 : Int32) else 0)), .val (.int (1 : Int32))]) at_90 rfl rfl ?_
    refine w_iload X15 (pc' := 94) at_92 rfl rfl ?_
    refine w_iload X15 (pc' := 96) at_94 rfl rfl ?_
    refine w_icmp_ne X15 103 99 at_96 (by decide) rfl rfl (fun hc96 => by exfalso; exact hc96 (if_pos (by have z := own_eq hn5.1 hn6.1 hc82; subst z; exact hu5.symm.trans hu6))) (fun hc96 => ?_)
    refine w_iconst X15 (pc' := 100) (1 : Int32) at_99 rfl rfl ?_
    refine w_goto X15 (pc' := 104) at_100 (by decide) rfl ?_
    exact w_zreturn X15 at_104 rfl (by decide) (by decide)
set_option maxRecDepth 65536 in
set_option maxHeartbeats 40000000 in
theorem comes_1 {Post : Tables → Env → Array Value → State → Outcome → State → Prop} (hpost : ∀ tb e args s v u, (limb_1_1.after args s (.returned v) u = true ∧ limb_1_2.after args s (.returned v) u = true ∧ True) → FrameEnd s (.returned v) u (Jvm.fieldLocs frame_1_writes args s ++ Jvm.arrayLocs frame_1_arrays args s ++ Jvm.staticLocs frame_1_statics s) 24 192 → Post tb e args s (.returned v) u) :
    ArmFor flags0 classFile x code maxLocals ret World_1 tables_1 room_1 Calls_1 rest_1 Pre_1 Post := by
  intro l hfl _ _ p e ha hc hk s m args below hf hA hF happ hP
  obtain ⟨hcalls, hrest, hpre⟩ := hP
  obtain ⟨-, -, -, hnamed, -, -, -, hat⟩ := (Spec.applies_iff hf).mp happ
  obtain ⟨hg, hn⟩ := and_e (Cond.before_iff.mp (show (Jvm.Cond.and given_1 narrow_1).before args s = true from hpre))
  obtain ⟨hcount, k0⟩ := and_e hg
  obtain ⟨ka0, k1⟩ := and_e k0
  obtain ⟨ka1, k2⟩ := and_e k1
  obtain ⟨ka2, k3⟩ := and_e k2
  obtain ⟨w0, w1, w2, w3, rfl⟩ : ∃ w0 w1 w2 w3 : Value, args = #[w0, w1, w2, w3] := by
    have hs : args.size = 4 := by simpa [Cond.value, given_1] using hcount
    obtain ⟨L⟩ := args
    match L, hs with
    | [w0, w1, w2, w3], _ => exact ⟨w0, w1, w2, w3, rfl⟩
  have hw := fun d (hd : d ∈ tables_1) => atoms_spec (ws := Jvm.Cond.code x code maxLocals ret :: tables_1) hat d (List.mem_cons_of_mem _ hd)
  have hfit : Fit s := fun {y c} hc i hi => by
    obtain ⟨ha, rfl⟩ := Array.getElem?_eq_some_iff.mp hc
    have q := List.all_eq_true.mp ((Array.all_eq_true_iff_forall_mem.mp hF) _ (Array.getElem_mem ha)) i (List.mem_range.mpr hi)
    simpa [Array.getElem?_eq_getElem hi] using q
  obtain ⟨hsets, hown0⟩ := atoms_of _ (rest_1_c_eq ▸ (show rest_1_c.before _ s = true from hrest))
  have hr0 := Cond.before_iff.mp hown0
  obtain ⟨i0, ei0⟩ := is_v ka0
  obtain rfl : w0 = (.int i0) := Option.some.inj ei0
  obtain ⟨i1, ei1⟩ := is_v ka1
  obtain rfl : w1 = (.int i1) := Option.some.inj ei1
  obtain ⟨i2, ei2⟩ := is_v ka2
  obtain rfl : w2 = (.int i2) := Option.some.inj ei2
  obtain ⟨i3, ei3⟩ := is_v k3
  obtain rfl : w3 = (.int i3) := Option.some.inj ei3
  have z1 := Cond.before_iff.mp (hsets _ (List.mem_of_getElem? (i := 1) rfl))
  obtain ⟨zc, e_c⟩ := is_v z1
  have S_c : Sta s s.heap "java/lang/String" "COMPACT_STRINGS" "Z" (.int zc) := Sta.start e_c (Or.inl (hsets _ (List.mem_of_getElem? (i := 0) rfl)))
  have z2 := not_v (Cond.before_iff.mp (hsets _ (List.mem_of_getElem? (i := 2) rfl)))
  have hzc : ¬ zc = (0 : Int32) := fun q => by
    have t := eq_i e_c (Term.int_eval (0 : Int32)) (by rw [q])
    rw [t] at z2; cases z2
  obtain ⟨nq0, nr0⟩ := and_e hn
  obtain ⟨nq1, nr1⟩ := and_e nr0
  obtain ⟨nq2, nr2⟩ := and_e nr1
  obtain ⟨nq3, nr3⟩ := and_e nr2
  obtain ⟨nq4, nr4⟩ := and_e nr3
  obtain ⟨nq5, nr5⟩ := and_e nr4
  obtain ⟨nq6, nr6⟩ := and_e nr5
  obtain ⟨nq7, nr7⟩ := and_e nr6
  obtain ⟨nq8, nr8⟩ := and_e nr7
  obtain ⟨nq9, nr9⟩ := and_e nr8
  obtain ⟨nq10, nr10⟩ := and_e nr9
  obtain ⟨nq11, nr11⟩ := and_e nr10
  obtain ⟨nq12, nr12⟩ := and_e nr11
  obtain ⟨nq13, nr13⟩ := and_e nr12
  obtain ⟨nq14, nr14⟩ := and_e nr13
  obtain ⟨nq15, nr15⟩ := and_e nr14
  obtain ⟨nq16, nr16⟩ := and_e nr15
  obtain ⟨nq17, nr17⟩ := and_e nr16
  obtain ⟨nq18, nr18⟩ := and_e nr17
  obtain ⟨nq19, nr19⟩ := and_e nr18
  obtain ⟨nq20, nr20⟩ := and_e nr19
  obtain ⟨nq21, nr21⟩ := and_e nr20
  obtain ⟨nq22, nr22⟩ := and_e nr21
  obtain ⟨nq23, nr23⟩ := and_e nr22
  obtain ⟨nq24, nr24⟩ := and_e nr23
  obtain ⟨nq25, nr25⟩ := and_e nr24
  obtain ⟨nq26, nr26⟩ := and_e nr25
  obtain ⟨nq27, nr27⟩ := and_e nr26
  obtain ⟨nq28, nr28⟩ := and_e nr27
  obtain ⟨nq29, nr29⟩ := and_e nr28
  obtain ⟨nq30, nr30⟩ := and_e nr29
  obtain ⟨nq31, nr31⟩ := and_e nr30
  obtain ⟨nq32, nr32⟩ := and_e nr31
  obtain ⟨nq33, nr33⟩ := and_e nr32
  obtain ⟨nq34, nr34⟩ := and_e nr33
  obtain ⟨nq35, nr35⟩ := and_e nr34
  obtain ⟨nq36, nr36⟩ := and_e nr35
  obtain ⟨nq37, nr37⟩ := and_e nr36
  obtain ⟨nq38, nr38⟩ := and_e nr37
  obtain ⟨nq39, nr39⟩ := and_e nr38
  obtain ⟨nq40, nr40⟩ := and_e nr39
  obtain ⟨nq41, nr41⟩ := and_e nr40
  obtain ⟨nq42, nr42⟩ := and_e nr41
  obtain ⟨nq43, nr43⟩ := and_e nr42
  obtain ⟨nq44, nr44⟩ := and_e nr43
  obtain ⟨nq45, nr45⟩ := and_e nr44
  obtain ⟨nq46, nr46⟩ := and_e nr45
  obtain ⟨nq47, nr47⟩ := and_e nr46
  obtain ⟨nq48, nr48⟩ := and_e nr47
  obtain ⟨nq49, nr49⟩ := and_e nr48
  obtain ⟨nq50, nr50⟩ := and_e nr49
  obtain ⟨nq51, nr51⟩ := and_e nr50
  obtain ⟨nq52, nr52⟩ := and_e nr51
  obtain ⟨nq53, nr53⟩ := and_e nr52
  obtain ⟨nq54, nr54⟩ := and_e nr53
  obtain ⟨nq55, nr55⟩ := and_e nr54
  obtain ⟨nq56, nr56⟩ := and_e nr55
  obtain ⟨d0, e_d0⟩ := exa_v nq0
  have S_d0 : Sta s s.heap "com/example/edict4/edict4/policy/Token$Kind" "NAME" "Lcom/example/edict4/edict4/policy/Token$Kind;" (.ref d0) := Sta.start e_d0 (Or.inr ⟨(hw _ (List.mem_of_getElem? (i := 7) rfl)), (hw _ (List.mem_of_getElem? (i := 8) rfl))⟩)
  have E_d0 : Exa s s.heap d0 "com/example/edict4/edict4/policy/Token$Kind" := Exa.start e_d0 nq0
  obtain ⟨d1, e_d1⟩ := exa_v nq1
  have S_d1 : Sta s s.heap "com/example/edict4/edict4/policy/Token$Kind" "STRING" "Lcom/example/edict4/edict4/policy/Token$Kind;" (.ref d1) := Sta.start e_d1 (Or.inr ⟨(hw _ (List.mem_of_getElem? (i := 7) rfl)), (hw _ (List.mem_of_getElem? (i := 11) rfl))⟩)
  have E_d1 : Exa s s.heap d1 "com/example/edict4/edict4/policy/Token$Kind" := Exa.start e_d1 nq1
  obtain ⟨d2, e_d2⟩ := exa_v nq2
  have S_d2 : Sta s s.heap "com/example/edict4/edict4/policy/Token$Kind" "NUMBER" "Lcom/example/edict4/edict4/policy/Token$Kind;" (.ref d2) := Sta.start e_d2 (Or.inr ⟨(hw _ (List.mem_of_getElem? (i := 7) rfl)), (hw _ (List.mem_of_getElem? (i := 13) rfl))⟩)
  have E_d2 : Exa s s.heap d2 "com/example/edict4/edict4/policy/Token$Kind" := Exa.start e_d2 nq2
  obtain ⟨d3, e_d3⟩ := exa_v nq3
  have S_d3 : Sta s s.heap "com/example/edict4/edict4/policy/Token$Kind" "OR" "Lcom/example/edict4/edict4/policy/Token$Kind;" (.ref d3) := Sta.start e_d3 (Or.inr ⟨(hw _ (List.mem_of_getElem? (i := 7) rfl)), (hw _ (List.mem_of_getElem? (i := 15) rfl))⟩)
  have E_d3 : Exa s s.heap d3 "com/example/edict4/edict4/policy/Token$Kind" := Exa.start e_d3 nq3
  obtain ⟨d4, e_d4⟩ := exa_v nq4
  have S_d4 : Sta s s.heap "com/example/edict4/edict4/policy/Token$Kind" "AND" "Lcom/example/edict4/edict4/policy/Token$Kind;" (.ref d4) := Sta.start e_d4 (Or.inr ⟨(hw _ (List.mem_of_getElem? (i := 7) rfl)), (hw _ (List.mem_of_getElem? (i := 17) rfl))⟩)
  have E_d4 : Exa s s.heap d4 "com/example/edict4/edict4/policy/Token$Kind" := Exa.start e_d4 nq4
  obtain ⟨d5, e_d5⟩ := exa_v nq5
  have S_d5 : Sta s s.heap "com/example/edict4/edict4/policy/Token$Kind" "EQUALS" "Lcom/example/edict4/edict4/policy/Token$Kind;" (.ref d5) := Sta.start e_d5 (Or.inr ⟨(hw _ (List.mem_of_getElem? (i := 7) rfl)), (hw _ (List.mem_of_getElem? (i := 19) rfl))⟩)
  have E_d5 : Exa s s.heap d5 "com/example/edict4/edict4/policy/Token$Kind" := Exa.start e_d5 nq5
  obtain ⟨d6, e_d6⟩ := exa_v nq6
  have S_d6 : Sta s s.heap "com/example/edict4/edict4/policy/Token$Kind" "NOT_EQUALS" "Lcom/example/edict4/edict4/policy/Token$Kind;" (.ref d6) := Sta.start e_d6 (Or.inr ⟨(hw _ (List.mem_of_getElem? (i := 7) rfl)), (hw _ (List.mem_of_getElem? (i := 21) rfl))⟩)
  have E_d6 : Exa s s.heap d6 "com/example/edict4/edict4/policy/Token$Kind" := Exa.start e_d6 nq6
  obtain ⟨d7, e_d7⟩ := exa_v nq7
  have S_d7 : Sta s s.heap "com/example/edict4/edict4/policy/Token$Kind" "MATCHES" "Lcom/example/edict4/edict4/policy/Token$Kind;" (.ref d7) := Sta.start e_d7 (Or.inr ⟨(hw _ (List.mem_of_getElem? (i := 7) rfl)), (hw _ (List.mem_of_getElem? (i := 23) rfl))⟩)
  have E_d7 : Exa s s.heap d7 "com/example/edict4/edict4/policy/Token$Kind" := Exa.start e_d7 nq7
  obtain ⟨d8, e_d8⟩ := exa_v nq8
  have S_d8 : Sta s s.heap "com/example/edict4/edict4/policy/Token$Kind" "LESS" "Lcom/example/edict4/edict4/policy/Token$Kind;" (.ref d8) := Sta.start e_d8 (Or.inr ⟨(hw _ (List.mem_of_getElem? (i := 7) rfl)), (hw _ (List.mem_of_getElem? (i := 25) rfl))⟩)
  have E_d8 : Exa s s.heap d8 "com/example/edict4/edict4/policy/Token$Kind" := Exa.start e_d8 nq8
  obtain ⟨d9, e_d9⟩ := exa_v nq9
  have S_d9 : Sta s s.heap "com/example/edict4/edict4/policy/Token$Kind" "LESS_OR_EQUAL" "Lcom/example/edict4/edict4/policy/Token$Kind;" (.ref d9) := Sta.start e_d9 (Or.inr ⟨(hw _ (List.mem_of_getElem? (i := 7) rfl)), (hw _ (List.mem_of_getElem? (i := 27) rfl))⟩)
  have E_d9 : Exa s s.heap d9 "com/example/edict4/edict4/policy/Token$Kind" := Exa.start e_d9 nq9
  obtain ⟨d10, e_d10⟩ := exa_v nq10
  have S_d10 : Sta s s.heap "com/example/edict4/edict4/policy/Token$Kind" "GREATER" "Lcom/example/edict4/edict4/policy/Token$Kind;" (.ref d10) := Sta.start e_d10 (Or.inr ⟨(hw _ (List.mem_of_getElem? (i := 7) rfl)), (hw _ (List.mem_of_getElem? (i := 29) rfl))⟩)
  have E_d10 : Exa s s.heap d10 "com/example/edict4/edict4/policy/Token$Kind" := Exa.start e_d10 nq10
  obtain ⟨d11, e_d11⟩ := exa_v nq11
  have S_d11 : Sta s s.heap "com/example/edict4/edict4/policy/Token$Kind" "GREATER_OR_EQUAL" "Lcom/example/edict4/edict4/policy/Token$Kind;" (.ref d11) := Sta.start e_d11 (Or.inr ⟨(hw _ (List.mem_of_getElem? (i := 7) rfl)), (hw _ (List.mem_of_getElem? (i := 31) rfl))⟩)
  have E_d11 : Exa s s.heap d11 "com/example/edict4/edict4/policy/Token$Kind" := Exa.start e_d11 nq11
  obtain ⟨d12, e_d12⟩ := exa_v nq12
  have S_d12 : Sta s s.heap "com/example/edict4/edict4/policy/Token$Kind" "NOT" "Lcom/example/edict4/edict4/policy/Token$Kind;" (.ref d12) := Sta.start e_d12 (Or.inr ⟨(hw _ (List.mem_of_getElem? (i := 7) rfl)), (hw _ (List.mem_of_getElem? (i := 33) rfl))⟩)
  have E_d12 : Exa s s.heap d12 "com/example/edict4/edict4/policy/Token$Kind" := Exa.start e_d12 nq12
  obtain ⟨d13, e_d13⟩ := exa_v nq13
  have S_d13 : Sta s s.heap "com/example/edict4/edict4/policy/Token$Kind" "PLUS" "Lcom/example/edict4/edict4/policy/Token$Kind;" (.ref d13) := Sta.start e_d13 (Or.inr ⟨(hw _ (List.mem_of_getElem? (i := 7) rfl)), (hw _ (List.mem_of_getElem? (i := 35) rfl))⟩)
  have E_d13 : Exa s s.heap d13 "com/example/edict4/edict4/policy/Token$Kind" := Exa.start e_d13 nq13
  obtain ⟨d14, e_d14⟩ := exa_v nq14
  have S_d14 : Sta s s.heap "com/example/edict4/edict4/policy/Token$Kind" "MINUS" "Lcom/example/edict4/edict4/policy/Token$Kind;" (.ref d14) := Sta.start e_d14 (Or.inr ⟨(hw _ (List.mem_of_getElem? (i := 7) rfl)), (hw _ (List.mem_of_getElem? (i := 37) rfl))⟩)
  have E_d14 : Exa s s.heap d14 "com/example/edict4/edict4/policy/Token$Kind" := Exa.start e_d14 nq14
  obtain ⟨d15, e_d15⟩ := exa_v nq15
  have S_d15 : Sta s s.heap "com/example/edict4/edict4/policy/Token$Kind" "TIMES" "Lcom/example/edict4/edict4/policy/Token$Kind;" (.ref d15) := Sta.start e_d15 (Or.inr ⟨(hw _ (List.mem_of_getElem? (i := 7) rfl)), (hw _ (List.mem_of_getElem? (i := 39) rfl))⟩)
  have E_d15 : Exa s s.heap d15 "com/example/edict4/edict4/policy/Token$Kind" := Exa.start e_d15 nq15
  obtain ⟨d16, e_d16⟩ := exa_v nq16
  have S_d16 : Sta s s.heap "com/example/edict4/edict4/policy/Token$Kind" "DIVIDE" "Lcom/example/edict4/edict4/policy/Token$Kind;" (.ref d16) := Sta.start e_d16 (Or.inr ⟨(hw _ (List.mem_of_getElem? (i := 7) rfl)), (hw _ (List.mem_of_getElem? (i := 41) rfl))⟩)
  have E_d16 : Exa s s.heap d16 "com/example/edict4/edict4/policy/Token$Kind" := Exa.start e_d16 nq16
  obtain ⟨d17, e_d17⟩ := exa_v nq17
  have S_d17 : Sta s s.heap "com/example/edict4/edict4/policy/Token$Kind" "REMAINDER" "Lcom/example/edict4/edict4/policy/Token$Kind;" (.ref d17) := Sta.start e_d17 (Or.inr ⟨(hw _ (List.mem_of_getElem? (i := 7) rfl)), (hw _ (List.mem_of_getElem? (i := 43) rfl))⟩)
  have E_d17 : Exa s s.heap d17 "com/example/edict4/edict4/policy/Token$Kind" := Exa.start e_d17 nq17
  obtain ⟨d18, e_d18⟩ := exa_v nq18
  have S_d18 : Sta s s.heap "com/example/edict4/edict4/policy/Token$Kind" "DOT" "Lcom/example/edict4/edict4/policy/Token$Kind;" (.ref d18) := Sta.start e_d18 (Or.inr ⟨(hw _ (List.mem_of_getElem? (i := 7) rfl)), (hw _ (List.mem_of_getElem? (i := 45) rfl))⟩)
  have E_d18 : Exa s s.heap d18 "com/example/edict4/edict4/policy/Token$Kind" := Exa.start e_d18 nq18
  obtain ⟨d19, e_d19⟩ := exa_v nq19
  have S_d19 : Sta s s.heap "com/example/edict4/edict4/policy/Token$Kind" "SEMICOLON" "Lcom/example/edict4/edict4/policy/Token$Kind;" (.ref d19) := Sta.start e_d19 (Or.inr ⟨(hw _ (List.mem_of_getElem? (i := 7) rfl)), (hw _ (List.mem_of_getElem? (i := 47) rfl))⟩)
  have E_d19 : Exa s s.heap d19 "com/example/edict4/edict4/policy/Token$Kind" := Exa.start e_d19 nq19
  obtain ⟨d20, e_d20⟩ := exa_v nq20
  have S_d20 : Sta s s.heap "com/example/edict4/edict4/policy/Token$Kind" "COMMA" "Lcom/example/edict4/edict4/policy/Token$Kind;" (.ref d20) := Sta.start e_d20 (Or.inr ⟨(hw _ (List.mem_of_getElem? (i := 7) rfl)), (hw _ (List.mem_of_getElem? (i := 49) rfl))⟩)
  have E_d20 : Exa s s.heap d20 "com/example/edict4/edict4/policy/Token$Kind" := Exa.start e_d20 nq20
  obtain ⟨d21, e_d21⟩ := exa_v nq21
  have S_d21 : Sta s s.heap "com/example/edict4/edict4/policy/Token$Kind" "COLON" "Lcom/example/edict4/edict4/policy/Token$Kind;" (.ref d21) := Sta.start e_d21 (Or.inr ⟨(hw _ (List.mem_of_getElem? (i := 7) rfl)), (hw _ (List.mem_of_getElem? (i := 51) rfl))⟩)
  have E_d21 : Exa s s.heap d21 "com/example/edict4/edict4/policy/Token$Kind" := Exa.start e_d21 nq21
  obtain ⟨d22, e_d22⟩ := exa_v nq22
  have S_d22 : Sta s s.heap "com/example/edict4/edict4/policy/Token$Kind" "LEFT_PAREN" "Lcom/example/edict4/edict4/policy/Token$Kind;" (.ref d22) := Sta.start e_d22 (Or.inr ⟨(hw _ (List.mem_of_getElem? (i := 7) rfl)), (hw _ (List.mem_of_getElem? (i := 53) rfl))⟩)
  have E_d22 : Exa s s.heap d22 "com/example/edict4/edict4/policy/Token$Kind" := Exa.start e_d22 nq22
  obtain ⟨d23, e_d23⟩ := exa_v nq23
  have S_d23 : Sta s s.heap "com/example/edict4/edict4/policy/Token$Kind" "RIGHT_PAREN" "Lcom/example/edict4/edict4/policy/Token$Kind;" (.ref d23) := Sta.start e_d23 (Or.inr ⟨(hw _ (List.mem_of_getElem? (i := 7) rfl)), (hw _ (List.mem_of_getElem? (i := 55) rfl))⟩)
  have E_d23 : Exa s s.heap d23 "com/example/edict4/edict4/policy/Token$Kind" := Exa.start e_d23 nq23
  obtain ⟨d24, e_d24⟩ := exa_v nq24
  have S_d24 : Sta s s.heap "com/example/edict4/edict4/policy/Token$Kind" "LEFT_BRACE" "Lcom/example/edict4/edict4/policy/Token$Kind;" (.ref d24) := Sta.start e_d24 (Or.inr ⟨(hw _ (List.mem_of_getElem? (i := 7) rfl)), (hw _ (List.mem_of_getElem? (i := 57) rfl))⟩)
  have E_d24 : Exa s s.heap d24 "com/example/edict4/edict4/policy/Token$Kind" := Exa.start e_d24 nq24
  obtain ⟨d25, e_d25⟩ := exa_v nq25
  have S_d25 : Sta s s.heap "com/example/edict4/edict4/policy/Token$Kind" "RIGHT_BRACE" "Lcom/example/edict4/edict4/policy/Token$Kind;" (.ref d25) := Sta.start e_d25 (Or.inr ⟨(hw _ (List.mem_of_getElem? (i := 7) rfl)), (hw _ (List.mem_of_getElem? (i := 59) rfl))⟩)
  have E_d25 : Exa s s.heap d25 "com/example/edict4/edict4/policy/Token$Kind" := Exa.start e_d25 nq25
  obtain ⟨d26, e_d26⟩ := exa_v nq26
  have S_d26 : Sta s s.heap "com/example/edict4/edict4/policy/Token$Kind" "LEFT_BRACKET" "Lcom/example/edict4/edict4/policy/Token$Kind;" (.ref d26) := Sta.start e_d26 (Or.inr ⟨(hw _ (List.mem_of_getElem? (i := 7) rfl)), (hw _ (List.mem_of_getElem? (i := 61) rfl))⟩)
  have E_d26 : Exa s s.heap d26 "com/example/edict4/edict4/policy/Token$Kind" := Exa.start e_d26 nq26
  obtain ⟨d27, e_d27⟩ := exa_v nq27
  have S_d27 : Sta s s.heap "com/example/edict4/edict4/policy/Token$Kind" "RIGHT_BRACKET" "Lcom/example/edict4/edict4/policy/Token$Kind;" (.ref d27) := Sta.start e_d27 (Or.inr ⟨(hw _ (List.mem_of_getElem? (i := 7) rfl)), (hw _ (List.mem_of_getElem? (i := 63) rfl))⟩)
  have E_d27 : Exa s s.heap d27 "com/example/edict4/edict4/policy/Token$Kind" := Exa.start e_d27 nq27
  obtain ⟨d28, e_d28⟩ := exa_v nq28
  have S_d28 : Sta s s.heap "com/example/edict4/edict4/policy/Token$Kind" "END" "Lcom/example/edict4/edict4/policy/Token$Kind;" (.ref d28) := Sta.start e_d28 (Or.inr ⟨(hw _ (List.mem_of_getElem? (i := 7) rfl)), (hw _ (List.mem_of_getElem? (i := 65) rfl))⟩)
  have E_d28 : Exa s s.heap d28 "com/example/edict4/edict4/policy/Token$Kind" := Exa.start e_d28 nq28
  have F_d0_ordinal : Fld s s.heap d0 "java/lang/Enum" "ordinal" "I" (.int (0 : Int32)) := Fld.start (by rw [← fld_at e_d0]; exact own_eqI nq29)
  have F_d3_ordinal : Fld s s.heap d3 "java/lang/Enum" "ordinal" "I" (.int (3 : Int32)) := Fld.start (by rw [← fld_at e_d3]; exact own_eqI nq30)
  have F_d12_ordinal : Fld s s.heap d12 "java/lang/Enum" "ordinal" "I" (.int (12 : Int32)) := Fld.start (by rw [← fld_at e_d12]; exact own_eqI nq31)
  have F_d4_ordinal : Fld s s.heap d4 "java/lang/Enum" "ordinal" "I" (.int (4 : Int32)) := Fld.start (by rw [← fld_at e_d4]; exact own_eqI nq32)
  have F_d28_ordinal : Fld s s.heap d28 "java/lang/Enum" "ordinal" "I" (.int (28 : Int32)) := Fld.start (by rw [← fld_at e_d28]; exact own_eqI nq33)
  have F_d1_ordinal : Fld s s.heap d1 "java/lang/Enum" "ordinal" "I" (.int (1 : Int32)) := Fld.start (by rw [← fld_at e_d1]; exact own_eqI nq34)
  have F_d8_ordinal : Fld s s.heap d8 "java/lang/Enum" "ordinal" "I" (.int (8 : Int32)) := Fld.start (by rw [← fld_at e_d8]; exact own_eqI nq35)
  have F_d5_ordinal : Fld s s.heap d5 "java/lang/Enum" "ordinal" "I" (.int (5 : Int32)) := Fld.start (by rw [← fld_at e_d5]; exact own_eqI nq36)
  have F_d13_ordinal : Fld s s.heap d13 "java/lang/Enum" "ordinal" "I" (.int (13 : Int32)) := Fld.start (by rw [← fld_at e_d13]; exact own_eqI nq37)
  have F_d21_ordinal : Fld s s.heap d21 "java/lang/Enum" "ordinal" "I" (.int (21 : Int32)) := Fld.start (by rw [← fld_at e_d21]; exact own_eqI nq38)
  have F_d19_ordinal : Fld s s.heap d19 "java/lang/Enum" "ordinal" "I" (.int (19 : Int32)) := Fld.start (by rw [← fld_at e_d19]; exact own_eqI nq39)
  have F_d16_ordinal : Fld s s.heap d16 "java/lang/Enum" "ordinal" "I" (.int (16 : Int32)) := Fld.start (by rw [← fld_at e_d16]; exact own_eqI nq40)
  have F_d7_ordinal : Fld s s.heap d7 "java/lang/Enum" "ordinal" "I" (.int (7 : Int32)) := Fld.start (by rw [← fld_at e_d7]; exact own_eqI nq41)
  have F_d15_ordinal : Fld s s.heap d15 "java/lang/Enum" "ordinal" "I" (.int (15 : Int32)) := Fld.start (by rw [← fld_at e_d15]; exact own_eqI nq42)
  have F_d18_ordinal : Fld s s.heap d18 "java/lang/Enum" "ordinal" "I" (.int (18 : Int32)) := Fld.start (by rw [← fld_at e_d18]; exact own_eqI nq43)
  have F_d10_ordinal : Fld s s.heap d10 "java/lang/Enum" "ordinal" "I" (.int (10 : Int32)) := Fld.start (by rw [← fld_at e_d10]; exact own_eqI nq44)
  have F_d2_ordinal : Fld s s.heap d2 "java/lang/Enum" "ordinal" "I" (.int (2 : Int32)) := Fld.start (by rw [← fld_at e_d2]; exact own_eqI nq45)
  have F_d20_ordinal : Fld s s.heap d20 "java/lang/Enum" "ordinal" "I" (.int (20 : Int32)) := Fld.start (by rw [← fld_at e_d20]; exact own_eqI nq46)
  have F_d9_ordinal : Fld s s.heap d9 "java/lang/Enum" "ordinal" "I" (.int (9 : Int32)) := Fld.start (by rw [← fld_at e_d9]; exact own_eqI nq47)
  have F_d24_ordinal : Fld s s.heap d24 "java/lang/Enum" "ordinal" "I" (.int (24 : Int32)) := Fld.start (by rw [← fld_at e_d24]; exact own_eqI nq48)
  have F_d17_ordinal : Fld s s.heap d17 "java/lang/Enum" "ordinal" "I" (.int (17 : Int32)) := Fld.start (by rw [← fld_at e_d17]; exact own_eqI nq49)
  have F_d6_ordinal : Fld s s.heap d6 "java/lang/Enum" "ordinal" "I" (.int (6 : Int32)) := Fld.start (by rw [← fld_at e_d6]; exact own_eqI nq50)
  have F_d23_ordinal : Fld s s.heap d23 "java/lang/Enum" "ordinal" "I" (.int (23 : Int32)) := Fld.start (by rw [← fld_at e_d23]; exact own_eqI nq51)
  have F_d22_ordinal : Fld s s.heap d22 "java/lang/Enum" "ordinal" "I" (.int (22 : Int32)) := Fld.start (by rw [← fld_at e_d22]; exact own_eqI nq52)
  have F_d27_ordinal : Fld s s.heap d27 "java/lang/Enum" "ordinal" "I" (.int (27 : Int32)) := Fld.start (by rw [← fld_at e_d27]; exact own_eqI nq53)
  have F_d14_ordinal : Fld s s.heap d14 "java/lang/Enum" "ordinal" "I" (.int (14 : Int32)) := Fld.start (by rw [← fld_at e_d14]; exact own_eqI nq54)
  have F_d25_ordinal : Fld s s.heap d25 "java/lang/Enum" "ordinal" "I" (.int (25 : Int32)) := Fld.start (by rw [← fld_at e_d25]; exact own_eqI nq55)
  have F_d11_ordinal : Fld s s.heap d11 "java/lang/Enum" "ordinal" "I" (.int (11 : Int32)) := Fld.start (by rw [← fld_at e_d11]; exact own_eqI nq56)
  have F_d26_ordinal : Fld s s.heap d26 "java/lang/Enum" "ordinal" "I" (.int (26 : Int32)) := Fld.start (by rw [← fld_at e_d26]; exact own_eqI nr56)
  obtain ⟨n, o, h1, h2, h3, _, L, rfl, ⟨N, _, rfl, rfl⟩, hq⟩ := rm0 (l := l) hw (Nat.le_refl s.heap.size) i0 i1 i2 i3 (Nat.le_refl _) S_c hzc S_d0 E_d0 S_d1 E_d1 S_d2 E_d2 S_d3 E_d3 S_d4 E_d4 S_d5 E_d5 S_d6 E_d6 S_d7 E_d7 S_d8 E_d8 S_d9 E_d9 S_d10 E_d10 S_d11 E_d11 S_d12 E_d12 S_d13 E_d13 S_d14 E_d14 S_d15 E_d15 S_d16 E_d16 S_d17 E_d17 S_d18 E_d18 S_d19 E_d19 S_d20 E_d20 S_d21 E_d21 S_d22 E_d22 S_d23 E_d23 S_d24 E_d24 S_d25 E_d25 S_d26 E_d26 S_d27 E_d27 S_d28 E_d28 F_d0_ordinal F_d3_ordinal F_d12_ordinal F_d4_ordinal F_d28_ordinal F_d1_ordinal F_d8_ordinal F_d5_ordinal F_d13_ordinal F_d21_ordinal F_d19_ordinal F_d16_ordinal F_d7_ordinal F_d15_ordinal F_d18_ordinal F_d10_ordinal F_d2_ordinal F_d20_ordinal F_d9_ordinal F_d24_ordinal F_d17_ordinal F_d6_ordinal F_d23_ordinal F_d22_ordinal F_d27_ordinal F_d14_ordinal F_d25_ordinal F_d11_ordinal F_d26_ordinal tables_1 p e ha hc hk s m _ below hf ((Spec.applies_iff_loose hf).mp happ).1 ⟨rfl, State.Warmed39.refl s, rfl⟩ trivial
  exact ⟨n, _, h1, h2, h3, hpost _ _ _ _ _ _ ⟨Cond.after_iff.mpr rfl, Cond.after_iff.mpr (eq_i res_at (Term.int_eval (1)) rfl), trivial⟩ ⟨hq.1, hq.2.1, (hq.2.2.sift fun y hy => Or.inr (N y hy)).mono (by decide) (by decide)⟩⟩
theorem main_1_1 : Claimed_1_1 := comes_1 fun _ _ _ _ _ _ h hF => ⟨h.1, hF⟩
theorem main_1_2 : Claimed_1_2 := comes_1 fun _ _ _ _ _ _ h hF => ⟨h.2.1, hF⟩
end Jvm.Pilot.@@N@@
namespace Jvm.Pilot.@@N@@
open Jvm Jvm.ClassFile Sem Op Lib Jvm.Free Jvm.Stand Jvm.Pilot.@@N@@.Jvm.D
/-! MADE BY PROGRAM (witnessworld.py) out of the Statement's table words and the real class files: 23 classes; the members and pool entries that the words name. The judged class is class 1, her method 2. -/
namespace start1
open Jvm.ClassFile
def u (s : String) : CpInfo := .utf8 (stringToUtf16 s)
/-- a pool by its gaps: so many unusable entries, then the entry; so many at the end -/
def gap : Nat → List CpInfo → List CpInfo
  | 0, r => r
  | n + 1, r => .unusable :: gap n r
def poolList (es : List (Nat × CpInfo)) (last : Nat) : List CpInfo := es.foldr (fun e r => gap e.1 (e.2 :: r)) (gap last [])
def pool (es : List (Nat × CpInfo)) (last : Nat) : Array CpInfo := ⟨poolList es last⟩
def fileOf (pool : Array CpInfo) (this : Nat) (attrs : Array Attribute := #[]) (ms : Array MethodInfo := #[]) (fl : Nat := 33) (sup : Nat := 0) (ifs : Array Nat := #[]) (fds : Array FieldInfo := #[]) : ClassFile where
  minorVersion := 0
  majorVersion := 65
  constantPool := pool
  accessFlags := fl
  thisClass := this
  superClass := sup
  interfaces := ifs
  fields := fds
  methods := ms
  attributes := attrs
def plain (name : String) (sup : Option ClassId) : Class where
  name := name
  kind := .ordinary
  loader := none
  accessFlags := 33
  super := sup
  interfaces := #[]
  cf := none
  fields := #[]
  methods := #[]
  instanceTypes := #[]
  staticTypes := #[]
  resolved := #[]
  callSites := []
  init := .initialized
  statics := none
  mirror := none

def pool0 : Array CpInfo := pool [(5, u "<init>"), (0, u "()V"), (1, .class_ 10), (1, u "java/lang/Object")] 113

def k0c0 : Code := { maxStack := 0, maxLocals := 1, code := object_method_1_code, exceptionTable := #[], attributes := #[] }
def k0m0 : Method := { name := "<init>", desc := "()V", sig := { parameters := [], returnType := none }, accessFlags := 1, code := some k0c0 }
/-- java/lang/Object -/
def k0 : Class := { plain "java/lang/Object" none with
  accessFlags := 33
  interfaces := #[]
  cf := some (fileOf pool0 8 #[] #[{ accessFlags := 1, nameIndex := 5, descriptorIndex := 6, attributes := #[] }] 33 0 #[] #[])
  fields := #[]
  methods := #[k0m0]
  instanceTypes := #[]
  staticTypes := #[]
  resolved := Array.replicate 124 none
  statics := none }

def pool1 : Array CpInfo := pool [(2, .class_ 4), (1, u "java/lang/Object"), (0, u "<init>"), (0, u "()V"), (0, .class_ 8), (0, u "com/example/edict4/edict4/policy/Token$Kind"), (0, .fieldref 7 10), (0, .nameAndType 11 12), (0, u "NAME"), (0, u "Lcom/example/edict4/edict4/policy/Token$Kind;"), (0, .fieldref 7 14), (0, .nameAndType 15 12), (0, u "STRING"), (0, .fieldref 7 17), (0, .nameAndType 18 12), (0, u "NUMBER"), (0, .fieldref 7 20), (0, .nameAndType 21 12), (0, u "OR"), (0, .fieldref 7 23), (0, .nameAndType 24 12), (0, u "AND"), (0, .fieldref 7 26), (0, .nameAndType 27 12), (0, u "EQUALS"), (0, .fieldref 7 29), (0, .nameAndType 30 12), (0, u "NOT_EQUALS"), (0, .fieldref 7 32), (0, .nameAndType 33 12), (0, u "MATCHES"), (0, .fieldref 7 35), (0, .nameAndType 36 12), (0, u "LESS"), (0, .fieldref 7 38), (0, .nameAndType 39 12), (0, u "LESS_OR_EQUAL"), (0, .fieldref 7 41), (0, .nameAndType 42 12), (0, u "GREATER"), (0, .fieldref 7 44), (0, .nameAndType 45 12), (0, u "GREATER_OR_EQUAL"), (0, .fieldref 7 47), (0, .nameAndType 48 12), (0, u "NOT"), (0, .fieldref 7 50), (0, .nameAndType 51 12), (0, u "PLUS"), (0, .fieldref 7 53), (0, .nameAndType 54 12), (0, u "MINUS"), (0, .fieldref 7 56), (0, .nameAndType 57 12), (0, u "TIMES"), (0, .fieldref 7 59), (0, .nameAndType 60 12), (0, u "DIVIDE"), (0, .fieldref 7 62), (0, .nameAndType 63 12), (0, u "REMAINDER"), (0, .fieldref 7 65), (0, .nameAndType 66 12), (0, u "DOT"), (0, .fieldref 7 68), (0, .nameAndType 69 12), (0, u "SEMICOLON"), (0, .fieldref 7 71), (0, .nameAndType 72 12), (0, u "COMMA"), (0, .fieldref 7 74), (0, .nameAndType 75 12), (0, u "COLON"), (0, .fieldref 7 77), (0, .nameAndType 78 12), (0, u "LEFT_PAREN"), (0, .fieldref 7 80), (0, .nameAndType 81 12), (0, u "RIGHT_PAREN"), (0, .fieldref 7 83), (0, .nameAndType 84 12), (0, u "LEFT_BRACE"), (0, .fieldref 7 86), (0, .nameAndType 87 12), (0, u "RIGHT_BRACE"), (0, .fieldref 7 89), (0, .nameAndType 90 12), (0, u "LEFT_BRACKET"), (0, .fieldref 7 92), (0, .nameAndType 93 12), (0, u "RIGHT_BRACKET"), (0, .fieldref 7 95), (0, .nameAndType 96 12), (0, u "END"), (0, .methodref 98 99), (0, .class_ 100), (0, .nameAndType 101 102), (0, u "com/example/edict4/edict4/policy/TokenIsPinLaw"), (0, u "kinds"), (0, u "()[Lcom/example/edict4/edict4/policy/Token$Kind;"), (0, .integer 2147483647), (0, .class_ 105), (0, u "java/lang/String"), (0, .methodref 104 107), (0, .nameAndType 5 108), (0, u "([C)V"), (0, .class_ 110), (0, u "com/example/edict4/edict4/policy/Token"), (0, .methodref 109 112), (0, .nameAndType 5 113), (0, u "(Lcom/example/edict4/edict4/policy/Token$Kind;Ljava/lang/String;I)V"), (0, .methodref 109 115), (0, .nameAndType 116 117), (0, u "is"), (0, u "(Lcom/example/edict4/edict4/policy/Token$Kind;)Z"), (2, u "law"), (0, u "(IIII)Z")] 9

def k1m0 : Method := { name := "<init>", desc := "()V", sig := { parameters := [], returnType := none }, accessFlags := 1, code := none }
def k1c1 : Code := { maxStack := 4, maxLocals := 1, code := method_2_code, exceptionTable := #[], attributes := #[] }
def k1m1 : Method := { name := "kinds", desc := "()[Lcom/example/edict4/edict4/policy/Token$Kind;", sig := { parameters := [], returnType := some (.array (.object "com/example/edict4/edict4/policy/Token$Kind")) }, accessFlags := 10, code := some k1c1 }
def k1c2 : Code := { maxStack := 5, maxLocals := 12, code := code, exceptionTable := #[], attributes := #[] }
def k1m2 : Method := { name := "law", desc := "(IIII)Z", sig := { parameters := [.int, .int, .int, .int], returnType := some .boolean }, accessFlags := 9, code := some k1c2 }
/-- com/example/edict4/edict4/policy/TokenIsPinLaw -/
def k1 : Class := { plain "com/example/edict4/edict4/policy/TokenIsPinLaw" (some 0) with
  accessFlags := 49
  interfaces := #[]
  cf := some (fileOf pool1 98 #[] #[{ accessFlags := 1, nameIndex := 5, descriptorIndex := 6, attributes := #[] }, { accessFlags := 10, nameIndex := 101, descriptorIndex := 102, attributes := #[] }, { accessFlags := 9, nameIndex := 120, descriptorIndex := 121, attributes := #[] }] 49 2 #[] #[])
  fields := #[]
  methods := #[k1m0, k1m1, k1m2]
  instanceTypes := #[]
  staticTypes := #[]
  resolved := Array.replicate 131 none
  statics := none }

def pool2 : Array CpInfo := pool [(1, .class_ 2), (0, u "java/lang/constant/Constable"), (0, .class_ 4), (0, u "java/lang/Object")] 6

/-- java/lang/constant/Constable -/
def k2 : Class := { plain "java/lang/constant/Constable" (some 0) with
  accessFlags := 1537
  interfaces := #[]
  cf := some (fileOf pool2 1 #[] #[] 1537 3 #[] #[])
  fields := #[]
  methods := #[]
  instanceTypes := #[]
  staticTypes := #[]
  resolved := Array.replicate 11 none
  statics := none }

def pool3 : Array CpInfo := pool [(1, .class_ 2), (0, u "java/lang/Comparable"), (0, .class_ 4), (0, u "java/lang/Object")] 7

/-- java/lang/Comparable -/
def k3 : Class := { plain "java/lang/Comparable" (some 0) with
  accessFlags := 1537
  interfaces := #[]
  cf := some (fileOf pool3 1 #[] #[] 1537 3 #[] #[])
  fields := #[]
  methods := #[]
  instanceTypes := #[]
  staticTypes := #[]
  resolved := Array.replicate 12 none
  statics := none }

def pool4 : Array CpInfo := pool [(1, .class_ 2), (0, u "java/io/Serializable"), (0, .class_ 4), (0, u "java/lang/Object")] 2

/-- java/io/Serializable -/
def k4 : Class := { plain "java/io/Serializable" (some 0) with
  accessFlags := 1537
  interfaces := #[]
  cf := some (fileOf pool4 1 #[] #[] 1537 3 #[] #[])
  fields := #[]
  methods := #[]
  instanceTypes := #[]
  staticTypes := #[]
  resolved := Array.replicate 7 none
  statics := none }

def pool5 : Array CpInfo := pool [(2, .class_ 4), (1, u "java/lang/Enum"), (0, u "name"), (0, u "Ljava/lang/String;"), (2, u "ordinal"), (0, u "I"), (1, .class_ 14), (1, u "java/lang/Object"), (4, u "hash"), (86, .class_ 108), (1, u "java/lang/Enum$EnumDesc"), (2, .class_ 112), (0, u "java/lang/constant/Constable"), (0, .class_ 114), (0, u "java/lang/Comparable"), (0, .class_ 116), (0, u "java/io/Serializable")] 87

/-- java/lang/Enum -/
def k5 : Class := { plain "java/lang/Enum" (some 0) with
  accessFlags := 1057
  interfaces := #[2, 3, 4]
  cf := some (fileOf pool5 2 #[.nestMembers #[106]] #[] 1057 12 #[111, 113, 115] #[{ accessFlags := 18, nameIndex := 5, descriptorIndex := 6, attributes := #[] }, { accessFlags := 18, nameIndex := 9, descriptorIndex := 10, attributes := #[] }, { accessFlags := 2, nameIndex := 19, descriptorIndex := 10, attributes := #[] }])
  fields := #[{ name := "name", type := (.object "java/lang/String"), accessFlags := 18, slot := 0, constantValue := 0 }, { name := "ordinal", type := .int, accessFlags := 18, slot := 1, constantValue := 0 }, { name := "hash", type := .int, accessFlags := 2, slot := 2, constantValue := 0 }]
  methods := #[]
  instanceTypes := #[(.object "java/lang/String"), .int, .int]
  staticTypes := #[]
  resolved := Array.replicate 204 none
  statics := none }

def pool6 : Array CpInfo := pool [(1, .class_ 2), (0, u "com/example/edict4/edict4/policy/Token$Kind"), (2, u "NAME"), (0, u "Lcom/example/edict4/edict4/policy/Token$Kind;"), (2, u "STRING"), (2, u "NUMBER"), (2, u "OR"), (2, u "AND"), (2, u "EQUALS"), (2, u "NOT_EQUALS"), (2, u "MATCHES"), (2, u "LESS"), (2, u "LESS_OR_EQUAL"), (2, u "GREATER"), (2, u "GREATER_OR_EQUAL"), (2, u "NOT"), (2, u "PLUS"), (2, u "MINUS"), (2, u "TIMES"), (2, u "DIVIDE"), (2, u "REMAINDER"), (2, u "DOT"), (2, u "SEMICOLON"), (2, u "COMMA"), (2, u "COLON"), (2, u "LEFT_PAREN"), (2, u "RIGHT_PAREN"), (2, u "LEFT_BRACE"), (2, u "RIGHT_BRACE"), (2, u "LEFT_BRACKET"), (2, u "RIGHT_BRACKET"), (2, u "END"), (2, u "$VALUES"), (0, u "[Lcom/example/edict4/edict4/policy/Token$Kind;"), (6, .class_ 103), (1, u "java/lang/Enum"), (14, u "mSymbols"), (0, u "Ljava/util/List;"), (115, .class_ 236), (0, u "com/example/edict4/edict4/policy/Token")] 2

/-- com/example/edict4/edict4/policy/Token$Kind -/
def k6 : Class := { plain "com/example/edict4/edict4/policy/Token$Kind" (some 5) with
  accessFlags := 16432
  interfaces := #[]
  cf := some (fileOf pool6 1 #[.nestHost 235] #[] 16432 101 #[] #[{ accessFlags := 16409, nameIndex := 5, descriptorIndex := 6, attributes := #[] }, { accessFlags := 16409, nameIndex := 9, descriptorIndex := 6, attributes := #[] }, { accessFlags := 16409, nameIndex := 12, descriptorIndex := 6, attributes := #[] }, { accessFlags := 16409, nameIndex := 15, descriptorIndex := 6, attributes := #[] }, { accessFlags := 16409, nameIndex := 18, descriptorIndex := 6, attributes := #[] }, { accessFlags := 16409, nameIndex := 21, descriptorIndex := 6, attributes := #[] }, { accessFlags := 16409, nameIndex := 24, descriptorIndex := 6, attributes := #[] }, { accessFlags := 16409, nameIndex := 27, descriptorIndex := 6, attributes := #[] }, { accessFlags := 16409, nameIndex := 30, descriptorIndex := 6, attributes := #[] }, { accessFlags := 16409, nameIndex := 33, descriptorIndex := 6, attributes := #[] }, { accessFlags := 16409, nameIndex := 36, descriptorIndex := 6, attributes := #[] }, { accessFlags := 16409, nameIndex := 39, descriptorIndex := 6, attributes := #[] }, { accessFlags := 16409, nameIndex := 42, descriptorIndex := 6, attributes := #[] }, { accessFlags := 16409, nameIndex := 45, descriptorIndex := 6, attributes := #[] }, { accessFlags := 16409, nameIndex := 48, descriptorIndex := 6, attributes := #[] }, { accessFlags := 16409, nameIndex := 51, descriptorIndex := 6, attributes := #[] }, { accessFlags := 16409, nameIndex := 54, descriptorIndex := 6, attributes := #[] }, { accessFlags := 16409, nameIndex := 57, descriptorIndex := 6, attributes := #[] }, { accessFlags := 16409, nameIndex := 60, descriptorIndex := 6, attributes := #[] }, { accessFlags := 16409, nameIndex := 63, descriptorIndex := 6, attributes := #[] }, { accessFlags := 16409, nameIndex := 66, descriptorIndex := 6, attributes := #[] }, { accessFlags := 16409, nameIndex := 69, descriptorIndex := 6, attributes := #[] }, { accessFlags := 16409, nameIndex := 72, descriptorIndex := 6, attributes := #[] }, { accessFlags := 16409, nameIndex := 75, descriptorIndex := 6, attributes := #[] }, { accessFlags := 16409, nameIndex := 78, descriptorIndex := 6, attributes := #[] }, { accessFlags := 16409, nameIndex := 81, descriptorIndex := 6, attributes := #[] }, { accessFlags := 16409, nameIndex := 84, descriptorIndex := 6, attributes := #[] }, { accessFlags := 16409, nameIndex := 87, descriptorIndex := 6, attributes := #[] }, { accessFlags := 16409, nameIndex := 90, descriptorIndex := 6, attributes := #[] }, { accessFlags := 18, nameIndex := 118, descriptorIndex := 119, attributes := #[] }, { accessFlags := 4122, nameIndex := 93, descriptorIndex := 94, attributes := #[] }])
  fields := #[{ name := "NAME", type := (.object "com/example/edict4/edict4/policy/Token$Kind"), accessFlags := 16409, slot := 0, constantValue := 0 }, { name := "STRING", type := (.object "com/example/edict4/edict4/policy/Token$Kind"), accessFlags := 16409, slot := 1, constantValue := 0 }, { name := "NUMBER", type := (.object "com/example/edict4/edict4/policy/Token$Kind"), accessFlags := 16409, slot := 2, constantValue := 0 }, { name := "OR", type := (.object "com/example/edict4/edict4/policy/Token$Kind"), accessFlags := 16409, slot := 3, constantValue := 0 }, { name := "AND", type := (.object "com/example/edict4/edict4/policy/Token$Kind"), accessFlags := 16409, slot := 4, constantValue := 0 }, { name := "EQUALS", type := (.object "com/example/edict4/edict4/policy/Token$Kind"), accessFlags := 16409, slot := 5, constantValue := 0 }, { name := "NOT_EQUALS", type := (.object "com/example/edict4/edict4/policy/Token$Kind"), accessFlags := 16409, slot := 6, constantValue := 0 }, { name := "MATCHES", type := (.object "com/example/edict4/edict4/policy/Token$Kind"), accessFlags := 16409, slot := 7, constantValue := 0 }, { name := "LESS", type := (.object "com/example/edict4/edict4/policy/Token$Kind"), accessFlags := 16409, slot := 8, constantValue := 0 }, { name := "LESS_OR_EQUAL", type := (.object "com/example/edict4/edict4/policy/Token$Kind"), accessFlags := 16409, slot := 9, constantValue := 0 }, { name := "GREATER", type := (.object "com/example/edict4/edict4/policy/Token$Kind"), accessFlags := 16409, slot := 10, constantValue := 0 }, { name := "GREATER_OR_EQUAL", type := (.object "com/example/edict4/edict4/policy/Token$Kind"), accessFlags := 16409, slot := 11, constantValue := 0 }, { name := "NOT", type := (.object "com/example/edict4/edict4/policy/Token$Kind"), accessFlags := 16409, slot := 12, constantValue := 0 }, { name := "PLUS", type := (.object "com/example/edict4/edict4/policy/Token$Kind"), accessFlags := 16409, slot := 13, constantValue := 0 }, { name := "MINUS", type := (.object "com/example/edict4/edict4/policy/Token$Kind"), accessFlags := 16409, slot := 14, constantValue := 0 }, { name := "TIMES", type := (.object "com/example/edict4/edict4/policy/Token$Kind"), accessFlags := 16409, slot := 15, constantValue := 0 }, { name := "DIVIDE", type := (.object "com/example/edict4/edict4/policy/Token$Kind"), accessFlags := 16409, slot := 16, constantValue := 0 }, { name := "REMAINDER", type := (.object "com/example/edict4/edict4/policy/Token$Kind"), accessFlags := 16409, slot := 17, constantValue := 0 }, { name := "DOT", type := (.object "com/example/edict4/edict4/policy/Token$Kind"), accessFlags := 16409, slot := 18, constantValue := 0 }, { name := "SEMICOLON", type := (.object "com/example/edict4/edict4/policy/Token$Kind"), accessFlags := 16409, slot := 19, constantValue := 0 }, { name := "COMMA", type := (.object "com/example/edict4/edict4/policy/Token$Kind"), accessFlags := 16409, slot := 20, constantValue := 0 }, { name := "COLON", type := (.object "com/example/edict4/edict4/policy/Token$Kind"), accessFlags := 16409, slot := 21, constantValue := 0 }, { name := "LEFT_PAREN", type := (.object "com/example/edict4/edict4/policy/Token$Kind"), accessFlags := 16409, slot := 22, constantValue := 0 }, { name := "RIGHT_PAREN", type := (.object "com/example/edict4/edict4/policy/Token$Kind"), accessFlags := 16409, slot := 23, constantValue := 0 }, { name := "LEFT_BRACE", type := (.object "com/example/edict4/edict4/policy/Token$Kind"), accessFlags := 16409, slot := 24, constantValue := 0 }, { name := "RIGHT_BRACE", type := (.object "com/example/edict4/edict4/policy/Token$Kind"), accessFlags := 16409, slot := 25, constantValue := 0 }, { name := "LEFT_BRACKET", type := (.object "com/example/edict4/edict4/policy/Token$Kind"), accessFlags := 16409, slot := 26, constantValue := 0 }, { name := "RIGHT_BRACKET", type := (.object "com/example/edict4/edict4/policy/Token$Kind"), accessFlags := 16409, slot := 27, constantValue := 0 }, { name := "END", type := (.object "com/example/edict4/edict4/policy/Token$Kind"), accessFlags := 16409, slot := 28, constantValue := 0 }, { name := "mSymbols", type := (.object "java/util/List"), accessFlags := 18, slot := 3, constantValue := 0 }, { name := "$VALUES", type := (.array (.object "com/example/edict4/edict4/policy/Token$Kind")), accessFlags := 4122, slot := 29, constantValue := 0 }]
  methods := #[]
  instanceTypes := #[(.object "java/lang/String"), .int, .int, (.object "java/util/List")]
  staticTypes := #[(.object "com/example/edict4/edict4/policy/Token$Kind"), (.object "com/example/edict4/edict4/policy/Token$Kind"), (.object "com/example/edict4/edict4/policy/Token$Kind"), (.object "com/example/edict4/edict4/policy/Token$Kind"), (.object "com/example/edict4/edict4/policy/Token$Kind"), (.object "com/example/edict4/edict4/policy/Token$Kind"), (.object "com/example/edict4/edict4/policy/Token$Kind"), (.object "com/example/edict4/edict4/policy/Token$Kind"), (.object "com/example/edict4/edict4/policy/Token$Kind"), (.object "com/example/edict4/edict4/policy/Token$Kind"), (.object "com/example/edict4/edict4/policy/Token$Kind"), (.object "com/example/edict4/edict4/policy/Token$Kind"), (.object "com/example/edict4/edict4/policy/Token$Kind"), (.object "com/example/edict4/edict4/policy/Token$Kind"), (.object "com/example/edict4/edict4/policy/Token$Kind"), (.object "com/example/edict4/edict4/policy/Token$Kind"), (.object "com/example/edict4/edict4/policy/Token$Kind"), (.object "com/example/edict4/edict4/policy/Token$Kind"), (.object "com/example/edict4/edict4/policy/Token$Kind"), (.object "com/example/edict4/edict4/policy/Token$Kind"), (.object "com/example/edict4/edict4/policy/Token$Kind"), (.object "com/example/edict4/edict4/policy/Token$Kind"), (.object "com/example/edict4/edict4/policy/Token$Kind"), (.object "com/example/edict4/edict4/policy/Token$Kind"), (.object "com/example/edict4/edict4/policy/Token$Kind"), (.object "com/example/edict4/edict4/policy/Token$Kind"), (.object "com/example/edict4/edict4/policy/Token$Kind"), (.object "com/example/edict4/edict4/policy/Token$Kind"), (.object "com/example/edict4/edict4/policy/Token$Kind"), (.array (.object "com/example/edict4/edict4/policy/Token$Kind"))]
  resolved := Array.replicate 239 none
  statics := some 0 }

def pool7 : Array CpInfo := pool [(2, .class_ 4), (1, u "java/lang/CharSequence"), (42, .class_ 48), (0, u "java/lang/CharSequence$1CodePointIterator"), (10, .class_ 60), (0, u "java/lang/CharSequence$1CharIterator"), (5, .class_ 67), (0, u "java/lang/Object")] 63

/-- java/lang/CharSequence -/
def k7 : Class := { plain "java/lang/CharSequence" (some 0) with
  accessFlags := 1537
  interfaces := #[]
  cf := some (fileOf pool7 2 #[.nestMembers #[47, 59]] #[] 1537 66 #[] #[])
  fields := #[]
  methods := #[]
  instanceTypes := #[]
  staticTypes := #[]
  resolved := Array.replicate 131 none
  statics := none }

def pool8 : Array CpInfo := pool [(1, .class_ 2), (0, u "java/lang/constant/ConstantDesc"), (0, .class_ 4), (0, u "java/lang/Object")] 32

/-- java/lang/constant/ConstantDesc -/
def k8 : Class := { plain "java/lang/constant/ConstantDesc" (some 0) with
  accessFlags := 1537
  interfaces := #[]
  cf := some (fileOf pool8 1 #[] #[] 1537 3 #[] #[])
  fields := #[]
  methods := #[]
  instanceTypes := #[]
  staticTypes := #[]
  resolved := Array.replicate 37 none
  statics := none }

def pool9 : Array CpInfo := pool [(1, .methodref 2 3), (0, .class_ 4), (0, .nameAndType 5 6), (0, u "java/lang/Object"), (0, u "<init>"), (0, u "()V"), (2, .fieldref 10 11), (0, .class_ 12), (0, .nameAndType 13 14), (0, u "java/lang/String"), (0, u "value"), (0, u "[B"), (0, .fieldref 10 16), (0, .nameAndType 17 18), (0, u "coder"), (0, u "B"), (2, u "hash"), (0, u "I"), (2, u "hashIsZero"), (0, u "Z"), (0, .methodref 10 28), (0, .nameAndType 5 29), (0, u "([CIILjava/lang/Void;)V"), (8, .fieldref 10 39), (0, .nameAndType 40 26), (0, u "COMPACT_STRINGS"), (1, .class_ 44), (1, u "java/lang/StringUTF16"), (0, u "compress"), (1, .methodref 42 48), (0, .nameAndType 49 50), (0, u "coderFromArrayLen"), (0, u "([BI)B"), (126, .methodref 42 178), (0, .nameAndType 45 179), (0, u "([CII)[B"), (395, .class_ 576), (0, u "java/lang/CharSequence"), (22, u "CASE_INSENSITIVE_ORDER"), (0, u "Ljava/util/Comparator;"), (409, u "([C)V"), (90, u "serialPersistentFields"), (0, u "[Ljava/io/ObjectStreamField;"), (0, .class_ 1104), (0, u "java/lang/String$CaseInsensitiveComparator"), (1, .class_ 1107), (0, u "java/io/Serializable"), (0, .class_ 1109), (0, u "java/lang/Comparable"), (0, .class_ 1111), (0, u "java/lang/constant/Constable"), (0, .class_ 1113), (0, u "java/lang/constant/ConstantDesc"), (2, u "serialVersionUID"), (0, u "J"), (3, u "REPL"), (0, u "C"), (2, u "LATIN1"), (1, u "UTF16")] 323

def k9m0 : Method := { name := "<init>", desc := "()V", sig := { parameters := [], returnType := none }, accessFlags := 1, code := none }
def k9c1 : Code := { maxStack := 5, maxLocals := 2, code := jdk_42_method_3_code, exceptionTable := #[], attributes := #[] }
def k9m1 : Method := { name := "<init>", desc := "([C)V", sig := { parameters := [(.array .char)], returnType := none }, accessFlags := 1, code := some k9c1 }
def k9c2 : Code := { maxStack := 4, maxLocals := 6, code := jdk_42_method_149_code, exceptionTable := #[], attributes := #[] }
def k9m2 : Method := { name := "<init>", desc := "([CIILjava/lang/Void;)V", sig := { parameters := [(.array .char), .int, .int, (.object "java/lang/Void")], returnType := none }, accessFlags := 2, code := some k9c2 }
/-- java/lang/String -/
def k9 : Class := { plain "java/lang/String" (some 0) with
  accessFlags := 49
  interfaces := #[4, 3, 7, 2, 8]
  cf := some (fileOf pool9 10 #[.nestMembers #[1103]] #[{ accessFlags := 1, nameIndex := 5, descriptorIndex := 6, attributes := #[] }, { accessFlags := 1, nameIndex := 5, descriptorIndex := 1010, attributes := #[] }, { accessFlags := 2, nameIndex := 5, descriptorIndex := 29, attributes := #[] }] 49 2 #[1106, 1108, 575, 1110, 1112] #[{ accessFlags := 18, nameIndex := 13, descriptorIndex := 14, attributes := #[] }, { accessFlags := 18, nameIndex := 17, descriptorIndex := 18, attributes := #[] }, { accessFlags := 2, nameIndex := 21, descriptorIndex := 22, attributes := #[] }, { accessFlags := 2, nameIndex := 25, descriptorIndex := 26, attributes := #[] }, { accessFlags := 26, nameIndex := 1116, descriptorIndex := 1117, attributes := #[] }, { accessFlags := 24, nameIndex := 40, descriptorIndex := 26, attributes := #[] }, { accessFlags := 26, nameIndex := 1101, descriptorIndex := 1102, attributes := #[] }, { accessFlags := 26, nameIndex := 1121, descriptorIndex := 1122, attributes := #[] }, { accessFlags := 25, nameIndex := 599, descriptorIndex := 600, attributes := #[] }, { accessFlags := 24, nameIndex := 1125, descriptorIndex := 18, attributes := #[] }, { accessFlags := 24, nameIndex := 1127, descriptorIndex := 18, attributes := #[] }])
  fields := #[{ name := "value", type := (.array .byte), accessFlags := 18, slot := 0, constantValue := 0 }, { name := "coder", type := .byte, accessFlags := 18, slot := 1, constantValue := 0 }, { name := "hash", type := .int, accessFlags := 2, slot := 2, constantValue := 0 }, { name := "hashIsZero", type := .boolean, accessFlags := 2, slot := 3, constantValue := 0 }, { name := "serialVersionUID", type := .long, accessFlags := 26, slot := 0, constantValue := 0 }, { name := "COMPACT_STRINGS", type := .boolean, accessFlags := 24, slot := 1, constantValue := 0 }, { name := "serialPersistentFields", type := (.array (.object "java/io/ObjectStreamField")), accessFlags := 26, slot := 2, constantValue := 0 }, { name := "REPL", type := .char, accessFlags := 26, slot := 3, constantValue := 0 }, { name := "CASE_INSENSITIVE_ORDER", type := (.object "java/util/Comparator"), accessFlags := 25, slot := 4, constantValue := 0 }, { name := "LATIN1", type := .byte, accessFlags := 24, slot := 5, constantValue := 0 }, { name := "UTF16", type := .byte, accessFlags := 24, slot := 6, constantValue := 0 }]
  methods := #[k9m0, k9m1, k9m2]
  instanceTypes := #[(.array .byte), .byte, .int, .boolean]
  staticTypes := #[.long, .boolean, (.array (.object "java/io/ObjectStreamField")), .char, (.object "java/util/Comparator"), .byte, .byte]
  resolved := Array.replicate 1451 none
  statics := some 1 }

def pool10 : Array CpInfo := pool [(6, .class_ 8), (1, u "java/lang/Object"), (0, u "<init>"), (0, u "()V"), (1, .class_ 14), (1, u "java/lang/StringUTF16"), (31, u "$assertionsDisabled"), (0, u "Z"), (13, u "HI_BYTE_SHIFT"), (0, u "I"), (2, u "LO_BYTE_SHIFT"), (49, .methodref 12 116), (0, .nameAndType 117 118), (0, u "compress"), (0, u "([CI[BII)I"), (3, u "([CII)[B"), (138, u "coderFromArrayLen"), (0, u "([BI)B"), (106, .class_ 371), (1, u "java/lang/StringUTF16$LinesSpliterator"), (58, u "MAX_LENGTH"), (196, .class_ 628), (0, u "java/lang/StringUTF16$CodePointsSpliterator"), (0, .class_ 630), (0, u "java/lang/StringUTF16$CharsSpliterator")] 4

def k10m0 : Method := { name := "<init>", desc := "()V", sig := { parameters := [], returnType := none }, accessFlags := 0, code := none }
def k10c1 : Code := { maxStack := 2, maxLocals := 2, code := jdk_52_method_15_code, exceptionTable := #[], attributes := #[] }
def k10m1 : Method := { name := "coderFromArrayLen", desc := "([BI)B", sig := { parameters := [(.array .byte), .int], returnType := some .byte }, accessFlags := 8, code := some k10c1 }
def k10c2 : Code := { maxStack := 5, maxLocals := 6, code := jdk_52_method_16_code, exceptionTable := #[], attributes := #[] }
def k10m2 : Method := { name := "compress", desc := "([CII)[B", sig := { parameters := [(.array .char), .int, .int], returnType := some (.array .byte) }, accessFlags := 9, code := some k10c2 }
def k10c3 : Code := { maxStack := 3, maxLocals := 7, code := jdk_52_method_21_code, exceptionTable := #[], attributes := #[] }
def k10m3 : Method := { name := "compress", desc := "([CI[BII)I", sig := { parameters := [(.array .char), .int, (.array .byte), .int, .int], returnType := some .int }, accessFlags := 9, code := some k10c3 }
/-- java/lang/StringUTF16 -/
def k10 : Class := { plain "java/lang/StringUTF16" (some 0) with
  accessFlags := 48
  interfaces := #[]
  cf := some (fileOf pool10 12 #[.nestMembers #[627, 629, 369]] #[{ accessFlags := 0, nameIndex := 9, descriptorIndex := 10, attributes := #[] }, { accessFlags := 8, nameIndex := 261, descriptorIndex := 262, attributes := #[] }, { accessFlags := 9, nameIndex := 117, descriptorIndex := 122, attributes := #[] }, { accessFlags := 9, nameIndex := 117, descriptorIndex := 118, attributes := #[] }] 48 6 #[] #[{ accessFlags := 26, nameIndex := 61, descriptorIndex := 62, attributes := #[] }, { accessFlags := 26, nameIndex := 65, descriptorIndex := 62, attributes := #[] }, { accessFlags := 24, nameIndex := 430, descriptorIndex := 62, attributes := #[] }, { accessFlags := 4120, nameIndex := 46, descriptorIndex := 47, attributes := #[] }])
  fields := #[{ name := "HI_BYTE_SHIFT", type := .int, accessFlags := 26, slot := 0, constantValue := 0 }, { name := "LO_BYTE_SHIFT", type := .int, accessFlags := 26, slot := 1, constantValue := 0 }, { name := "MAX_LENGTH", type := .int, accessFlags := 24, slot := 2, constantValue := 0 }, { name := "$assertionsDisabled", type := .boolean, accessFlags := 4120, slot := 3, constantValue := 0 }]
  methods := #[k10m0, k10m1, k10m2, k10m3]
  instanceTypes := #[]
  staticTypes := #[.int, .int, .int, .boolean]
  resolved := Array.replicate 635 none
  statics := none }

def pool11 : Array CpInfo := pool [(1, .methodref 2 3), (0, .class_ 4), (0, .nameAndType 5 6), (0, u "java/lang/Object"), (0, u "<init>"), (0, u "()V"), (0, .fieldref 8 9), (0, .class_ 10), (0, .nameAndType 11 12), (0, u "com/example/edict4/edict4/policy/Token"), (0, u "mKind"), (0, u "Lcom/example/edict4/edict4/policy/Token$Kind;"), (0, .fieldref 8 14), (0, .nameAndType 15 16), (0, u "mText"), (0, u "Ljava/lang/String;"), (0, .fieldref 8 18), (0, .nameAndType 19 20), (0, u "mOffset"), (0, u "I"), (1, .class_ 24), (1, u "com/example/edict4/edict4/policy/Token$Kind"), (7, u "(Lcom/example/edict4/edict4/policy/Token$Kind;Ljava/lang/String;I)V"), (8, u "is"), (0, u "(Lcom/example/edict4/edict4/policy/Token$Kind;)Z")] 8

def k11c0 : Code := { maxStack := 2, maxLocals := 4, code := prog_33_method_1_code, exceptionTable := #[], attributes := #[] }
def k11m0 : Method := { name := "<init>", desc := "(Lcom/example/edict4/edict4/policy/Token$Kind;Ljava/lang/String;I)V", sig := { parameters := [(.object "com/example/edict4/edict4/policy/Token$Kind"), (.object "java/lang/String"), .int], returnType := none }, accessFlags := 0, code := some k11c0 }
def k11c1 : Code := { maxStack := 2, maxLocals := 2, code := prog_33_method_5_code, exceptionTable := #[], attributes := #[] }
def k11m1 : Method := { name := "is", desc := "(Lcom/example/edict4/edict4/policy/Token$Kind;)Z", sig := { parameters := [(.object "com/example/edict4/edict4/policy/Token$Kind")], returnType := some .boolean }, accessFlags := 0, code := some k11c1 }
/-- com/example/edict4/edict4/policy/Token -/
def k11 : Class := { plain "com/example/edict4/edict4/policy/Token" (some 0) with
  accessFlags := 48
  interfaces := #[]
  cf := some (fileOf pool11 8 #[.nestMembers #[22]] #[{ accessFlags := 0, nameIndex := 5, descriptorIndex := 32, attributes := #[] }, { accessFlags := 0, nameIndex := 41, descriptorIndex := 42, attributes := #[] }] 48 2 #[] #[{ accessFlags := 18, nameIndex := 11, descriptorIndex := 12, attributes := #[] }, { accessFlags := 18, nameIndex := 15, descriptorIndex := 16, attributes := #[] }, { accessFlags := 18, nameIndex := 19, descriptorIndex := 20, attributes := #[] }])
  fields := #[{ name := "mKind", type := (.object "com/example/edict4/edict4/policy/Token$Kind"), accessFlags := 18, slot := 0, constantValue := 0 }, { name := "mText", type := (.object "java/lang/String"), accessFlags := 18, slot := 1, constantValue := 0 }, { name := "mOffset", type := .int, accessFlags := 18, slot := 2, constantValue := 0 }]
  methods := #[k11m0, k11m1]
  instanceTypes := #[(.object "com/example/edict4/edict4/policy/Token$Kind"), (.object "java/lang/String"), .int]
  staticTypes := #[]
  resolved := Array.replicate 51 none
  statics := none }

def pool12 : Array CpInfo := pool [(4, .class_ 6), (1, u "java/lang/Object"), (0, u "<init>"), (0, u "()V"), (5, .class_ 16), (1, u "java/lang/StringLatin1"), (104, u "$assertionsDisabled"), (0, u "Z"), (98, .class_ 223), (1, u "java/lang/StringLatin1$LinesSpliterator"), (166, .class_ 391), (0, u "java/lang/StringLatin1$CharsSpliterator")] 3

def k12m0 : Method := { name := "<init>", desc := "()V", sig := { parameters := [], returnType := none }, accessFlags := 0, code := none }
/-- java/lang/StringLatin1 -/
def k12 : Class := { plain "java/lang/StringLatin1" (some 0) with
  accessFlags := 48
  interfaces := #[]
  cf := some (fileOf pool12 14 #[.nestMembers #[390, 221]] #[{ accessFlags := 0, nameIndex := 7, descriptorIndex := 8, attributes := #[] }] 48 4 #[] #[{ accessFlags := 4120, nameIndex := 121, descriptorIndex := 122, attributes := #[] }])
  fields := #[{ name := "$assertionsDisabled", type := .boolean, accessFlags := 4120, slot := 0, constantValue := 0 }]
  methods := #[k12m0]
  instanceTypes := #[]
  staticTypes := #[.boolean]
  resolved := Array.replicate 395 none
  statics := none }

def pool13 : Array CpInfo := pool [(2, .class_ 4), (1, u "java/lang/Object"), (0, u "<init>"), (0, u "()V"), (17, .class_ 26), (1, u "jdk/internal/util/Preconditions"), (28, .class_ 56), (0, u "jdk/internal/util/Preconditions$4"), (57, .class_ 115), (0, u "jdk/internal/util/Preconditions$1"), (7, u "SIOOBE_FORMATTER"), (0, u "Ljava/util/function/BiFunction;"), (0, .class_ 126), (0, u "jdk/internal/util/Preconditions$2"), (3, u "AIOOBE_FORMATTER"), (0, .class_ 132), (0, u "jdk/internal/util/Preconditions$3"), (3, u "IOOBE_FORMATTER")] 57

def k13m0 : Method := { name := "<init>", desc := "()V", sig := { parameters := [], returnType := none }, accessFlags := 1, code := none }
/-- jdk/internal/util/Preconditions -/
def k13 : Class := { plain "jdk/internal/util/Preconditions" (some 0) with
  accessFlags := 33
  interfaces := #[]
  cf := some (fileOf pool13 24 #[.nestMembers #[55, 131, 125, 114]] #[{ accessFlags := 1, nameIndex := 5, descriptorIndex := 6, attributes := #[] }] 33 2 #[] #[{ accessFlags := 25, nameIndex := 123, descriptorIndex := 124, attributes := #[] }, { accessFlags := 25, nameIndex := 130, descriptorIndex := 124, attributes := #[] }, { accessFlags := 25, nameIndex := 136, descriptorIndex := 124, attributes := #[] }])
  fields := #[{ name := "SIOOBE_FORMATTER", type := (.object "java/util/function/BiFunction"), accessFlags := 25, slot := 0, constantValue := 0 }, { name := "AIOOBE_FORMATTER", type := (.object "java/util/function/BiFunction"), accessFlags := 25, slot := 1, constantValue := 0 }, { name := "IOOBE_FORMATTER", type := (.object "java/util/function/BiFunction"), accessFlags := 25, slot := 2, constantValue := 0 }]
  methods := #[k13m0]
  instanceTypes := #[]
  staticTypes := #[(.object "java/util/function/BiFunction"), (.object "java/util/function/BiFunction"), (.object "java/util/function/BiFunction")]
  resolved := Array.replicate 194 none
  statics := some 2 }

def pool14 : Array CpInfo := pool [(9, u "<init>"), (6, .class_ 18), (1, u "java/lang/Object"), (0, u "()V"), (1, .class_ 23), (1, u "jdk/internal/util/ArraysSupport"), (0, u "LOG2_ARRAY_LONG_INDEX_SCALE"), (0, u "I"), (2, u "U"), (0, u "Ljdk/internal/misc/Unsafe;"), (8, u "BIG_ENDIAN"), (0, u "Z"), (8, u "LOG2_BYTE_BIT_SIZE"), (4, u "LOG2_ARRAY_INT_INDEX_SCALE"), (54, u "JLA"), (0, u "Ljdk/internal/access/JavaLangAccess;"), (11, u "LOG2_ARRAY_BOOLEAN_INDEX_SCALE"), (9, u "LOG2_ARRAY_BYTE_INDEX_SCALE"), (5, u "LOG2_ARRAY_CHAR_INDEX_SCALE"), (5, u "LOG2_ARRAY_SHORT_INDEX_SCALE"), (18, u "LOG2_ARRAY_FLOAT_INDEX_SCALE"), (24, u "LOG2_ARRAY_DOUBLE_INDEX_SCALE"), (89, u "T_BOOLEAN"), (2, u "T_CHAR"), (1, u "T_FLOAT"), (1, u "T_DOUBLE"), (1, u "T_BYTE"), (1, u "T_SHORT"), (1, u "T_INT"), (1, u "T_LONG"), (1, u "SOFT_MAX_ARRAY_LENGTH")] 83

def k14m0 : Method := { name := "<init>", desc := "()V", sig := { parameters := [], returnType := none }, accessFlags := 2, code := none }
/-- jdk/internal/util/ArraysSupport -/
def k14 : Class := { plain "jdk/internal/util/ArraysSupport" (some 0) with
  accessFlags := 33
  interfaces := #[]
  cf := some (fileOf pool14 21 #[] #[{ accessFlags := 2, nameIndex := 9, descriptorIndex := 19, attributes := #[] }] 33 16 #[] #[{ accessFlags := 24, nameIndex := 28, descriptorIndex := 29, attributes := #[] }, { accessFlags := 26, nameIndex := 38, descriptorIndex := 39, attributes := #[] }, { accessFlags := 25, nameIndex := 121, descriptorIndex := 25, attributes := #[] }, { accessFlags := 25, nameIndex := 131, descriptorIndex := 25, attributes := #[] }, { accessFlags := 25, nameIndex := 137, descriptorIndex := 25, attributes := #[] }, { accessFlags := 25, nameIndex := 143, descriptorIndex := 25, attributes := #[] }, { accessFlags := 25, nameIndex := 53, descriptorIndex := 25, attributes := #[] }, { accessFlags := 25, nameIndex := 24, descriptorIndex := 25, attributes := #[] }, { accessFlags := 25, nameIndex := 162, descriptorIndex := 25, attributes := #[] }, { accessFlags := 25, nameIndex := 187, descriptorIndex := 25, attributes := #[] }, { accessFlags := 26, nameIndex := 48, descriptorIndex := 25, attributes := #[] }, { accessFlags := 25, nameIndex := 277, descriptorIndex := 25, attributes := #[] }, { accessFlags := 25, nameIndex := 280, descriptorIndex := 25, attributes := #[] }, { accessFlags := 25, nameIndex := 282, descriptorIndex := 25, attributes := #[] }, { accessFlags := 25, nameIndex := 284, descriptorIndex := 25, attributes := #[] }, { accessFlags := 25, nameIndex := 286, descriptorIndex := 25, attributes := #[] }, { accessFlags := 25, nameIndex := 288, descriptorIndex := 25, attributes := #[] }, { accessFlags := 25, nameIndex := 290, descriptorIndex := 25, attributes := #[] }, { accessFlags := 25, nameIndex := 292, descriptorIndex := 25, attributes := #[] }, { accessFlags := 26, nameIndex := 108, descriptorIndex := 109, attributes := #[] }, { accessFlags := 25, nameIndex := 294, descriptorIndex := 25, attributes := #[] }])
  fields := #[{ name := "U", type := (.object "jdk/internal/misc/Unsafe"), accessFlags := 24, slot := 0, constantValue := 0 }, { name := "BIG_ENDIAN", type := .boolean, accessFlags := 26, slot := 1, constantValue := 0 }, { name := "LOG2_ARRAY_BOOLEAN_INDEX_SCALE", type := .int, accessFlags := 25, slot := 2, constantValue := 0 }, { name := "LOG2_ARRAY_BYTE_INDEX_SCALE", type := .int, accessFlags := 25, slot := 3, constantValue := 0 }, { name := "LOG2_ARRAY_CHAR_INDEX_SCALE", type := .int, accessFlags := 25, slot := 4, constantValue := 0 }, { name := "LOG2_ARRAY_SHORT_INDEX_SCALE", type := .int, accessFlags := 25, slot := 5, constantValue := 0 }, { name := "LOG2_ARRAY_INT_INDEX_SCALE", type := .int, accessFlags := 25, slot := 6, constantValue := 0 }, { name := "LOG2_ARRAY_LONG_INDEX_SCALE", type := .int, accessFlags := 25, slot := 7, constantValue := 0 }, { name := "LOG2_ARRAY_FLOAT_INDEX_SCALE", type := .int, accessFlags := 25, slot := 8, constantValue := 0 }, { name := "LOG2_ARRAY_DOUBLE_INDEX_SCALE", type := .int, accessFlags := 25, slot := 9, constantValue := 0 }, { name := "LOG2_BYTE_BIT_SIZE", type := .int, accessFlags := 26, slot := 10, constantValue := 0 }, { name := "T_BOOLEAN", type := .int, accessFlags := 25, slot := 11, constantValue := 0 }, { name := "T_CHAR", type := .int, accessFlags := 25, slot := 12, constantValue := 0 }, { name := "T_FLOAT", type := .int, accessFlags := 25, slot := 13, constantValue := 0 }, { name := "T_DOUBLE", type := .int, accessFlags := 25, slot := 14, constantValue := 0 }, { name := "T_BYTE", type := .int, accessFlags := 25, slot := 15, constantValue := 0 }, { name := "T_SHORT", type := .int, accessFlags := 25, slot := 16, constantValue := 0 }, { name := "T_INT", type := .int, accessFlags := 25, slot := 17, constantValue := 0 }, { name := "T_LONG", type := .int, accessFlags := 25, slot := 18, constantValue := 0 }, { name := "JLA", type := (.object "jdk/internal/access/JavaLangAccess"), accessFlags := 26, slot := 19, constantValue := 0 }, { name := "SOFT_MAX_ARRAY_LENGTH", type := .int, accessFlags := 25, slot := 20, constantValue := 0 }]
  methods := #[k14m0]
  instanceTypes := #[]
  staticTypes := #[(.object "jdk/internal/misc/Unsafe"), .boolean, .int, .int, .int, .int, .int, .int, .int, .int, .int, .int, .int, .int, .int, .int, .int, .int, .int, (.object "jdk/internal/access/JavaLangAccess"), .int]
  resolved := Array.replicate 378 none
  statics := none }

def pool15 : Array CpInfo := pool [(1, u "java/lang/Cloneable"), (0, .class_ 1), (0, u "java/lang/Object"), (0, .class_ 3)] 3

/-- java/lang/Cloneable -/
def k15 : Class := { plain "java/lang/Cloneable" (some 0) with
  accessFlags := 1537
  interfaces := #[]
  cf := some (fileOf pool15 2 #[] #[] 1537 4 #[] #[])
  fields := #[]
  methods := #[]
  instanceTypes := #[]
  staticTypes := #[]
  resolved := Array.replicate 8 none
  statics := none }

/-- the primitive byte -/
def k16 : Class := { plain "byte" none with kind := .primitive 'B', accessFlags := 0x411 }
/-- [B -/
def k17 : Class := { plain "[B" (some 0) with kind := .array 16 .byte, interfaces := #[15, 4], accessFlags := 1041 }

/-- the primitive char -/
def k18 : Class := { plain "char" none with kind := .primitive 'C', accessFlags := 0x411 }
/-- [C -/
def k19 : Class := { plain "[C" (some 0) with kind := .array 18 .char, interfaces := #[15, 4], accessFlags := 1041 }

/-- the primitive int -/
def k20 : Class := { plain "int" none with kind := .primitive 'I', accessFlags := 0x411 }
/-- [I -/
def k21 : Class := { plain "[I" (some 0) with kind := .array 20 .int, interfaces := #[15, 4], accessFlags := 1041 }

/-- [Lcom/example/edict4/edict4/policy/Token$Kind; -/
def k22 : Class := { plain "[Lcom/example/edict4/edict4/policy/Token$Kind;" (some 0) with kind := .array 6 (.object "com/example/edict4/edict4/policy/Token$Kind"), interfaces := #[15, 4], accessFlags := 1041 }

def heap : Heap := #[{ cls := 6, slots := #[.ref 3, .ref 4, .ref 5, .ref 6, .ref 7, .ref 8, .ref 9, .ref 10, .ref 11, .ref 12, .ref 13, .ref 14, .ref 15, .ref 16, .ref 17, .ref 18, .ref 19, .ref 20, .ref 21, .ref 22, .ref 23, .ref 24, .ref 25, .ref 26, .ref 27, .ref 28, .ref 29, .ref 30, .ref 31, .null], vm := .statics 6 },
  { cls := 9, slots := #[.long 0, .int 1, .null, .int 0, .null, .int 0, .int 0], vm := .statics 9 },
  { cls := 13, slots := #[.null, .null, .null], vm := .statics 13 },
  { cls := 6, slots := #[.null, .int 0, .int 0, .null], vm := .none },
  { cls := 6, slots := #[.null, .int 1, .int 0, .null], vm := .none },
  { cls := 6, slots := #[.null, .int 2, .int 0, .null], vm := .none },
  { cls := 6, slots := #[.null, .int 3, .int 0, .null], vm := .none },
  { cls := 6, slots := #[.null, .int 4, .int 0, .null], vm := .none },
  { cls := 6, slots := #[.null, .int 5, .int 0, .null], vm := .none },
  { cls := 6, slots := #[.null, .int 6, .int 0, .null], vm := .none },
  { cls := 6, slots := #[.null, .int 7, .int 0, .null], vm := .none },
  { cls := 6, slots := #[.null, .int 8, .int 0, .null], vm := .none },
  { cls := 6, slots := #[.null, .int 9, .int 0, .null], vm := .none },
  { cls := 6, slots := #[.null, .int 10, .int 0, .null], vm := .none },
  { cls := 6, slots := #[.null, .int 11, .int 0, .null], vm := .none },
  { cls := 6, slots := #[.null, .int 12, .int 0, .null], vm := .none },
  { cls := 6, slots := #[.null, .int 13, .int 0, .null], vm := .none },
  { cls := 6, slots := #[.null, .int 14, .int 0, .null], vm := .none },
  { cls := 6, slots := #[.null, .int 15, .int 0, .null], vm := .none },
  { cls := 6, slots := #[.null, .int 16, .int 0, .null], vm := .none },
  { cls := 6, slots := #[.null, .int 17, .int 0, .null], vm := .none },
  { cls := 6, slots := #[.null, .int 18, .int 0, .null], vm := .none },
  { cls := 6, slots := #[.null, .int 19, .int 0, .null], vm := .none },
  { cls := 6, slots := #[.null, .int 20, .int 0, .null], vm := .none },
  { cls := 6, slots := #[.null, .int 21, .int 0, .null], vm := .none },
  { cls := 6, slots := #[.null, .int 22, .int 0, .null], vm := .none },
  { cls := 6, slots := #[.null, .int 23, .int 0, .null], vm := .none },
  { cls := 6, slots := #[.null, .int 24, .int 0, .null], vm := .none },
  { cls := 6, slots := #[.null, .int 25, .int 0, .null], vm := .none },
  { cls := 6, slots := #[.null, .int 26, .int 0, .null], vm := .none },
  { cls := 6, slots := #[.null, .int 27, .int 0, .null], vm := .none },
  { cls := 6, slots := #[.null, .int 28, .int 0, .null], vm := .none }]
def classes : Array Class := #[k0, k1, k2, k3, k4, k5, k6, k7, k8, k9, k10, k11, k12, k13, k14, k15, k16, k17, k18, k19, k20, k21, k22]
def interned : List (Array UInt16 × Addr) := []
def slotsUsed : Nat := 156
def theMethod : MethodId := ⟨1, 2⟩
def args0 : Array Value := #[.int 3, .int 7, .int 65, .int 9]
def aboutOver (below : List Frame) : State where
  vm := { classes := classes, interned := interned.toArray }
  heap := heap
  slotsUsed := slotsUsed
  threads := #[{ frames := .invoking theMethod args0 :: below }]
def below0 : List Frame := [.native { method := ⟨0, 0⟩, args := #[] }]
def about1 : State := aboutOver below0
def p0 : Program := .bare "" "" ""
def e0 : Env := launch0.env 0 0 0
theorem w_frames : about1.frames = Frame.invoking theMethod args0 :: below0 := rfl
set_option maxRecDepth 65536 in
theorem w_args : argsFit about1.vm theMethod args0 = true := by decide +kernel
set_option maxRecDepth 65536 in
theorem w_heap : heapFits about1 = true := by decide +kernel
set_option maxRecDepth 65536 in
theorem w_runnable : about1.curStatus? = some .runnable := by decide +kernel
set_option maxRecDepth 65536 in
theorem w_alone : about1.alone = true := by decide +kernel
set_option maxRecDepth 65536 in
theorem w_named : about1.methodNamed? x = some theMethod := by decide +kernel
set_option maxRecDepth 65536 in
theorem w_hears : about1.hears theMethod below0 = true := by decide +kernel
set_option maxRecDepth 65536 in
theorem w_ripe : about1.ripe theMethod args0 below0 = true := by decide +kernel
theorem w_running : about1.status = .running := rfl
set_option maxRecDepth 65536 in
theorem w_room : about1.hasRoom e0.platform room_1 = true :=
  launch0.hasRoom_least _ room_1 (by decide +kernel) (by decide +kernel) (by decide +kernel) (by decide +kernel) (by decide +kernel) (by decide +kernel)
theorem allAtoms_all (ts : List Jvm.Cond) (a : Array Jvm.Value) (st : Jvm.State) : (allAtoms ts).before a st = ts.all (fun c => c.before a st) := by
  induction ts with
  | nil => rfl
  | cons c t ih =>
    show (Jvm.Cond.and c (allAtoms t)).before a st = _
    rw [Jvm.Cond.before_and, ih, List.all_cons]
def words1 : List Jvm.Cond := Jvm.Cond.code x code maxLocals ret :: tables_1
/-- a 'code' word, met by the world's own term for the bytes: nothing is compared byte by byte -/
theorem code_word {y : MethodName} {bytes : ByteArray} {mx : Nat} {rt : Option FieldType} {a : Array Value} {s : State} {m : MethodId} {meth : Method} {c : Code} (h1 : s.methodNamed? y = some m) (h2 : s.vm.method? m = some meth) (h3 : meth.code = some c) (h4 : c.code = bytes)
    (h5 : (c.maxLocals == mx && c.exceptionTable.isEmpty && decide (c.maxStack ≤ mostOperands) && decide (meth.sig.returnType = rt) && !meth.locks && decide (parseMethodDescriptor y.desc = some meth.sig)) = true) : (Jvm.Cond.code y bytes mx rt).before a s = true := by
  simp only [Bool.and_eq_true, beq_iff_eq, Bool.not_eq_true', decide_eq_true_eq] at h5
  obtain ⟨⟨⟨⟨⟨g1, g2⟩, g3⟩, g4⟩, g5⟩, g6⟩ := h5
  simp [Cond.before, Cond.holds, Cond.value, h1, h2, h3, h4, g1, g2, g3, g4, g5, g6]
def isCode : Jvm.Cond → Bool
  | .code _ _ _ _ => true
  | _ => false
theorem all_split {L : List Jvm.Cond} {P : Jvm.Cond → Bool} (h1 : L.all (fun c => isCode c || P c) = true) (h2 : ∀ c ∈ L.filter isCode, P c = true) : L.all P = true := by
  refine List.all_eq_true.mpr fun c hc => ?_
  have h := List.all_eq_true.mp h1 c hc
  rcases Bool.eq_false_or_eq_true (isCode c) with hi | hi
  · exact h2 c (List.mem_filter.mpr ⟨hc, hi⟩)
  · simpa [hi] using h
set_option maxRecDepth 65536 in
theorem w_c0 : (Jvm.Cond.code x code maxLocals ret).before args0 about1 = true := code_word (m := ⟨1, 2⟩) (meth := k1m2) (c := k1c2) (by decide +kernel) rfl rfl rfl (by decide +kernel)
set_option maxRecDepth 65536 in
theorem w_c1 : (Jvm.Cond.code ({ cls := "com/example/edict4/edict4/policy/TokenIsPinLaw", name := "kinds", desc := "()[Lcom/example/edict4/edict4/policy/Token$Kind;" } : Jvm.MethodName) method_2_code (1 : Nat) (Option.some (Jvm.ClassFile.FieldType.array (Jvm.ClassFile.FieldType.object "com/example/edict4/edict4/policy/Token$Kind")))).before args0 about1 = true := code_word (m := ⟨1, 1⟩) (meth := k1m1) (c := k1c1) (by decide +kernel) rfl rfl rfl (by decide +kernel)
set_option maxRecDepth 65536 in
theorem w_c2 : (Jvm.Cond.code ({ cls := "java/lang/String", name := "<init>", desc := "([C)V" } : Jvm.MethodName) jdk_42_method_3_code (2 : Nat) (Option.none : Option Jvm.ClassFile.FieldType)).before args0 about1 = true := code_word (m := ⟨9, 1⟩) (meth := k9m1) (c := k9c1) (by decide +kernel) rfl rfl rfl (by decide +kernel)
set_option maxRecDepth 65536 in
theorem w_c3 : (Jvm.Cond.code ({ cls := "java/lang/String", name := "<init>", desc := "([CIILjava/lang/Void;)V" } : Jvm.MethodName) jdk_42_method_149_code (6 : Nat) (Option.none : Option Jvm.ClassFile.FieldType)).before args0 about1 = true := code_word (m := ⟨9, 2⟩) (meth := k9m2) (c := k9c2) (by decide +kernel) rfl rfl rfl (by decide +kernel)
set_option maxRecDepth 65536 in
theorem w_c4 : (Jvm.Cond.code ({ cls := "java/lang/Object", name := "<init>", desc := "()V" } : Jvm.MethodName) object_method_1_code (1 : Nat) (Option.none : Option Jvm.ClassFile.FieldType)).before args0 about1 = true := code_word (m := ⟨0, 0⟩) (meth := k0m0) (c := k0c0) (by decide +kernel) rfl rfl rfl (by decide +kernel)
set_option maxRecDepth 65536 in
theorem w_c5 : (Jvm.Cond.code ({ cls := "java/lang/StringUTF16", name := "compress", desc := "([CII)[B" } : Jvm.MethodName) jdk_52_method_16_code (6 : Nat) (Option.some (Jvm.ClassFile.FieldType.array Jvm.ClassFile.FieldType.byte))).before args0 about1 = true := code_word (m := ⟨10, 2⟩) (meth := k10m2) (c := k10c2) (by decide +kernel) rfl rfl rfl (by decide +kernel)
set_option maxRecDepth 65536 in
theorem w_c6 : (Jvm.Cond.code ({ cls := "java/lang/StringUTF16", name := "compress", desc := "([CI[BII)I" } : Jvm.MethodName) jdk_52_method_21_code (7 : Nat) (Option.some Jvm.ClassFile.FieldType.int)).before args0 about1 = true := code_word (m := ⟨10, 3⟩) (meth := k10m3) (c := k10c3) (by decide +kernel) rfl rfl rfl (by decide +kernel)
set_option maxRecDepth 65536 in
theorem w_c7 : (Jvm.Cond.code ({ cls := "java/lang/StringUTF16", name := "coderFromArrayLen", desc := "([BI)B" } : Jvm.MethodName) jdk_52_method_15_code (2 : Nat) (Option.some Jvm.ClassFile.FieldType.byte)).before args0 about1 = true := code_word (m := ⟨10, 1⟩) (meth := k10m1) (c := k10c1) (by decide +kernel) rfl rfl rfl (by decide +kernel)
set_option maxRecDepth 65536 in
theorem w_c8 : (Jvm.Cond.code ({ cls := "com/example/edict4/edict4/policy/Token", name := "<init>", desc := "(Lcom/example/edict4/edict4/policy/Token$Kind;Ljava/lang/String;I)V" } : Jvm.MethodName) prog_33_method_1_code (4 : Nat) (Option.none : Option Jvm.ClassFile.FieldType)).before args0 about1 = true := code_word (m := ⟨11, 0⟩) (meth := k11m0) (c := k11c0) (by decide +kernel) rfl rfl rfl (by decide +kernel)
set_option maxRecDepth 65536 in
theorem w_c9 : (Jvm.Cond.code ({ cls := "com/example/edict4/edict4/policy/Token", name := "is", desc := "(Lcom/example/edict4/edict4/policy/Token$Kind;)Z" } : Jvm.MethodName) prog_33_method_5_code (2 : Nat) (Option.some Jvm.ClassFile.FieldType.boolean)).before args0 about1 = true := code_word (m := ⟨11, 1⟩) (meth := k11m1) (c := k11c1) (by decide +kernel) rfl rfl rfl (by decide +kernel)
def codes1 : List Jvm.Cond := [Jvm.Cond.code x code maxLocals ret, Jvm.Cond.code ({ cls := "com/example/edict4/edict4/policy/TokenIsPinLaw", name := "kinds", desc := "()[Lcom/example/edict4/edict4/policy/Token$Kind;" } : Jvm.MethodName) method_2_code (1 : Nat) (Option.some (Jvm.ClassFile.FieldType.array (Jvm.ClassFile.FieldType.object "com/example/edict4/edict4/policy/Token$Kind"))), Jvm.Cond.code ({ cls := "java/lang/String", name := "<init>", desc := "([C)V" } : Jvm.MethodName) jdk_42_method_3_code (2 : Nat) (Option.none : Option Jvm.ClassFile.FieldType), Jvm.Cond.code ({ cls := "java/lang/String", name := "<init>", desc := "([CIILjava/lang/Void;)V" } : Jvm.MethodName) jdk_42_method_149_code (6 : Nat) (Option.none : Option Jvm.ClassFile.FieldType), Jvm.Cond.code ({ cls := "java/lang/Object", name := "<init>", desc := "()V" } : Jvm.MethodName) object_method_1_code (1 : Nat) (Option.none : Option Jvm.ClassFile.FieldType), Jvm.Cond.code ({ cls := "java/lang/StringUTF16", name := "compress", desc := "([CII)[B" } : Jvm.MethodName) jdk_52_method_16_code (6 : Nat) (Option.some (Jvm.ClassFile.FieldType.array Jvm.ClassFile.FieldType.byte)), Jvm.Cond.code ({ cls := "java/lang/StringUTF16", name := "compress", desc := "([CI[BII)I" } : Jvm.MethodName) jdk_52_method_21_code (7 : Nat) (Option.some Jvm.ClassFile.FieldType.int), Jvm.Cond.code ({ cls := "java/lang/StringUTF16", name := "coderFromArrayLen", desc := "([BI)B" } : Jvm.MethodName) jdk_52_method_15_code (2 : Nat) (Option.some Jvm.ClassFile.FieldType.byte), Jvm.Cond.code ({ cls := "com/example/edict4/edict4/policy/Token", name := "<init>", desc := "(Lcom/example/edict4/edict4/policy/Token$Kind;Ljava/lang/String;I)V" } : Jvm.MethodName) prog_33_method_1_code (4 : Nat) (Option.none : Option Jvm.ClassFile.FieldType), Jvm.Cond.code ({ cls := "com/example/edict4/edict4/policy/Token", name := "is", desc := "(Lcom/example/edict4/edict4/policy/Token$Kind;)Z" } : Jvm.MethodName) prog_33_method_5_code (2 : Nat) (Option.some Jvm.ClassFile.FieldType.boolean)]
set_option maxRecDepth 65536 in
theorem codes_eq : words1.filter isCode = codes1 := rfl
theorem w_codes : ∀ c ∈ words1.filter isCode, c.before args0 about1 = true := by
  rw [codes_eq]
  intro c hc
  simp only [codes1, List.mem_cons, List.not_mem_nil, or_false] at hc
  rcases hc with rfl | rfl | rfl | rfl | rfl | rfl | rfl | rfl | rfl | rfl
  · exact w_c0
  · exact w_c1
  · exact w_c2
  · exact w_c3
  · exact w_c4
  · exact w_c5
  · exact w_c6
  · exact w_c7
  · exact w_c8
  · exact w_c9
set_option maxRecDepth 65536 in
theorem w_t1 : (words1.take 24).all (fun c => isCode c || c.before args0 about1) = true := by decide +kernel
set_option maxRecDepth 65536 in
theorem w_t2 : ((words1.drop 24).take 24).all (fun c => isCode c || c.before args0 about1) = true := by decide +kernel
set_option maxRecDepth 65536 in
theorem w_t3 : (((words1.drop 24).drop 24).take 24).all (fun c => isCode c || c.before args0 about1) = true := by decide +kernel
set_option maxRecDepth 65536 in
theorem w_t4 : ((((words1.drop 24).drop 24).drop 24).take 24).all (fun c => isCode c || c.before args0 about1) = true := by decide +kernel
set_option maxRecDepth 65536 in
theorem w_t5 : ((((words1.drop 24).drop 24).drop 24).drop 24).all (fun c => isCode c || c.before args0 about1) = true := by decide +kernel
theorem w_tables : (allAtoms (Jvm.Cond.code x code maxLocals ret :: tables_1)).before args0 about1 = true := by
  rw [allAtoms_all]
  show words1.all (fun c => c.before args0 about1) = true
  refine all_split ?_ w_codes
  rw [← List.take_append_drop 24 words1, List.all_append, w_t1, ← List.take_append_drop 24 (words1.drop 24), List.all_append, w_t2, ← List.take_append_drop 24 ((words1.drop 24).drop 24), List.all_append, w_t3, ← List.take_append_drop 24 (((words1.drop 24).drop 24).drop 24), List.all_append, w_t4, w_t5]
  rfl
set_option maxRecDepth 65536 in
theorem w_rest : rest_1_c.before args0 about1 = true := by decide +kernel
set_option maxRecDepth 65536 in
theorem w_case : (Jvm.Cond.and given_1 narrow_1).before args0 about1 = true := by decide +kernel
theorem w_applies : (headSpec (Jvm.Cond.code x code maxLocals ret :: tables_1) room_1).applies x e0.platform about1 = true :=
  (Spec.applies_iff w_frames).mpr ⟨w_running, w_runnable, w_alone, w_named, w_hears, w_ripe, w_room, w_tables⟩
theorem atStart : AtStart classFile x code maxLocals ret World_1 tables_1 room_1 Calls_1 rest_1 Pre_1 launch0 p0 e0 about1 theMethod args0 below0 :=
  ⟨lists_1, trivial, launch0.admits_env _ _ _, launch0.least_env, fairChoices_fair.cas, fairChoices_fair.clock, w_frames, w_args, w_heap, w_applies, trivial, w_rest, w_case⟩
end start1
theorem witness_1 : WitnessClaimed_1 := ⟨start1.p0, start1.e0, start1.about1, start1.theMethod, start1.args0, start1.below0, start1.atStart⟩
end Jvm.Pilot.@@N@@
