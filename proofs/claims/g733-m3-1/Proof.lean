import JvmDerived
import JvmDerived.Pilot.@@N@@Statement
import JvmDerived.Pilot.@@N@@Code
set_option linter.unusedVariables false
set_option linter.unusedSimpArgs false
@@BLOCK:NumsL.lean.txt@@
namespace Jvm.Pilot.@@N@@
open Jvm Jvm.ClassFile Sem Op Lib Jvm.Free Jvm.Stand Jvm.LawKit Jvm.RoadKit Bundle Jvm.Pilot.@@N@@.Jvm.D
/-- the run from t comes to a state of G -/
def Go (p : Program) (e : Env) (below : List Frame) (G : State → Prop) (t : State) : Prop := ∃ s₂, Steps p.tables e below t s₂ ∧ G s₂
/-- the end of a body -/
def Done (below : List Frame) (s : State) (n0 : Nat) (Q : Option Value → Heap → Prop) (C N : Nat) (s₂ : State) : Prop := ∃ o, s₂.status = .running ∧ Ended s₂ below o ∧ ∃ v L, o = .returned v ∧ (Fr n0 L ∧ Q v s₂.heap) ∧ FrameEnd s o s₂ L C N
def Val (Q : Value → Heap → Prop) : Option Value → Heap → Prop := fun o h => ∃ v, o = some v ∧ Q v h
def Non (Q : Heap → Prop) : Option Value → Heap → Prop := fun o h => o = none ∧ Q h
theorem go_of {p : Program} {e : Env} {below : List Frame} {G : State → Prop} {t t' : State} (f : ∀ target, Steps p.tables e below t' target → Steps p.tables e below t target) (k : Go p e below G t') : Go p e below G t := by
  obtain ⟨s₂, h, g⟩ := k; exact ⟨s₂, f _ h, g⟩
/-- where a run stands: the heap, fresh writes only, the body's own facts -/
def Sd (l : Launch) (Z : State) (n0 : Nat) (y : MethodName) (bytes : ByteArray) (maxL : Nat) (ret : Option FieldType) (R : Room) (p : Program) (e : Env) (s : State) (m : MethodId) (args : Array Value) (below : List Frame) (T : State) (h : Heap) (cells slots : Nat) : Prop :=
  ∃ meth c locs, Stand p l e R s m args below meth c T locs cells slots ∧ T.heap = h ∧ Fr n0 locs ∧ p.tables.exec = Jvm.exec ∧ c.code = bytes ∧ c.maxLocals = maxL ∧ s.vm.findClass y.cls = some m.cls ∧ meth.name = y.name ∧ meth.sig.returnType = ret ∧ meth.locks = false ∧ Z.Warmed39 s.vm ∧ n0 ≤ s.heap.size
/-- a body's contract -/
def Con (l : Launch) (Z : State) (n0 : Nat) (y : MethodName) (bytes : ByteArray) (maxL : Nat) (ret : Option FieldType) (rm : Room) (as' : Array Value) (h : Heap) (Q : Option Value → Heap → Prop) : Prop :=
  ∀ ws, MetFree l y (head1 (Jvm.Cond.code y bytes maxL ret :: ws) rm) (fun a U => a = as' ∧ Z.Warmed39 U.vm ∧ U.heap = h) (fun _ _ _ _ _ => True) (fun _ U o U' => ∃ v L, o = .returned v ∧ (Fr n0 L ∧ Q v U'.heap) ∧ FrameEnd U o U' L rm.cells rm.slots)
theorem con_intro {l : Launch} {Z : State} {n0 : Nat} {y : MethodName} {bytes : ByteArray} {maxL : Nat} {ret : Option FieldType} {rm : Room} {as' : Array Value} {h : Heap} {Q : Option Value → Heap → Prop} (hp : plainFor y = true) (hn : n0 ≤ h.size) {fr : MethodId → JFrame} (ef : ∀ m, entryFrame m as' maxL = fr m)
    (body : ∀ p e s m below s₁, s.heap = h → Sd l Z n0 y bytes maxL ret rm p e s m as' below s₁ h 0 0 → Go p e below (Done below s n0 Q rm.cells rm.slots) (s₁.setTop (fr m))) : Con l Z n0 y bytes maxL ret rm as' h Q := by
  intro ws
  refine MetFree.of_bodySF hp hisR ?_
  intro p e s m args below meth c s₁ Bd hml0 hP hK
  obtain ⟨rfl, hZ, hh⟩ := hP
  have e0 : s₁.heap = h := by rw [← hh, Bd.state]; rfl
  obtain ⟨s₂, st, o, r1, r2, r3⟩ := body p e s m below s₁ hh ⟨meth, c, [], Stand.of_body Bd, e0, Fr.nil n0, Bd.exec, Bd.bytes, hml0, findClass_of_methodNamed Bd.named, (name_of_methodNamed Bd.named Bd.method).1, Bd.returns, Bd.notSynchronized, hZ, by rw [hh]; exact hn⟩
  exact ⟨s₂, o, castTop (ef m) st, r1, r2, r3⟩
theorem con_mono {l : Launch} {Z : State} {n0 : Nat} {y : MethodName} {bytes : ByteArray} {maxL : Nat} {ret : Option FieldType} {rm : Room} {as' : Array Value} {h : Heap} {Q Q' : Option Value → Heap → Prop} (hq : ∀ v h', Q v h' → Q' v h') (H : Con l Z n0 y bytes maxL ret rm as' h Q) : Con l Z n0 y bytes maxL ret rm as' h Q' := by
  intro ws p e ha hc hk s m args below hf happ hP hK
  obtain ⟨n, o, h1, h2, h3, v, L, h4, h5, h6⟩ := H ws p e ha hc hk s m args below hf happ hP hK
  exact ⟨n, o, h1, h2, h3, v, L, h4, ⟨h5.1, hq _ _ h5.2⟩, h6⟩
section Walk
variable {l : Launch} {Z : State} {n0 : Nat} {y : MethodName} {bytes : ByteArray} {maxL : Nat} {ret : Option FieldType} {R : Room} {p : Program} {e : Env} {s : State} {m : MethodId} {args : Array Value} {below : List Frame} {T : State} {h : Heap} {cells slots : Nat} {G : State → Prop} {a0 : Array Value} {pc pc' : Nat} {Ls : Array Slot} {S : List Value}
theorem sd_more (X : Sd l Z n0 y bytes maxL ret R p e s m args below T h cells slots) {cells' slots' : Nat} (hc : cells ≤ cells') (hs : slots ≤ slots') : Sd l Z n0 y bytes maxL ret R p e s m args below T h cells' slots' := by
  obtain ⟨meth, c, locs, X, r⟩ := X; exact ⟨meth, c, locs, X.more hc hs, r⟩
theorem sd_size (X : Sd l Z n0 y bytes maxL ret R p e s m args below T h cells slots) : n0 ≤ h.size := by
  obtain ⟨meth, c, locs, X, rfl, -, -, -, -, -, -, -, -, -, hn⟩ := X
  exact Nat.le_trans hn X.same.2.1
theorem sd_ext (X : Sd l Z n0 y bytes maxL ret R p e s m args below T h cells slots) {h0 : Heap} (hs : s.heap = h0) (hN : h0.size ≤ n0) : Ext h0 h := by
  obtain ⟨meth, c, locs, X, rfl, N, -⟩ := X
  subst hs
  refine ⟨X.same.2.1, fun a ca ha => ?_⟩
  obtain ⟨c', h1, h2, h3, h4⟩ := X.same.2.2.2.2.2 a ca ha
  have hlt : a < s.heap.size := (Array.getElem?_eq_some_iff.mp ha).1
  have e : c'.slots = ca.slots := by
    apply Array.ext_getElem?
    intro i
    exact h4 i (fun q => Nat.lt_irrefl _ (Nat.lt_of_lt_of_le hlt (Nat.le_trans hN (N _ q))))
  rw [e] at h2
  rw [h2] at h1
  exact h1
theorem w_iloadN (X : Sd l Z n0 y bytes maxL ret R p e s m args below T h cells slots) {k : Fin 4} {v : Int32} (hd : decode bytes pc = .ok (.iload_n k, 1)) (hl : Ls[k.val]? = some (.val (.int v))) (hp : pc' = pc + 1) (K : Go p e below G (T.setTop (mkF m pc' Ls (.int v :: S)))) : Go p e below G (T.setTop (mkF m pc Ls S)) := by
  obtain ⟨meth, c, locs, X, eT, N, hx, hby, hml, hown, hnm, hret, hlk, hZ, hn⟩ := X; subst hp
  exact go_of (fun _ k => XS.iloadN (g := (mkF m pc Ls S)) X.here hx rfl (hb hby hd) hl k) K
theorem w_iload (X : Sd l Z n0 y bytes maxL ret R p e s m args below T h cells slots) {k : Nat} {v : Int32} (hd : decode bytes pc = .ok (.iload k, 2)) (hl : Ls[k]? = some (.val (.int v))) (hp : pc' = pc + 2) (K : Go p e below G (T.setTop (mkF m pc' Ls (.int v :: S)))) : Go p e below G (T.setTop (mkF m pc Ls S)) := by
  obtain ⟨meth, c, locs, X, eT, N, hx, hby, hml, hown, hnm, hret, hlk, hZ, hn⟩ := X; subst hp
  exact go_of (fun _ k => XS.iload (g := (mkF m pc Ls S)) X.here hx rfl (hb hby hd) hl k) K
theorem w_istoreN (X : Sd l Z n0 y bytes maxL ret R p e s m args below T h cells slots) {k : Fin 4} {v : Int32} {l' : Array Slot} (hd : decode bytes pc = .ok (.istore_n k, 1)) (hl : storeLocals Ls k.val (.int v) = some l') (hp : pc' = pc + 1) (K : Go p e below G (T.setTop (mkF m pc' l' S))) : Go p e below G (T.setTop (mkF m pc Ls (.int v :: S))) := by
  obtain ⟨meth, c, locs, X, eT, N, hx, hby, hml, hown, hnm, hret, hlk, hZ, hn⟩ := X; subst hp
  exact go_of (fun _ k => XS.istoreN (g := (mkF m pc Ls (.int v :: S))) X.here hx rfl (hb hby hd) rfl hl k) K
theorem w_istore (X : Sd l Z n0 y bytes maxL ret R p e s m args below T h cells slots) {k : Nat} {v : Int32} {l' : Array Slot} (hd : decode bytes pc = .ok (.istore k, 2)) (hl : storeLocals Ls k (.int v) = some l') (hp : pc' = pc + 2) (K : Go p e below G (T.setTop (mkF m pc' l' S))) : Go p e below G (T.setTop (mkF m pc Ls (.int v :: S))) := by
  obtain ⟨meth, c, locs, X, eT, N, hx, hby, hml, hown, hnm, hret, hlk, hZ, hn⟩ := X; subst hp
  exact go_of (fun _ k => XS.istore (g := (mkF m pc Ls (.int v :: S))) X.here hx rfl (hb hby hd) rfl hl k) K
theorem w_lloadN (X : Sd l Z n0 y bytes maxL ret R p e s m args below T h cells slots) {k : Fin 4} {v : Int64} (hd : decode bytes pc = .ok (.lload_n k, 1)) (hl : Ls[k.val]? = some (.val (.long v))) (hp : pc' = pc + 1) (K : Go p e below G (T.setTop (mkF m pc' Ls (.long v :: S)))) : Go p e below G (T.setTop (mkF m pc Ls S)) := by
  obtain ⟨meth, c, locs, X, eT, N, hx, hby, hml, hown, hnm, hret, hlk, hZ, hn⟩ := X; subst hp
  exact go_of (fun _ k => XS.lloadN (g := (mkF m pc Ls S)) X.here hx rfl (hb hby hd) hl k) K
theorem w_lload (X : Sd l Z n0 y bytes maxL ret R p e s m args below T h cells slots) {k : Nat} {v : Int64} (hd : decode bytes pc = .ok (.lload k, 2)) (hl : Ls[k]? = some (.val (.long v))) (hp : pc' = pc + 2) (K : Go p e below G (T.setTop (mkF m pc' Ls (.long v :: S)))) : Go p e below G (T.setTop (mkF m pc Ls S)) := by
  obtain ⟨meth, c, locs, X, eT, N, hx, hby, hml, hown, hnm, hret, hlk, hZ, hn⟩ := X; subst hp
  exact go_of (fun _ k => XS.lload (g := (mkF m pc Ls S)) X.here hx rfl (hb hby hd) hl k) K
theorem w_lstoreN (X : Sd l Z n0 y bytes maxL ret R p e s m args below T h cells slots) {k : Fin 4} {v : Int64} {l' : Array Slot} (hd : decode bytes pc = .ok (.lstore_n k, 1)) (hl : storeLocals Ls k.val (.long v) = some l') (hp : pc' = pc + 1) (K : Go p e below G (T.setTop (mkF m pc' l' S))) : Go p e below G (T.setTop (mkF m pc Ls (.long v :: S))) := by
  obtain ⟨meth, c, locs, X, eT, N, hx, hby, hml, hown, hnm, hret, hlk, hZ, hn⟩ := X; subst hp
  exact go_of (fun _ k => XS.lstoreN (g := (mkF m pc Ls (.long v :: S))) X.here hx rfl (hb hby hd) rfl hl k) K
theorem w_lstore (X : Sd l Z n0 y bytes maxL ret R p e s m args below T h cells slots) {k : Nat} {v : Int64} {l' : Array Slot} (hd : decode bytes pc = .ok (.lstore k, 2)) (hl : storeLocals Ls k (.long v) = some l') (hp : pc' = pc + 2) (K : Go p e below G (T.setTop (mkF m pc' l' S))) : Go p e below G (T.setTop (mkF m pc Ls (.long v :: S))) := by
  obtain ⟨meth, c, locs, X, eT, N, hx, hby, hml, hown, hnm, hret, hlk, hZ, hn⟩ := X; subst hp
  exact go_of (fun _ k => XS.lstore (g := (mkF m pc Ls (.long v :: S))) X.here hx rfl (hb hby hd) rfl hl k) K
theorem w_aloadN (X : Sd l Z n0 y bytes maxL ret R p e s m args below T h cells slots) {k : Fin 4} {v : Value} (hd : decode bytes pc = .ok (.aload_n k, 1)) (hl : Ls[k.val]? = some (.val v)) (hv : v.isRef = true) (hp : pc' = pc + 1) (K : Go p e below G (T.setTop (mkF m pc' Ls (v :: S)))) : Go p e below G (T.setTop (mkF m pc Ls S)) := by
  obtain ⟨meth, c, locs, X, eT, N, hx, hby, hml, hown, hnm, hret, hlk, hZ, hn⟩ := X; subst hp
  exact go_of (fun _ k => XS.aloadN (g := (mkF m pc Ls S)) X.here hx rfl (hb hby hd) hl hv k) K
theorem w_aload (X : Sd l Z n0 y bytes maxL ret R p e s m args below T h cells slots) {k : Nat} {v : Value} (hd : decode bytes pc = .ok (.aload k, 2)) (hl : Ls[k]? = some (.val v)) (hv : v.isRef = true) (hp : pc' = pc + 2) (K : Go p e below G (T.setTop (mkF m pc' Ls (v :: S)))) : Go p e below G (T.setTop (mkF m pc Ls S)) := by
  obtain ⟨meth, c, locs, X, eT, N, hx, hby, hml, hown, hnm, hret, hlk, hZ, hn⟩ := X; subst hp
  exact go_of (fun _ k => XS.aload (g := (mkF m pc Ls S)) X.here hx rfl (hb hby hd) hl hv k) K
theorem w_astoreN (X : Sd l Z n0 y bytes maxL ret R p e s m args below T h cells slots) {k : Fin 4} {v : Value} {l' : Array Slot} (hd : decode bytes pc = .ok (.astore_n k, 1)) (hv : v.isRef = true) (hl : storeLocals Ls k.val v = some l') (hp : pc' = pc + 1) (K : Go p e below G (T.setTop (mkF m pc' l' S))) : Go p e below G (T.setTop (mkF m pc Ls (v :: S))) := by
  obtain ⟨meth, c, locs, X, eT, N, hx, hby, hml, hown, hnm, hret, hlk, hZ, hn⟩ := X; subst hp
  exact go_of (fun _ k => XS.astoreN (g := (mkF m pc Ls (v :: S))) X.here hx rfl (hb hby hd) rfl hv hl k) K
theorem w_astore (X : Sd l Z n0 y bytes maxL ret R p e s m args below T h cells slots) {k : Nat} {v : Value} {l' : Array Slot} (hd : decode bytes pc = .ok (.astore k, 2)) (hv : v.isRef = true) (hl : storeLocals Ls k v = some l') (hp : pc' = pc + 2) (K : Go p e below G (T.setTop (mkF m pc' l' S))) : Go p e below G (T.setTop (mkF m pc Ls (v :: S))) := by
  obtain ⟨meth, c, locs, X, eT, N, hx, hby, hml, hown, hnm, hret, hlk, hZ, hn⟩ := X; subst hp
  exact go_of (fun _ k => XS.astore (g := (mkF m pc Ls (v :: S))) X.here hx rfl (hb hby hd) rfl hv hl k) K
theorem w_iconst (X : Sd l Z n0 y bytes maxL ret R p e s m args below T h cells slots) {i : Int} (z : Int32) (hd : decode bytes pc = .ok (.iconst i, 1)) (hz : Int32.ofInt i = z) (hp : pc' = pc + 1) (K : Go p e below G (T.setTop (mkF m pc' Ls (.int z :: S)))) : Go p e below G (T.setTop (mkF m pc Ls S)) := by
  obtain ⟨meth, c, locs, X, eT, N, hx, hby, hml, hown, hnm, hret, hlk, hZ, hn⟩ := X; subst hp
  exact go_of (fun _ k => XS.iconst (g := mkF m pc Ls S) X.here hx rfl (hb hby hd) (by rw [hz]; exact k)) K
theorem w_bipush (X : Sd l Z n0 y bytes maxL ret R p e s m args below T h cells slots) {i : Int} (z : Int32) (hd : decode bytes pc = .ok (.bipush i, 2)) (hz : (Int8.ofInt i).toInt32 = z) (hp : pc' = pc + 2) (K : Go p e below G (T.setTop (mkF m pc' Ls (.int z :: S)))) : Go p e below G (T.setTop (mkF m pc Ls S)) := by
  obtain ⟨meth, c, locs, X, eT, N, hx, hby, hml, hown, hnm, hret, hlk, hZ, hn⟩ := X; subst hp
  exact go_of (fun _ k => XS.bipush (g := mkF m pc Ls S) X.here hx rfl (hb hby hd) (by rw [hz]; exact k)) K
theorem w_sipush (X : Sd l Z n0 y bytes maxL ret R p e s m args below T h cells slots) {i : Int} (z : Int32) (hd : decode bytes pc = .ok (.sipush i, 3)) (hz : (Int16.ofInt i).toInt32 = z) (hp : pc' = pc + 3) (K : Go p e below G (T.setTop (mkF m pc' Ls (.int z :: S)))) : Go p e below G (T.setTop (mkF m pc Ls S)) := by
  obtain ⟨meth, c, locs, X, eT, N, hx, hby, hml, hown, hnm, hret, hlk, hZ, hn⟩ := X; subst hp
  exact go_of (fun _ k => XS.sipush (g := mkF m pc Ls S) X.here hx rfl (hb hby hd) (by rw [hz]; exact k)) K
theorem w_lconst (X : Sd l Z n0 y bytes maxL ret R p e s m args below T h cells slots) {i : Fin 2} (z : Int64) (hd : decode bytes pc = .ok (.lconst i, 1)) (hz : Int64.ofNat i = z) (hp : pc' = pc + 1) (K : Go p e below G (T.setTop (mkF m pc' Ls (.long z :: S)))) : Go p e below G (T.setTop (mkF m pc Ls S)) := by
  obtain ⟨meth, c, locs, X, eT, N, hx, hby, hml, hown, hnm, hret, hlk, hZ, hn⟩ := X; subst hp
  exact go_of (fun _ k => XS.lconst (g := mkF m pc Ls S) X.here hx rfl (hb hby hd) (by rw [hz]; exact k)) K
theorem w_aconst_null (X : Sd l Z n0 y bytes maxL ret R p e s m args below T h cells slots)  (hd : decode bytes pc = .ok (.aconst_null, 1)) (hp : pc' = pc + 1) (K : Go p e below G (T.setTop (mkF m pc' Ls (.null :: S)))) : Go p e below G (T.setTop (mkF m pc Ls S)) := by
  obtain ⟨meth, c, locs, X, eT, N, hx, hby, hml, hown, hnm, hret, hlk, hZ, hn⟩ := X; subst hp
  exact go_of (fun _ k => XS.aconstNull (g := (mkF m pc Ls S)) X.here hx rfl (hb hby hd)  k) K
theorem w_iadd (X : Sd l Z n0 y bytes maxL ret R p e s m args below T h cells slots) {a b : Int32} (hd : decode bytes pc = .ok (.iadd, 1)) (hp : pc' = pc + 1) (K : Go p e below G (T.setTop (mkF m pc' Ls (.int (a + b) :: S)))) : Go p e below G (T.setTop (mkF m pc Ls (.int b :: .int a :: S))) := by
  obtain ⟨meth, c, locs, X, eT, N, hx, hby, hml, hown, hnm, hret, hlk, hZ, hn⟩ := X; subst hp
  exact go_of (fun _ k => XS.iadd (g := (mkF m pc Ls (.int b :: .int a :: S))) X.here hx rfl (hb hby hd) rfl k) K
theorem w_ladd (X : Sd l Z n0 y bytes maxL ret R p e s m args below T h cells slots) {a b : Int64} (hd : decode bytes pc = .ok (.ladd, 1)) (hp : pc' = pc + 1) (K : Go p e below G (T.setTop (mkF m pc' Ls (.long (a + b) :: S)))) : Go p e below G (T.setTop (mkF m pc Ls (.long b :: .long a :: S))) := by
  obtain ⟨meth, c, locs, X, eT, N, hx, hby, hml, hown, hnm, hret, hlk, hZ, hn⟩ := X; subst hp
  exact go_of (fun _ k => XS.ladd (g := (mkF m pc Ls (.long b :: .long a :: S))) X.here hx rfl (hb hby hd) rfl k) K
theorem w_isub (X : Sd l Z n0 y bytes maxL ret R p e s m args below T h cells slots) {a b : Int32} (hd : decode bytes pc = .ok (.isub, 1)) (hp : pc' = pc + 1) (K : Go p e below G (T.setTop (mkF m pc' Ls (.int (a - b) :: S)))) : Go p e below G (T.setTop (mkF m pc Ls (.int b :: .int a :: S))) := by
  obtain ⟨meth, c, locs, X, eT, N, hx, hby, hml, hown, hnm, hret, hlk, hZ, hn⟩ := X; subst hp
  exact go_of (fun _ k => XS.isub (g := (mkF m pc Ls (.int b :: .int a :: S))) X.here hx rfl (hb hby hd) rfl k) K
theorem w_lsub (X : Sd l Z n0 y bytes maxL ret R p e s m args below T h cells slots) {a b : Int64} (hd : decode bytes pc = .ok (.lsub, 1)) (hp : pc' = pc + 1) (K : Go p e below G (T.setTop (mkF m pc' Ls (.long (a - b) :: S)))) : Go p e below G (T.setTop (mkF m pc Ls (.long b :: .long a :: S))) := by
  obtain ⟨meth, c, locs, X, eT, N, hx, hby, hml, hown, hnm, hret, hlk, hZ, hn⟩ := X; subst hp
  exact go_of (fun _ k => XS.lsub (g := (mkF m pc Ls (.long b :: .long a :: S))) X.here hx rfl (hb hby hd) rfl k) K
theorem w_imul (X : Sd l Z n0 y bytes maxL ret R p e s m args below T h cells slots) {a b : Int32} (hd : decode bytes pc = .ok (.imul, 1)) (hp : pc' = pc + 1) (K : Go p e below G (T.setTop (mkF m pc' Ls (.int (a * b) :: S)))) : Go p e below G (T.setTop (mkF m pc Ls (.int b :: .int a :: S))) := by
  obtain ⟨meth, c, locs, X, eT, N, hx, hby, hml, hown, hnm, hret, hlk, hZ, hn⟩ := X; subst hp
  exact go_of (fun _ k => XS.imul (g := (mkF m pc Ls (.int b :: .int a :: S))) X.here hx rfl (hb hby hd) rfl k) K
theorem w_lmul (X : Sd l Z n0 y bytes maxL ret R p e s m args below T h cells slots) {a b : Int64} (hd : decode bytes pc = .ok (.lmul, 1)) (hp : pc' = pc + 1) (K : Go p e below G (T.setTop (mkF m pc' Ls (.long (a * b) :: S)))) : Go p e below G (T.setTop (mkF m pc Ls (.long b :: .long a :: S))) := by
  obtain ⟨meth, c, locs, X, eT, N, hx, hby, hml, hown, hnm, hret, hlk, hZ, hn⟩ := X; subst hp
  exact go_of (fun _ k => XS.lmul (g := (mkF m pc Ls (.long b :: .long a :: S))) X.here hx rfl (hb hby hd) rfl k) K
theorem w_iand (X : Sd l Z n0 y bytes maxL ret R p e s m args below T h cells slots) {a b : Int32} (hd : decode bytes pc = .ok (.iand, 1)) (hp : pc' = pc + 1) (K : Go p e below G (T.setTop (mkF m pc' Ls (.int (a &&& b) :: S)))) : Go p e below G (T.setTop (mkF m pc Ls (.int b :: .int a :: S))) := by
  obtain ⟨meth, c, locs, X, eT, N, hx, hby, hml, hown, hnm, hret, hlk, hZ, hn⟩ := X; subst hp
  exact go_of (fun _ k => XS.iand (g := (mkF m pc Ls (.int b :: .int a :: S))) X.here hx rfl (hb hby hd) rfl k) K
theorem w_land (X : Sd l Z n0 y bytes maxL ret R p e s m args below T h cells slots) {a b : Int64} (hd : decode bytes pc = .ok (.land, 1)) (hp : pc' = pc + 1) (K : Go p e below G (T.setTop (mkF m pc' Ls (.long (a &&& b) :: S)))) : Go p e below G (T.setTop (mkF m pc Ls (.long b :: .long a :: S))) := by
  obtain ⟨meth, c, locs, X, eT, N, hx, hby, hml, hown, hnm, hret, hlk, hZ, hn⟩ := X; subst hp
  exact go_of (fun _ k => XS.land (g := (mkF m pc Ls (.long b :: .long a :: S))) X.here hx rfl (hb hby hd) rfl k) K
theorem w_ior (X : Sd l Z n0 y bytes maxL ret R p e s m args below T h cells slots) {a b : Int32} (hd : decode bytes pc = .ok (.ior, 1)) (hp : pc' = pc + 1) (K : Go p e below G (T.setTop (mkF m pc' Ls (.int (a ||| b) :: S)))) : Go p e below G (T.setTop (mkF m pc Ls (.int b :: .int a :: S))) := by
  obtain ⟨meth, c, locs, X, eT, N, hx, hby, hml, hown, hnm, hret, hlk, hZ, hn⟩ := X; subst hp
  exact go_of (fun _ k => XS.ior (g := (mkF m pc Ls (.int b :: .int a :: S))) X.here hx rfl (hb hby hd) rfl k) K
theorem w_lor (X : Sd l Z n0 y bytes maxL ret R p e s m args below T h cells slots) {a b : Int64} (hd : decode bytes pc = .ok (.lor, 1)) (hp : pc' = pc + 1) (K : Go p e below G (T.setTop (mkF m pc' Ls (.long (a ||| b) :: S)))) : Go p e below G (T.setTop (mkF m pc Ls (.long b :: .long a :: S))) := by
  obtain ⟨meth, c, locs, X, eT, N, hx, hby, hml, hown, hnm, hret, hlk, hZ, hn⟩ := X; subst hp
  exact go_of (fun _ k => XS.lor (g := (mkF m pc Ls (.long b :: .long a :: S))) X.here hx rfl (hb hby hd) rfl k) K
theorem w_ixor (X : Sd l Z n0 y bytes maxL ret R p e s m args below T h cells slots) {a b : Int32} (hd : decode bytes pc = .ok (.ixor, 1)) (hp : pc' = pc + 1) (K : Go p e below G (T.setTop (mkF m pc' Ls (.int (a ^^^ b) :: S)))) : Go p e below G (T.setTop (mkF m pc Ls (.int b :: .int a :: S))) := by
  obtain ⟨meth, c, locs, X, eT, N, hx, hby, hml, hown, hnm, hret, hlk, hZ, hn⟩ := X; subst hp
  exact go_of (fun _ k => XS.ixor (g := (mkF m pc Ls (.int b :: .int a :: S))) X.here hx rfl (hb hby hd) rfl k) K
theorem w_lxor (X : Sd l Z n0 y bytes maxL ret R p e s m args below T h cells slots) {a b : Int64} (hd : decode bytes pc = .ok (.lxor, 1)) (hp : pc' = pc + 1) (K : Go p e below G (T.setTop (mkF m pc' Ls (.long (a ^^^ b) :: S)))) : Go p e below G (T.setTop (mkF m pc Ls (.long b :: .long a :: S))) := by
  obtain ⟨meth, c, locs, X, eT, N, hx, hby, hml, hown, hnm, hret, hlk, hZ, hn⟩ := X; subst hp
  exact go_of (fun _ k => XS.lxor (g := (mkF m pc Ls (.long b :: .long a :: S))) X.here hx rfl (hb hby hd) rfl k) K
theorem w_ishl (X : Sd l Z n0 y bytes maxL ret R p e s m args below T h cells slots) {a b : Int32} (hd : decode bytes pc = .ok (.ishl, 1)) (hp : pc' = pc + 1) (K : Go p e below G (T.setTop (mkF m pc' Ls (.int (a <<< (b &&& 31)) :: S)))) : Go p e below G (T.setTop (mkF m pc Ls (.int b :: .int a :: S))) := by
  obtain ⟨meth, c, locs, X, eT, N, hx, hby, hml, hown, hnm, hret, hlk, hZ, hn⟩ := X; subst hp
  exact go_of (fun _ k => XS.ishl (g := (mkF m pc Ls (.int b :: .int a :: S))) X.here hx rfl (hb hby hd) rfl k) K
theorem w_ishr (X : Sd l Z n0 y bytes maxL ret R p e s m args below T h cells slots) {a b : Int32} (hd : decode bytes pc = .ok (.ishr, 1)) (hp : pc' = pc + 1) (K : Go p e below G (T.setTop (mkF m pc' Ls (.int (a >>> (b &&& 31)) :: S)))) : Go p e below G (T.setTop (mkF m pc Ls (.int b :: .int a :: S))) := by
  obtain ⟨meth, c, locs, X, eT, N, hx, hby, hml, hown, hnm, hret, hlk, hZ, hn⟩ := X; subst hp
  exact go_of (fun _ k => XS.ishr (g := (mkF m pc Ls (.int b :: .int a :: S))) X.here hx rfl (hb hby hd) rfl k) K
theorem w_iushr (X : Sd l Z n0 y bytes maxL ret R p e s m args below T h cells slots) {a b : Int32} (hd : decode bytes pc = .ok (.iushr, 1)) (hp : pc' = pc + 1) (K : Go p e below G (T.setTop (mkF m pc' Ls (.int ((a.toUInt32 >>> (b &&& 31).toUInt32).toInt32) :: S)))) : Go p e below G (T.setTop (mkF m pc Ls (.int b :: .int a :: S))) := by
  obtain ⟨meth, c, locs, X, eT, N, hx, hby, hml, hown, hnm, hret, hlk, hZ, hn⟩ := X; subst hp
  exact go_of (fun _ k => XS.iushr (g := (mkF m pc Ls (.int b :: .int a :: S))) X.here hx rfl (hb hby hd) rfl k) K
theorem w_lshl (X : Sd l Z n0 y bytes maxL ret R p e s m args below T h cells slots) {a : Int64} {b : Int32} (hd : decode bytes pc = .ok (.lshl, 1)) (hp : pc' = pc + 1) (K : Go p e below G (T.setTop (mkF m pc' Ls (.long (a <<< (b &&& 0x3f).toInt64) :: S)))) : Go p e below G (T.setTop (mkF m pc Ls (.int b :: .long a :: S))) := by
  obtain ⟨meth, c, locs, X, eT, N, hx, hby, hml, hown, hnm, hret, hlk, hZ, hn⟩ := X; subst hp
  exact go_of (fun _ k => XS.lshl (g := (mkF m pc Ls (.int b :: .long a :: S))) X.here hx rfl (hb hby hd) rfl k) K
theorem w_lshr (X : Sd l Z n0 y bytes maxL ret R p e s m args below T h cells slots) {a : Int64} {b : Int32} (hd : decode bytes pc = .ok (.lshr, 1)) (hp : pc' = pc + 1) (K : Go p e below G (T.setTop (mkF m pc' Ls (.long (a >>> (b &&& 0x3f).toInt64) :: S)))) : Go p e below G (T.setTop (mkF m pc Ls (.int b :: .long a :: S))) := by
  obtain ⟨meth, c, locs, X, eT, N, hx, hby, hml, hown, hnm, hret, hlk, hZ, hn⟩ := X; subst hp
  exact go_of (fun _ k => XS.lshr (g := (mkF m pc Ls (.int b :: .long a :: S))) X.here hx rfl (hb hby hd) rfl k) K
theorem w_lushr (X : Sd l Z n0 y bytes maxL ret R p e s m args below T h cells slots) {a : Int64} {b : Int32} (hd : decode bytes pc = .ok (.lushr, 1)) (hp : pc' = pc + 1) (K : Go p e below G (T.setTop (mkF m pc' Ls (.long ((a.toUInt64 >>> (b &&& 0x3f).toInt64.toUInt64).toInt64) :: S)))) : Go p e below G (T.setTop (mkF m pc Ls (.int b :: .long a :: S))) := by
  obtain ⟨meth, c, locs, X, eT, N, hx, hby, hml, hown, hnm, hret, hlk, hZ, hn⟩ := X; subst hp
  exact go_of (fun _ k => XS.lushr (g := (mkF m pc Ls (.int b :: .long a :: S))) X.here hx rfl (hb hby hd) rfl k) K
theorem w_idiv (X : Sd l Z n0 y bytes maxL ret R p e s m args below T h cells slots) {a b : Int32} (hd : decode bytes pc = .ok (.idiv, 1)) (hz : b ≠ 0) (hp : pc' = pc + 1) (K : Go p e below G (T.setTop (mkF m pc' Ls (.int (a / b) :: S)))) : Go p e below G (T.setTop (mkF m pc Ls (.int b :: .int a :: S))) := by
  obtain ⟨meth, c, locs, X, eT, N, hx, hby, hml, hown, hnm, hret, hlk, hZ, hn⟩ := X; subst hp
  exact go_of (fun _ k => XS.idiv (g := (mkF m pc Ls (.int b :: .int a :: S))) X.here hx rfl (hb hby hd) rfl hz k) K
theorem w_ldiv (X : Sd l Z n0 y bytes maxL ret R p e s m args below T h cells slots) {a b : Int64} (hd : decode bytes pc = .ok (.ldiv, 1)) (hz : b ≠ 0) (hp : pc' = pc + 1) (K : Go p e below G (T.setTop (mkF m pc' Ls (.long (a / b) :: S)))) : Go p e below G (T.setTop (mkF m pc Ls (.long b :: .long a :: S))) := by
  obtain ⟨meth, c, locs, X, eT, N, hx, hby, hml, hown, hnm, hret, hlk, hZ, hn⟩ := X; subst hp
  exact go_of (fun _ k => XS.ldiv (g := (mkF m pc Ls (.long b :: .long a :: S))) X.here hx rfl (hb hby hd) rfl hz k) K
theorem w_irem (X : Sd l Z n0 y bytes maxL ret R p e s m args below T h cells slots) {a b : Int32} (hd : decode bytes pc = .ok (.irem, 1)) (hz : b ≠ 0) (hp : pc' = pc + 1) (K : Go p e below G (T.setTop (mkF m pc' Ls (.int (a % b) :: S)))) : Go p e below G (T.setTop (mkF m pc Ls (.int b :: .int a :: S))) := by
  obtain ⟨meth, c, locs, X, eT, N, hx, hby, hml, hown, hnm, hret, hlk, hZ, hn⟩ := X; subst hp
  exact go_of (fun _ k => iremM (g := mkF m pc Ls (.int b :: .int a :: S)) X hx rfl (hb hby hd) rfl hz k) K
theorem w_lrem (X : Sd l Z n0 y bytes maxL ret R p e s m args below T h cells slots) {a b : Int64} (hd : decode bytes pc = .ok (.lrem, 1)) (hz : b ≠ 0) (hp : pc' = pc + 1) (K : Go p e below G (T.setTop (mkF m pc' Ls (.long (a % b) :: S)))) : Go p e below G (T.setTop (mkF m pc Ls (.long b :: .long a :: S))) := by
  obtain ⟨meth, c, locs, X, eT, N, hx, hby, hml, hown, hnm, hret, hlk, hZ, hn⟩ := X; subst hp
  exact go_of (fun _ k => XS.lrem (g := mkF m pc Ls (.long b :: .long a :: S)) X.here hx rfl (hb hby hd) rfl hz (by rw [lrem_mod]; exact k)) K
theorem w_ineg (X : Sd l Z n0 y bytes maxL ret R p e s m args below T h cells slots) {a : Int32} (hd : decode bytes pc = .ok (.ineg, 1)) (hp : pc' = pc + 1) (K : Go p e below G (T.setTop (mkF m pc' Ls (.int (-a) :: S)))) : Go p e below G (T.setTop (mkF m pc Ls (.int a :: S))) := by
  obtain ⟨meth, c, locs, X, eT, N, hx, hby, hml, hown, hnm, hret, hlk, hZ, hn⟩ := X; subst hp
  exact go_of (fun _ k => XS.ineg (g := (mkF m pc Ls (.int a :: S))) X.here hx rfl (hb hby hd) rfl k) K
theorem w_lneg (X : Sd l Z n0 y bytes maxL ret R p e s m args below T h cells slots) {a : Int64} (hd : decode bytes pc = .ok (.lneg, 1)) (hp : pc' = pc + 1) (K : Go p e below G (T.setTop (mkF m pc' Ls (.long (-a) :: S)))) : Go p e below G (T.setTop (mkF m pc Ls (.long a :: S))) := by
  obtain ⟨meth, c, locs, X, eT, N, hx, hby, hml, hown, hnm, hret, hlk, hZ, hn⟩ := X; subst hp
  exact go_of (fun _ k => XS.lneg (g := (mkF m pc Ls (.long a :: S))) X.here hx rfl (hb hby hd) rfl k) K
theorem w_i2l (X : Sd l Z n0 y bytes maxL ret R p e s m args below T h cells slots) {a : Int32} (hd : decode bytes pc = .ok (.i2l, 1)) (hp : pc' = pc + 1) (K : Go p e below G (T.setTop (mkF m pc' Ls (.long (a.toInt64) :: S)))) : Go p e below G (T.setTop (mkF m pc Ls (.int a :: S))) := by
  obtain ⟨meth, c, locs, X, eT, N, hx, hby, hml, hown, hnm, hret, hlk, hZ, hn⟩ := X; subst hp
  exact go_of (fun _ k => XS.i2l (g := (mkF m pc Ls (.int a :: S))) X.here hx rfl (hb hby hd) rfl k) K
theorem w_l2i (X : Sd l Z n0 y bytes maxL ret R p e s m args below T h cells slots) {a : Int64} (hd : decode bytes pc = .ok (.l2i, 1)) (hp : pc' = pc + 1) (K : Go p e below G (T.setTop (mkF m pc' Ls (.int (a.toInt32) :: S)))) : Go p e below G (T.setTop (mkF m pc Ls (.long a :: S))) := by
  obtain ⟨meth, c, locs, X, eT, N, hx, hby, hml, hown, hnm, hret, hlk, hZ, hn⟩ := X; subst hp
  exact go_of (fun _ k => XS.l2i (g := (mkF m pc Ls (.long a :: S))) X.here hx rfl (hb hby hd) rfl k) K
theorem w_i2b (X : Sd l Z n0 y bytes maxL ret R p e s m args below T h cells slots) {a : Int32} (hd : decode bytes pc = .ok (.i2b, 1)) (hp : pc' = pc + 1) (K : Go p e below G (T.setTop (mkF m pc' Ls (.int (a.toInt8.toInt32) :: S)))) : Go p e below G (T.setTop (mkF m pc Ls (.int a :: S))) := by
  obtain ⟨meth, c, locs, X, eT, N, hx, hby, hml, hown, hnm, hret, hlk, hZ, hn⟩ := X; subst hp
  exact go_of (fun _ k => XS.i2b (g := (mkF m pc Ls (.int a :: S))) X.here hx rfl (hb hby hd) rfl k) K
theorem w_i2s (X : Sd l Z n0 y bytes maxL ret R p e s m args below T h cells slots) {a : Int32} (hd : decode bytes pc = .ok (.i2s, 1)) (hp : pc' = pc + 1) (K : Go p e below G (T.setTop (mkF m pc' Ls (.int (a.toInt16.toInt32) :: S)))) : Go p e below G (T.setTop (mkF m pc Ls (.int a :: S))) := by
  obtain ⟨meth, c, locs, X, eT, N, hx, hby, hml, hown, hnm, hret, hlk, hZ, hn⟩ := X; subst hp
  exact go_of (fun _ k => XS.i2s (g := (mkF m pc Ls (.int a :: S))) X.here hx rfl (hb hby hd) rfl k) K
theorem w_i2c (X : Sd l Z n0 y bytes maxL ret R p e s m args below T h cells slots) {a : Int32} (hd : decode bytes pc = .ok (.i2c, 1)) (hp : pc' = pc + 1) (K : Go p e below G (T.setTop (mkF m pc' Ls (.int (a.toUInt32.toUInt16.toUInt32.toInt32) :: S)))) : Go p e below G (T.setTop (mkF m pc Ls (.int a :: S))) := by
  obtain ⟨meth, c, locs, X, eT, N, hx, hby, hml, hown, hnm, hret, hlk, hZ, hn⟩ := X; subst hp
  exact go_of (fun _ k => XS.i2c (g := (mkF m pc Ls (.int a :: S))) X.here hx rfl (hb hby hd) rfl k) K
theorem w_lcmp (X : Sd l Z n0 y bytes maxL ret R p e s m args below T h cells slots) {a b : Int64} (hd : decode bytes pc = .ok (.lcmp, 1)) (hp : pc' = pc + 1) (K : Go p e below G (T.setTop (mkF m pc' Ls (.int (lcmpW a b) :: S)))) : Go p e below G (T.setTop (mkF m pc Ls (.long b :: .long a :: S))) := by
  obtain ⟨meth, c, locs, X, eT, N, hx, hby, hml, hown, hnm, hret, hlk, hZ, hn⟩ := X; subst hp
  exact go_of (fun _ k => XS.lcmp (g := (mkF m pc Ls (.long b :: .long a :: S))) X.here hx rfl (hb hby hd) rfl k) K
theorem w_iinc (X : Sd l Z n0 y bytes maxL ret R p e s m args below T h cells slots) {k : Nat} {i : Int} {v : Int32} {l' : Array Slot} (z : Int32) (hd : decode bytes pc = .ok (.iinc k i, 3)) (hl : Ls[k]? = some (.val (.int v))) (hz : v + Int32.ofInt i = z) (hl' : storeLocals Ls k (.int z) = some l') (hp : pc' = pc + 3) (K : Go p e below G (T.setTop (mkF m pc' l' S))) : Go p e below G (T.setTop (mkF m pc Ls S)) := by
  obtain ⟨meth, c, locs, X, eT, N, hx, hby, hml, hown, hnm, hret, hlk, hZ, hn⟩ := X; subst hp
  exact go_of (fun _ k => XS.iinc (g := mkF m pc Ls S) X.here hx rfl (hb hby hd) hl (by rw [hz]; exact hl') k) K
theorem w_dup (X : Sd l Z n0 y bytes maxL ret R p e s m args below T h cells slots) {v : Value} (hd : decode bytes pc = .ok (.dup, 1)) (hc : v.category = 1) (hp : pc' = pc + 1) (K : Go p e below G (T.setTop (mkF m pc' Ls (v :: v :: S)))) : Go p e below G (T.setTop (mkF m pc Ls (v :: S))) := by
  obtain ⟨meth, c, locs, X, eT, N, hx, hby, hml, hown, hnm, hret, hlk, hZ, hn⟩ := X; subst hp
  exact go_of (fun _ k => XS.dup (g := (mkF m pc Ls (v :: S))) X.here hx rfl (hb hby hd) rfl hc k) K
theorem w_pop (X : Sd l Z n0 y bytes maxL ret R p e s m args below T h cells slots) {v : Value} (hd : decode bytes pc = .ok (.pop, 1)) (hc : v.category = 1) (hp : pc' = pc + 1) (K : Go p e below G (T.setTop (mkF m pc' Ls S))) : Go p e below G (T.setTop (mkF m pc Ls (v :: S))) := by
  obtain ⟨meth, c, locs, X, eT, N, hx, hby, hml, hown, hnm, hret, hlk, hZ, hn⟩ := X; subst hp
  exact go_of (fun _ k => XS.pop (g := (mkF m pc Ls (v :: S))) X.here hx rfl (hb hby hd) rfl hc k) K
theorem w_dup_x1 (X : Sd l Z n0 y bytes maxL ret R p e s m args below T h cells slots) {v w : Value} (hd : decode bytes pc = .ok (.dup_x1, 1)) (hc : v.category = 1) (hc2 : w.category = 1) (hp : pc' = pc + 1) (K : Go p e below G (T.setTop (mkF m pc' Ls (v :: w :: v :: S)))) : Go p e below G (T.setTop (mkF m pc Ls (v :: w :: S))) := by
  obtain ⟨meth, c, locs, X, eT, N, hx, hby, hml, hown, hnm, hret, hlk, hZ, hn⟩ := X; subst hp
  exact go_of (fun _ k => XS.dupX1 (g := (mkF m pc Ls (v :: w :: S))) X.here hx rfl (hb hby hd) rfl hc hc2 k) K
theorem w_dup2 (X : Sd l Z n0 y bytes maxL ret R p e s m args below T h cells slots) {v w : Value} (hd : decode bytes pc = .ok (.dup2, 1)) (hc : v.category = 1) (hc2 : w.category = 1) (hp : pc' = pc + 1) (K : Go p e below G (T.setTop (mkF m pc' Ls (v :: w :: v :: w :: S)))) : Go p e below G (T.setTop (mkF m pc Ls (v :: w :: S))) := by
  obtain ⟨meth, c, locs, X, eT, N, hx, hby, hml, hown, hnm, hret, hlk, hZ, hn⟩ := X; subst hp
  exact go_of (fun _ k => Jvm.Free.XT.dup2 (g := (mkF m pc Ls (v :: w :: S))) X.here hx rfl (hb hby hd) rfl hc hc2 k) K
theorem w_dup2L (X : Sd l Z n0 y bytes maxL ret R p e s m args below T h cells slots) {v : Int64} (hd : decode bytes pc = .ok (.dup2, 1)) (hp : pc' = pc + 1) (K : Go p e below G (T.setTop (mkF m pc' Ls (.long v :: .long v :: S)))) : Go p e below G (T.setTop (mkF m pc Ls (.long v :: S))) := by
  obtain ⟨meth, c, locs, X, eT, N, hx, hby, hml, hown, hnm, hret, hlk, hZ, hn⟩ := X; subst hp
  exact go_of (fun _ k => Jvm.Free.XT.dup2L (g := (mkF m pc Ls (.long v :: S))) X.here hx rfl (hb hby hd) rfl k) K
theorem w_goto (X : Sd l Z n0 y bytes maxL ret R p e s m args below T h cells slots) {i : Int} (hd : decode bytes pc = .ok (.goto i, 3)) (ho : 0 ≤ (pc : Int) + i) (hp : ((pc : Int) + i).toNat = pc') (K : Go p e below G (T.setTop (mkF m pc' Ls S))) : Go p e below G (T.setTop (mkF m pc Ls S)) := by
  obtain ⟨meth, c, locs, X, eT, N, hx, hby, hml, hown, hnm, hret, hlk, hZ, hn⟩ := X
  exact go_of (fun _ k => XS.goto (g := mkF m pc Ls S) X.here hx rfl rfl (hb hby hd) ho hp k) K
theorem w_icmp_eq (X : Sd l Z n0 y bytes maxL ret R p e s m args below T h cells slots) {a b : Int32} {i : Int} (pt pf : Nat) (hd : decode bytes pc = .ok (.if_icmp .eq i, 3)) (ho : 0 ≤ (pc : Int) + i) (ht : ((pc : Int) + i).toNat = pt) (hf : pf = pc + 3) (kt : a = b → Go p e below G (T.setTop (mkF m pt Ls S))) (kf : ¬ a = b → Go p e below G (T.setTop (mkF m pf Ls S))) : Go p e below G (T.setTop (mkF m pc Ls (.int b :: .int a :: S))) := by
  obtain ⟨meth, c, locs, X, eT, N, hx, hby, hml, hown, hnm, hret, hlk, hZ, hn⟩ := X; subst hf
  by_cases q : a = b
  · exact go_of (fun _ k => XS.icmpYes (g := mkF m pc Ls (.int b :: .int a :: S)) X.here hx rfl rfl (hb hby hd) rfl (teq q).1 ho ht k) (kt q)
  · skip
    exact go_of (fun _ k => XS.icmpNo (g := mkF m pc Ls (.int b :: .int a :: S)) X.here hx rfl (hb hby hd) rfl (feq q).1 k) (kf q)
theorem w_if_eq (X : Sd l Z n0 y bytes maxL ret R p e s m args below T h cells slots) {a : Int32} {i : Int} (pt pf : Nat) (hd : decode bytes pc = .ok (.ifCond .eq i, 3)) (ho : 0 ≤ (pc : Int) + i) (ht : ((pc : Int) + i).toNat = pt) (hf : pf = pc + 3) (kt : a = (0 : Int32) → Go p e below G (T.setTop (mkF m pt Ls S))) (kf : ¬ a = (0 : Int32) → Go p e below G (T.setTop (mkF m pf Ls S))) : Go p e below G (T.setTop (mkF m pc Ls (.int a :: S))) := by
  obtain ⟨meth, c, locs, X, eT, N, hx, hby, hml, hown, hnm, hret, hlk, hZ, hn⟩ := X; subst hf
  by_cases q : a = (0 : Int32)
  · exact go_of (fun _ k => XS.ifYes (g := mkF m pc Ls (.int a :: S)) X.here hx rfl rfl (hb hby hd) rfl ((if0 _ _).trans (teq q).1) ho ht k) (kt q)
  · skip
    exact go_of (fun _ k => XS.ifNo (g := mkF m pc Ls (.int a :: S)) X.here hx rfl (hb hby hd) rfl ((if0 _ _).trans (feq q).1) k) (kf q)
theorem w_icmp_ne (X : Sd l Z n0 y bytes maxL ret R p e s m args below T h cells slots) {a b : Int32} {i : Int} (pt pf : Nat) (hd : decode bytes pc = .ok (.if_icmp .ne i, 3)) (ho : 0 ≤ (pc : Int) + i) (ht : ((pc : Int) + i).toNat = pt) (hf : pf = pc + 3) (kt : ¬ a = b → Go p e below G (T.setTop (mkF m pt Ls S))) (kf : a = b → Go p e below G (T.setTop (mkF m pf Ls S))) : Go p e below G (T.setTop (mkF m pc Ls (.int b :: .int a :: S))) := by
  obtain ⟨meth, c, locs, X, eT, N, hx, hby, hml, hown, hnm, hret, hlk, hZ, hn⟩ := X; subst hf
  by_cases q : ¬ a = b
  · exact go_of (fun _ k => XS.icmpYes (g := mkF m pc Ls (.int b :: .int a :: S)) X.here hx rfl rfl (hb hby hd) rfl (feq q).2 ho ht k) (kt q)
  · replace q := Decidable.not_not.mp q
    exact go_of (fun _ k => XS.icmpNo (g := mkF m pc Ls (.int b :: .int a :: S)) X.here hx rfl (hb hby hd) rfl (teq q).2 k) (kf q)
theorem w_if_ne (X : Sd l Z n0 y bytes maxL ret R p e s m args below T h cells slots) {a : Int32} {i : Int} (pt pf : Nat) (hd : decode bytes pc = .ok (.ifCond .ne i, 3)) (ho : 0 ≤ (pc : Int) + i) (ht : ((pc : Int) + i).toNat = pt) (hf : pf = pc + 3) (kt : ¬ a = (0 : Int32) → Go p e below G (T.setTop (mkF m pt Ls S))) (kf : a = (0 : Int32) → Go p e below G (T.setTop (mkF m pf Ls S))) : Go p e below G (T.setTop (mkF m pc Ls (.int a :: S))) := by
  obtain ⟨meth, c, locs, X, eT, N, hx, hby, hml, hown, hnm, hret, hlk, hZ, hn⟩ := X; subst hf
  by_cases q : ¬ a = (0 : Int32)
  · exact go_of (fun _ k => XS.ifYes (g := mkF m pc Ls (.int a :: S)) X.here hx rfl rfl (hb hby hd) rfl ((if0 _ _).trans (feq q).2) ho ht k) (kt q)
  · replace q := Decidable.not_not.mp q
    exact go_of (fun _ k => XS.ifNo (g := mkF m pc Ls (.int a :: S)) X.here hx rfl (hb hby hd) rfl ((if0 _ _).trans (teq q).2) k) (kf q)
theorem w_icmp_lt (X : Sd l Z n0 y bytes maxL ret R p e s m args below T h cells slots) {a b : Int32} {i : Int} (pt pf : Nat) (hd : decode bytes pc = .ok (.if_icmp .lt i, 3)) (ho : 0 ≤ (pc : Int) + i) (ht : ((pc : Int) + i).toNat = pt) (hf : pf = pc + 3) (kt : a < b → Go p e below G (T.setTop (mkF m pt Ls S))) (kf : ¬ a < b → Go p e below G (T.setTop (mkF m pf Ls S))) : Go p e below G (T.setTop (mkF m pc Ls (.int b :: .int a :: S))) := by
  obtain ⟨meth, c, locs, X, eT, N, hx, hby, hml, hown, hnm, hret, hlk, hZ, hn⟩ := X; subst hf
  by_cases q : a < b
  · exact go_of (fun _ k => XS.icmpYes (g := mkF m pc Ls (.int b :: .int a :: S)) X.here hx rfl rfl (hb hby hd) rfl (tlt q).1 ho ht k) (kt q)
  · skip
    exact go_of (fun _ k => XS.icmpNo (g := mkF m pc Ls (.int b :: .int a :: S)) X.here hx rfl (hb hby hd) rfl (flt q).1 k) (kf q)
theorem w_if_lt (X : Sd l Z n0 y bytes maxL ret R p e s m args below T h cells slots) {a : Int32} {i : Int} (pt pf : Nat) (hd : decode bytes pc = .ok (.ifCond .lt i, 3)) (ho : 0 ≤ (pc : Int) + i) (ht : ((pc : Int) + i).toNat = pt) (hf : pf = pc + 3) (kt : a < (0 : Int32) → Go p e below G (T.setTop (mkF m pt Ls S))) (kf : ¬ a < (0 : Int32) → Go p e below G (T.setTop (mkF m pf Ls S))) : Go p e below G (T.setTop (mkF m pc Ls (.int a :: S))) := by
  obtain ⟨meth, c, locs, X, eT, N, hx, hby, hml, hown, hnm, hret, hlk, hZ, hn⟩ := X; subst hf
  by_cases q : a < (0 : Int32)
  · exact go_of (fun _ k => XS.ifYes (g := mkF m pc Ls (.int a :: S)) X.here hx rfl rfl (hb hby hd) rfl ((if0 _ _).trans (tlt q).1) ho ht k) (kt q)
  · skip
    exact go_of (fun _ k => XS.ifNo (g := mkF m pc Ls (.int a :: S)) X.here hx rfl (hb hby hd) rfl ((if0 _ _).trans (flt q).1) k) (kf q)
theorem w_icmp_ge (X : Sd l Z n0 y bytes maxL ret R p e s m args below T h cells slots) {a b : Int32} {i : Int} (pt pf : Nat) (hd : decode bytes pc = .ok (.if_icmp .ge i, 3)) (ho : 0 ≤ (pc : Int) + i) (ht : ((pc : Int) + i).toNat = pt) (hf : pf = pc + 3) (kt : ¬ a < b → Go p e below G (T.setTop (mkF m pt Ls S))) (kf : a < b → Go p e below G (T.setTop (mkF m pf Ls S))) : Go p e below G (T.setTop (mkF m pc Ls (.int b :: .int a :: S))) := by
  obtain ⟨meth, c, locs, X, eT, N, hx, hby, hml, hown, hnm, hret, hlk, hZ, hn⟩ := X; subst hf
  by_cases q : ¬ a < b
  · exact go_of (fun _ k => XS.icmpYes (g := mkF m pc Ls (.int b :: .int a :: S)) X.here hx rfl rfl (hb hby hd) rfl (flt q).2.1 ho ht k) (kt q)
  · replace q := Decidable.not_not.mp q
    exact go_of (fun _ k => XS.icmpNo (g := mkF m pc Ls (.int b :: .int a :: S)) X.here hx rfl (hb hby hd) rfl (tlt q).2.1 k) (kf q)
theorem w_if_ge (X : Sd l Z n0 y bytes maxL ret R p e s m args below T h cells slots) {a : Int32} {i : Int} (pt pf : Nat) (hd : decode bytes pc = .ok (.ifCond .ge i, 3)) (ho : 0 ≤ (pc : Int) + i) (ht : ((pc : Int) + i).toNat = pt) (hf : pf = pc + 3) (kt : ¬ a < (0 : Int32) → Go p e below G (T.setTop (mkF m pt Ls S))) (kf : a < (0 : Int32) → Go p e below G (T.setTop (mkF m pf Ls S))) : Go p e below G (T.setTop (mkF m pc Ls (.int a :: S))) := by
  obtain ⟨meth, c, locs, X, eT, N, hx, hby, hml, hown, hnm, hret, hlk, hZ, hn⟩ := X; subst hf
  by_cases q : ¬ a < (0 : Int32)
  · exact go_of (fun _ k => XS.ifYes (g := mkF m pc Ls (.int a :: S)) X.here hx rfl rfl (hb hby hd) rfl ((if0 _ _).trans (flt q).2.1) ho ht k) (kt q)
  · replace q := Decidable.not_not.mp q
    exact go_of (fun _ k => XS.ifNo (g := mkF m pc Ls (.int a :: S)) X.here hx rfl (hb hby hd) rfl ((if0 _ _).trans (tlt q).2.1) k) (kf q)
theorem w_icmp_gt (X : Sd l Z n0 y bytes maxL ret R p e s m args below T h cells slots) {a b : Int32} {i : Int} (pt pf : Nat) (hd : decode bytes pc = .ok (.if_icmp .gt i, 3)) (ho : 0 ≤ (pc : Int) + i) (ht : ((pc : Int) + i).toNat = pt) (hf : pf = pc + 3) (kt : b < a → Go p e below G (T.setTop (mkF m pt Ls S))) (kf : ¬ b < a → Go p e below G (T.setTop (mkF m pf Ls S))) : Go p e below G (T.setTop (mkF m pc Ls (.int b :: .int a :: S))) := by
  obtain ⟨meth, c, locs, X, eT, N, hx, hby, hml, hown, hnm, hret, hlk, hZ, hn⟩ := X; subst hf
  by_cases q : b < a
  · exact go_of (fun _ k => XS.icmpYes (g := mkF m pc Ls (.int b :: .int a :: S)) X.here hx rfl rfl (hb hby hd) rfl (tlt q).2.2.1 ho ht k) (kt q)
  · skip
    exact go_of (fun _ k => XS.icmpNo (g := mkF m pc Ls (.int b :: .int a :: S)) X.here hx rfl (hb hby hd) rfl (flt q).2.2.1 k) (kf q)
theorem w_if_gt (X : Sd l Z n0 y bytes maxL ret R p e s m args below T h cells slots) {a : Int32} {i : Int} (pt pf : Nat) (hd : decode bytes pc = .ok (.ifCond .gt i, 3)) (ho : 0 ≤ (pc : Int) + i) (ht : ((pc : Int) + i).toNat = pt) (hf : pf = pc + 3) (kt : (0 : Int32) < a → Go p e below G (T.setTop (mkF m pt Ls S))) (kf : ¬ (0 : Int32) < a → Go p e below G (T.setTop (mkF m pf Ls S))) : Go p e below G (T.setTop (mkF m pc Ls (.int a :: S))) := by
  obtain ⟨meth, c, locs, X, eT, N, hx, hby, hml, hown, hnm, hret, hlk, hZ, hn⟩ := X; subst hf
  by_cases q : (0 : Int32) < a
  · exact go_of (fun _ k => XS.ifYes (g := mkF m pc Ls (.int a :: S)) X.here hx rfl rfl (hb hby hd) rfl ((if0 _ _).trans (tlt q).2.2.1) ho ht k) (kt q)
  · skip
    exact go_of (fun _ k => XS.ifNo (g := mkF m pc Ls (.int a :: S)) X.here hx rfl (hb hby hd) rfl ((if0 _ _).trans (flt q).2.2.1) k) (kf q)
theorem w_icmp_le (X : Sd l Z n0 y bytes maxL ret R p e s m args below T h cells slots) {a b : Int32} {i : Int} (pt pf : Nat) (hd : decode bytes pc = .ok (.if_icmp .le i, 3)) (ho : 0 ≤ (pc : Int) + i) (ht : ((pc : Int) + i).toNat = pt) (hf : pf = pc + 3) (kt : ¬ b < a → Go p e below G (T.setTop (mkF m pt Ls S))) (kf : b < a → Go p e below G (T.setTop (mkF m pf Ls S))) : Go p e below G (T.setTop (mkF m pc Ls (.int b :: .int a :: S))) := by
  obtain ⟨meth, c, locs, X, eT, N, hx, hby, hml, hown, hnm, hret, hlk, hZ, hn⟩ := X; subst hf
  by_cases q : ¬ b < a
  · exact go_of (fun _ k => XS.icmpYes (g := mkF m pc Ls (.int b :: .int a :: S)) X.here hx rfl rfl (hb hby hd) rfl (flt q).2.2.2 ho ht k) (kt q)
  · replace q := Decidable.not_not.mp q
    exact go_of (fun _ k => XS.icmpNo (g := mkF m pc Ls (.int b :: .int a :: S)) X.here hx rfl (hb hby hd) rfl (tlt q).2.2.2 k) (kf q)
theorem w_if_le (X : Sd l Z n0 y bytes maxL ret R p e s m args below T h cells slots) {a : Int32} {i : Int} (pt pf : Nat) (hd : decode bytes pc = .ok (.ifCond .le i, 3)) (ho : 0 ≤ (pc : Int) + i) (ht : ((pc : Int) + i).toNat = pt) (hf : pf = pc + 3) (kt : ¬ (0 : Int32) < a → Go p e below G (T.setTop (mkF m pt Ls S))) (kf : (0 : Int32) < a → Go p e below G (T.setTop (mkF m pf Ls S))) : Go p e below G (T.setTop (mkF m pc Ls (.int a :: S))) := by
  obtain ⟨meth, c, locs, X, eT, N, hx, hby, hml, hown, hnm, hret, hlk, hZ, hn⟩ := X; subst hf
  by_cases q : ¬ (0 : Int32) < a
  · exact go_of (fun _ k => XS.ifYes (g := mkF m pc Ls (.int a :: S)) X.here hx rfl rfl (hb hby hd) rfl ((if0 _ _).trans (flt q).2.2.2) ho ht k) (kt q)
  · replace q := Decidable.not_not.mp q
    exact go_of (fun _ k => XS.ifNo (g := mkF m pc Ls (.int a :: S)) X.here hx rfl (hb hby hd) rfl ((if0 _ _).trans (tlt q).2.2.2) k) (kf q)
theorem w_lc_eq (X : Sd l Z n0 y bytes maxL ret R p e s m args below T h cells slots) {a b : Int64} {i : Int} (pt pf : Nat) (hd1 : decode bytes pc = .ok (.lcmp, 1)) (hd : decode bytes (pc + 1) = .ok (.ifCond .eq i, 3)) (ho : 0 ≤ ((pc + 1 : Nat) : Int) + i) (ht : (((pc + 1 : Nat) : Int) + i).toNat = pt) (hf : pf = pc + 4) (kt : a = b → Go p e below G (T.setTop (mkF m pt Ls S))) (kf : ¬ a = b → Go p e below G (T.setTop (mkF m pf Ls S))) : Go p e below G (T.setTop (mkF m pc Ls (.long b :: .long a :: S))) :=
  w_lcmp X hd1 rfl (w_if_eq X pt pf hd ho ht hf (fun q => kt ((lw_eq _ _).mp q)) (fun q => kf (fun z => q ((lw_eq _ _).mpr z))))
theorem w_lc_ne (X : Sd l Z n0 y bytes maxL ret R p e s m args below T h cells slots) {a b : Int64} {i : Int} (pt pf : Nat) (hd1 : decode bytes pc = .ok (.lcmp, 1)) (hd : decode bytes (pc + 1) = .ok (.ifCond .ne i, 3)) (ho : 0 ≤ ((pc + 1 : Nat) : Int) + i) (ht : (((pc + 1 : Nat) : Int) + i).toNat = pt) (hf : pf = pc + 4) (kt : ¬ a = b → Go p e below G (T.setTop (mkF m pt Ls S))) (kf : a = b → Go p e below G (T.setTop (mkF m pf Ls S))) : Go p e below G (T.setTop (mkF m pc Ls (.long b :: .long a :: S))) :=
  w_lcmp X hd1 rfl (w_if_ne X pt pf hd ho ht hf (fun q => kt (fun z => q ((lw_eq _ _).mpr z))) (fun q => kf ((lw_eq _ _).mp q)))
theorem w_lc_lt (X : Sd l Z n0 y bytes maxL ret R p e s m args below T h cells slots) {a b : Int64} {i : Int} (pt pf : Nat) (hd1 : decode bytes pc = .ok (.lcmp, 1)) (hd : decode bytes (pc + 1) = .ok (.ifCond .lt i, 3)) (ho : 0 ≤ ((pc + 1 : Nat) : Int) + i) (ht : (((pc + 1 : Nat) : Int) + i).toNat = pt) (hf : pf = pc + 4) (kt : a < b → Go p e below G (T.setTop (mkF m pt Ls S))) (kf : ¬ a < b → Go p e below G (T.setTop (mkF m pf Ls S))) : Go p e below G (T.setTop (mkF m pc Ls (.long b :: .long a :: S))) :=
  w_lcmp X hd1 rfl (w_if_lt X pt pf hd ho ht hf (fun q => kt ((lw_lt _ _).mp q)) (fun q => kf (fun z => q ((lw_lt _ _).mpr z))))
theorem w_lc_ge (X : Sd l Z n0 y bytes maxL ret R p e s m args below T h cells slots) {a b : Int64} {i : Int} (pt pf : Nat) (hd1 : decode bytes pc = .ok (.lcmp, 1)) (hd : decode bytes (pc + 1) = .ok (.ifCond .ge i, 3)) (ho : 0 ≤ ((pc + 1 : Nat) : Int) + i) (ht : (((pc + 1 : Nat) : Int) + i).toNat = pt) (hf : pf = pc + 4) (kt : ¬ a < b → Go p e below G (T.setTop (mkF m pt Ls S))) (kf : a < b → Go p e below G (T.setTop (mkF m pf Ls S))) : Go p e below G (T.setTop (mkF m pc Ls (.long b :: .long a :: S))) :=
  w_lcmp X hd1 rfl (w_if_ge X pt pf hd ho ht hf (fun q => kt (fun z => q ((lw_lt _ _).mpr z))) (fun q => kf ((lw_lt _ _).mp q)))
theorem w_lc_gt (X : Sd l Z n0 y bytes maxL ret R p e s m args below T h cells slots) {a b : Int64} {i : Int} (pt pf : Nat) (hd1 : decode bytes pc = .ok (.lcmp, 1)) (hd : decode bytes (pc + 1) = .ok (.ifCond .gt i, 3)) (ho : 0 ≤ ((pc + 1 : Nat) : Int) + i) (ht : (((pc + 1 : Nat) : Int) + i).toNat = pt) (hf : pf = pc + 4) (kt : b < a → Go p e below G (T.setTop (mkF m pt Ls S))) (kf : ¬ b < a → Go p e below G (T.setTop (mkF m pf Ls S))) : Go p e below G (T.setTop (mkF m pc Ls (.long b :: .long a :: S))) :=
  w_lcmp X hd1 rfl (w_if_gt X pt pf hd ho ht hf (fun q => kt ((lw_gt _ _).mp q)) (fun q => kf (fun z => q ((lw_gt _ _).mpr z))))
theorem w_lc_le (X : Sd l Z n0 y bytes maxL ret R p e s m args below T h cells slots) {a b : Int64} {i : Int} (pt pf : Nat) (hd1 : decode bytes pc = .ok (.lcmp, 1)) (hd : decode bytes (pc + 1) = .ok (.ifCond .le i, 3)) (ho : 0 ≤ ((pc + 1 : Nat) : Int) + i) (ht : (((pc + 1 : Nat) : Int) + i).toNat = pt) (hf : pf = pc + 4) (kt : ¬ b < a → Go p e below G (T.setTop (mkF m pt Ls S))) (kf : b < a → Go p e below G (T.setTop (mkF m pf Ls S))) : Go p e below G (T.setTop (mkF m pc Ls (.long b :: .long a :: S))) :=
  w_lcmp X hd1 rfl (w_if_le X pt pf hd ho ht hf (fun q => kt (fun z => q ((lw_gt _ _).mpr z))) (fun q => kf ((lw_gt _ _).mp q)))
theorem w_ifnullY (X : Sd l Z n0 y bytes maxL ret R p e s m args below T h cells slots) {i : Int} (hd : decode bytes pc = .ok (.ifnull i, 3)) (ho : 0 ≤ (pc : Int) + i) (hp : ((pc : Int) + i).toNat = pc') (K : Go p e below G (T.setTop (mkF m pc' Ls S))) : Go p e below G (T.setTop (mkF m pc Ls (.null :: S))) := by
  obtain ⟨meth, c, locs, X, eT, N, hx, hby, hml, hown, hnm, hret, hlk, hZ, hn⟩ := X
  exact go_of (fun _ k => XS.ifnullYes (g := mkF m pc Ls (.null :: S)) X.here hx rfl rfl (hb hby hd) rfl ho hp k) K
theorem w_ifnullN (X : Sd l Z n0 y bytes maxL ret R p e s m args below T h cells slots) {b : Addr} {i : Int} (hd : decode bytes pc = .ok (.ifnull i, 3)) (hp : pc' = pc + 3) (K : Go p e below G (T.setTop (mkF m pc' Ls S))) : Go p e below G (T.setTop (mkF m pc Ls (.ref b :: S))) := by
  obtain ⟨meth, c, locs, X, eT, N, hx, hby, hml, hown, hnm, hret, hlk, hZ, hn⟩ := X; subst hp
  exact go_of (fun _ k => XS.ifnullNo (g := mkF m pc Ls (.ref b :: S)) X.here hx rfl (hb hby hd) rfl k) K
theorem w_ifnonnullY (X : Sd l Z n0 y bytes maxL ret R p e s m args below T h cells slots) {b : Addr} {i : Int} (hd : decode bytes pc = .ok (.ifnonnull i, 3)) (ho : 0 ≤ (pc : Int) + i) (hp : ((pc : Int) + i).toNat = pc') (K : Go p e below G (T.setTop (mkF m pc' Ls S))) : Go p e below G (T.setTop (mkF m pc Ls (.ref b :: S))) := by
  obtain ⟨meth, c, locs, X, eT, N, hx, hby, hml, hown, hnm, hret, hlk, hZ, hn⟩ := X
  exact go_of (fun _ k => XS.ifnonnullYes (g := mkF m pc Ls (.ref b :: S)) X.here hx rfl rfl (hb hby hd) rfl ho hp k) K
theorem w_ifnonnullN (X : Sd l Z n0 y bytes maxL ret R p e s m args below T h cells slots) {i : Int} (hd : decode bytes pc = .ok (.ifnonnull i, 3)) (hp : pc' = pc + 3) (K : Go p e below G (T.setTop (mkF m pc' Ls S))) : Go p e below G (T.setTop (mkF m pc Ls (.null :: S))) := by
  obtain ⟨meth, c, locs, X, eT, N, hx, hby, hml, hown, hnm, hret, hlk, hZ, hn⟩ := X; subst hp
  exact go_of (fun _ k => XS.ifnonnullNo (g := mkF m pc Ls (.null :: S)) X.here hx rfl (hb hby hd) rfl k) K
theorem w_acmp_eq (X : Sd l Z n0 y bytes maxL ret R p e s m args below T h cells slots) {v w : Value} (hv : v.isRef = true) (hw : w.isRef = true) {i : Int} (pt pf : Nat) (hd : decode bytes pc = .ok (.if_acmp .eq i, 3)) (ho : 0 ≤ (pc : Int) + i) (ht : ((pc : Int) + i).toNat = pt) (hf : pf = pc + 3) (kt : v = w → Go p e below G (T.setTop (mkF m pt Ls S))) (kf : ¬ v = w → Go p e below G (T.setTop (mkF m pf Ls S))) : Go p e below G (T.setTop (mkF m pc Ls (w :: v :: S))) := by
  obtain ⟨meth, c, locs, X, eT, N, hx, hby, hml, hown, hnm, hret, hlk, hZ, hn⟩ := X; subst hf ht
  by_cases q : v = w
  · exact go_of (fun _ k => Jvm.RoadKit.acmp (g := mkF m pc Ls (w :: v :: S)) X hx rfl hv hw (same := true) rfl (hb hby hd) rfl (decide_eq_true q) ho rfl k) (kt q)
  · exact go_of (fun _ k => Jvm.RoadKit.acmp (g := mkF m pc Ls (w :: v :: S)) X hx rfl hv hw (same := false) rfl (hb hby hd) rfl (decide_eq_false q) ho rfl k) (kf q)
theorem w_acmp_ne (X : Sd l Z n0 y bytes maxL ret R p e s m args below T h cells slots) {v w : Value} (hv : v.isRef = true) (hw : w.isRef = true) {i : Int} (pt pf : Nat) (hd : decode bytes pc = .ok (.if_acmp .ne i, 3)) (ho : 0 ≤ (pc : Int) + i) (ht : ((pc : Int) + i).toNat = pt) (hf : pf = pc + 3) (kt : ¬ v = w → Go p e below G (T.setTop (mkF m pt Ls S))) (kf : v = w → Go p e below G (T.setTop (mkF m pf Ls S))) : Go p e below G (T.setTop (mkF m pc Ls (w :: v :: S))) := by
  obtain ⟨meth, c, locs, X, eT, N, hx, hby, hml, hown, hnm, hret, hlk, hZ, hn⟩ := X; subst hf ht
  by_cases q : v = w
  · exact go_of (fun _ k => Jvm.RoadKit.acmp (g := mkF m pc Ls (w :: v :: S)) X hx rfl hv hw (same := true) rfl (hb hby hd) rfl (decide_eq_true q) ho rfl k) (kf q)
  · exact go_of (fun _ k => Jvm.RoadKit.acmp (g := mkF m pc Ls (w :: v :: S)) X hx rfl hv hw (same := false) rfl (hb hby hd) rfl (decide_eq_false q) ho rfl k) (kt q)
theorem w_ldc (X : Sd l Z n0 y bytes maxL ret R p e s m args below T h cells slots) {i : Nat} {v : Int32} (hd : decode bytes pc = .ok (.ldc i, 2)) (w : (Jvm.Cond.constant y.cls i v).before a0 Z = true) (hp : pc' = pc + 2) (K : Go p e below G (T.setTop (mkF m pc' Ls (.int v :: S)))) : Go p e below G (T.setTop (mkF m pc Ls S)) := by
  obtain ⟨meth, c, locs, X, eT, N, hx, hby, hml, hown, hnm, hret, hlk, hZ, hn⟩ := X; subst hp
  exact go_of (X.ldcInt hx hown (mvT hZ w) (g := mkF m pc Ls S) rfl (hb hby hd)) K
theorem w_ldc2 (X : Sd l Z n0 y bytes maxL ret R p e s m args below T h cells slots) {i : Nat} {v : Int64} (hd : decode bytes pc = .ok (.ldc2_w i, 3)) (w : (Jvm.Cond.constantLong y.cls i v).before a0 Z = true) (hp : pc' = pc + 3) (K : Go p e below G (T.setTop (mkF m pc' Ls (.long v :: S)))) : Go p e below G (T.setTop (mkF m pc Ls S)) := by
  obtain ⟨meth, c, locs, X, eT, N, hx, hby, hml, hown, hnm, hret, hlk, hZ, hn⟩ := X; subst hp
  exact go_of (X.ldc2Long hx hown (mvT hZ w) (g := mkF m pc Ls S) rfl (hb hby hd)) K
theorem w_getfield (X : Sd l Z n0 y bytes maxL ret R p e s m args below T h cells slots) {i : Nat} {R0 O n d : String} {a : Addr} {v : Value} (hd : decode bytes pc = .ok (.getfield i, 3)) {host : String} (w : (Jvm.Cond.fieldLink y.cls i R0 n d).before a0 Z = true ∨ (Jvm.Cond.fieldLinkNest y.cls i R0 n d host).before a0 Z = true) (via : Via Z R0 O n d) (F : Fld Z h a O n d v) (hp : pc' = pc + 3) (K : ∀ T', Sd l Z n0 y bytes maxL ret R p e s m args below T' h cells slots → Go p e below G (T'.setTop (mkF m (pc') Ls (v :: S)))) : Go p e below G (T.setTop (mkF m pc Ls (.ref a :: S))) := by
  obtain ⟨meth, c, locs, X, eT, N, hx, hby, hml, hown, hnm, hret, hlk, hZ, hn⟩ := X; subst hp
  obtain ⟨T', X', e', st⟩ := getF X hx hZ hown w via eT F (g := mkF m pc Ls (.ref a :: S)) rfl rfl (hb hby hd)
  exact go_of st (K T' ⟨meth, c, _, X', e', N, hx, hby, hml, hown, hnm, hret, hlk, hZ, hn⟩)
theorem w_getstatic (X : Sd l Z n0 y bytes maxL ret R p e s m args below T h cells slots) {i : Nat} {R0 O n d : String} {v : Value} (hd : decode bytes pc = .ok (.getstatic i, 3)) {host : String} (w : (Jvm.Cond.fieldLink y.cls i R0 n d).before a0 Z = true ∨ (Jvm.Cond.fieldLinkNest y.cls i R0 n d host).before a0 Z = true) (via : Via Z R0 O n d) (F : Sta Z h O n d v) (hp : pc' = pc + 3) (K : ∀ T', Sd l Z n0 y bytes maxL ret R p e s m args below T' h cells slots → Go p e below G (T'.setTop (mkF m (pc') Ls (v :: S)))) : Go p e below G (T.setTop (mkF m pc Ls S)) := by
  obtain ⟨meth, c, locs, X, eT, N, hx, hby, hml, hown, hnm, hret, hlk, hZ, hn⟩ := X; subst hp
  obtain ⟨T', X', e', st⟩ := getS2 X hx hZ hown w via eT F (g := mkF m pc Ls S) rfl (hb hby hd)
  exact go_of st (K T' ⟨meth, c, _, X', e', N, hx, hby, hml, hown, hnm, hret, hlk, hZ, hn⟩)
theorem w_putfield (X : Sd l Z n0 y bytes maxL ret R p e s m args below T h cells slots) {i kk : Nat} {R0 O n d C : String} {ty : FieldType} {a : Addr} {v old : Value} (hd : decode bytes pc = .ok (.putfield i, 3)) {host : String} (w : (Jvm.Cond.fieldLink y.cls i R0 n d).before a0 Z = true ∨ (Jvm.Cond.fieldLinkNest y.cls i R0 n d host).before a0 Z = true) (via : Via Z R0 O n d) (F : Fld Z h a O n d old) (E : Exa Z h a C) (L : (Jvm.Cond.lays C O n d).before a0 Z = true ∨ ((Jvm.Cond.laysFinal C O n d).before a0 Z = true ∧ y.cls = O ∧ y.name = "<init>")) (wi : (Jvm.Cond.instantiable C kk).before a0 Z = true) (hty : parseFieldDescriptor d = some ty) (hna : narrow ty v = v) (hfi : fits ty v = true) (hg : n0 ≤ a) (hp : pc' = pc + 3) (K : ∀ T' h', Sd l Z n0 y bytes maxL ret R p e s m args below T' h' cells slots → Wr h h' a (Jvm.RoadKit.slotOf Z O n d) v → Fld Z h' a O n d v → Go p e below G (T'.setTop (mkF m (pc') Ls S))) : Go p e below G (T.setTop (mkF m pc Ls (v :: .ref a :: S))) := by
  obtain ⟨meth, c, locs, X, eT, N, hx, hby, hml, hown, hnm, hret, hlk, hZ, hn⟩ := X; subst hp
  obtain ⟨T', h', X', e', W, st⟩ := putF X hx hZ hown w via eT F E (L.imp id fun q => ⟨q.1, q.2.1, hnm.trans q.2.2⟩) wi hty hna hfi (g := mkF m pc Ls (v :: .ref a :: S)) rfl rfl (hb hby hd)
  exact go_of st (K T' h' ⟨meth, c, _, X', e', Fr.snoc X' N hg, hx, hby, hml, hown, hnm, hret, hlk, hZ, hn⟩ W (F.same W))
theorem w_putfieldN (X : Sd l Z n0 y bytes maxL ret R p e s m args below T h cells slots) {i kk : Nat} {R0 O n d C : String} {ty : FieldType} {a : Addr} {v v' old : Value} (hd : decode bytes pc = .ok (.putfield i, 3)) (w : (Jvm.Cond.fieldLink y.cls i R0 n d).before a0 Z = true) (via : Via Z R0 O n d) (F : Fld Z h a O n d old) (E : Exa Z h a C) (L : (Jvm.Cond.lays C O n d).before a0 Z = true ∨ ((Jvm.Cond.laysFinal C O n d).before a0 Z = true ∧ y.cls = O ∧ y.name = "<init>")) (wi : (Jvm.Cond.instantiable C kk).before a0 Z = true) (hty : parseFieldDescriptor d = some ty) (hna : narrow ty v = v') (hfi : fits ty v' = true) (hg : n0 ≤ a) (hp : pc' = pc + 3) (K : ∀ T' h', Sd l Z n0 y bytes maxL ret R p e s m args below T' h' cells slots → Wr h h' a (Jvm.RoadKit.slotOf Z O n d) v' → Fld Z h' a O n d v' → Go p e below G (T'.setTop (mkF m (pc') Ls S))) : Go p e below G (T.setTop (mkF m pc Ls (v :: .ref a :: S))) := by
  obtain ⟨meth, c, locs, X, eT, N, hx, hby, hml, hown, hnm, hret, hlk, hZ, hn⟩ := X; subst hp
  obtain ⟨T', h', X', e', W, st⟩ := putFN X hx hZ hown w via eT F E (L.imp id fun q => ⟨q.1, q.2.1, hnm.trans q.2.2⟩) wi hty hna hfi (g := mkF m pc Ls (v :: .ref a :: S)) rfl rfl (hb hby hd)
  exact go_of st (K T' h' ⟨meth, c, _, X', e', Fr.snoc X' N hg, hx, hby, hml, hown, hnm, hret, hlk, hZ, hn⟩ W (F.same W))
theorem w_new (X : Sd l Z n0 y bytes maxL ret R p e s m args below T h cells slots) {i n : Nat} {C : String} (hd : decode bytes pc = .ok (.new i, 3)) (w : (Jvm.Cond.classLink y.cls i C).before a0 Z = true) (wi : (Jvm.Cond.instantiable C n).before a0 Z = true) (wz : (Jvm.Cond.initialized C).before a0 Z = true) (hc : cells + 1 ≤ R.cells) (hl : slots + n ≤ R.slots) (hp : pc' = pc + 3)
    (K : ∀ T' h' b, b = h.size → n0 ≤ b → Sd l Z n0 y bytes maxL ret R p e s m args below T' h' (cells + 1) (slots + n) → Ext h h' → Exa Z h' b C → (∀ {O nm d : String} {ty : FieldType}, Laid Z a0 C O nm d → parseFieldDescriptor d = some ty → Fld Z h' b O nm d (defaultValue ty)) → Go p e below G (T'.setTop (mkF m (pc') Ls (.ref b :: S)))) : Go p e below G (T.setTop (mkF m pc Ls S)) := by
  have hsz := sd_size X
  obtain ⟨meth, c, locs, X, eT, N, hx, hby, hml, hown, hnm, hret, hlk, hZ, hn⟩ := X; subst hp
  obtain ⟨T', h', X', e', E', A', D', -, st⟩ := newO X hx hZ hown w wi wz eT (g := mkF m pc Ls S) rfl (hb hby hd) hc hl
  exact go_of st (K T' h' _ rfl hsz ⟨meth, c, _, X', e', N, hx, hby, hml, hown, hnm, hret, hlk, hZ, hn⟩ E' A' D')
/-- an array of n places, the i-th holding f i -/
def Ary (Z : State) (h : Heap) (a : Addr) (ty : FieldType) (n : Nat) (f : Nat → Value) : Prop := ∃ c : Cell, Arr Z h a c ty ∧ c.slots.size = n ∧ n < 2 ^ 31 ∧ ∀ i, i < n → c.slots[i]? = some (f i)
def upd (f : Nat → Value) (i : Nat) (v : Value) : Nat → Value := fun j => if j = i then v else f j
theorem upd_same (f : Nat → Value) (i : Nat) (v : Value) : upd f i v i = v := if_pos rfl
theorem upd_other (f : Nat → Value) {i j : Nat} (v : Value) (q : j ≠ i) : upd f i v j = f j := if_neg q
theorem Ary.lt {a : Addr} {ty : FieldType} {n : Nat} {f : Nat → Value} (A : Ary Z h a ty n f) : a < h.size := by obtain ⟨c, A, -⟩ := A; exact A.lt
theorem Ary.ext {h' : Heap} {a : Addr} {ty : FieldType} {n : Nat} {f : Nat → Value} (A : Ary Z h a ty n f) (E : Ext h h') : Ary Z h' a ty n f := by obtain ⟨c, A, r⟩ := A; exact ⟨c, A.ext E, r⟩
theorem Ary.keep {h' : Heap} {a : Addr} {ty : FieldType} {n : Nat} {f : Nat → Value} {ws : List Addr} (A : Ary Z h a ty n f) (K : Keep h h' ws) (q : a ∉ ws) : Ary Z h' a ty n f := by obtain ⟨c, A, r⟩ := A; exact ⟨c, ⟨K.2.1 a c A.1 q, A.2⟩, r⟩
theorem Ary.other {h' : Heap} {a b : Addr} {sl : Nat} {v : Value} {ty : FieldType} {n : Nat} {f : Nat → Value} (A : Ary Z h a ty n f) (W : Wr h h' b sl v) (q : a ≠ b) : Ary Z h' a ty n f := by obtain ⟨c, A, r⟩ := A; exact ⟨c, A.other W q, r⟩
theorem Ary.congr {a : Addr} {ty : FieldType} {n : Nat} {f g : Nat → Value} (A : Ary Z h a ty n f) (q : ∀ i, i < n → f i = g i) : Ary Z h a ty n g := by obtain ⟨c, A, r1, r2, r3⟩ := A; exact ⟨c, A, r1, r2, fun i hi => by rw [r3 i hi, q i hi]⟩
theorem Ary.set {h' : Heap} {a : Addr} {ty : FieldType} {n i : Nat} {v : Value} {f : Nat → Value} (A : Ary Z h a ty n f) (W : Wr h h' a i v) (hi : i < n) : Ary Z h' a ty n (upd f i v) := by
  obtain ⟨c, A, rfl, r2, r3⟩ := A
  refine ⟨c.setSlot i v, A.same W, sz_set _ _ _, r2, fun j hj => ?_⟩
  by_cases q : j = i
  · subst q; simp [Cell.setSlot, hj, upd]
  · rw [upd_other f v q, ← r3 j hj]; exact Array.getElem?_setIfInBounds_ne (Ne.symm q)
theorem nat_at {j : Int32} {i : Nat} (hj : j.toInt = (i : Int)) : j.toNatClampNeg = i ∧ ¬ j < 0 := by
  constructor
  · simp only [Int32.toNatClampNeg, hj]; omega
  · simp only [Int32.lt_iff_toInt_lt, Int32.reduceToInt, hj]; omega
theorem in_at {j : Int32} {i n : Nat} {c : Cell} (hj : j.toInt = (i : Int)) (hn : c.slots.size = n) (hi : i < n) : ¬ (j < 0 ∨ c.slots.size ≤ j.toNatClampNeg) := by
  obtain ⟨q1, q2⟩ := nat_at hj
  rw [q1]; rintro (q | q)
  · exact q2 q
  · omega
theorem w_arraylength (X : Sd l Z n0 y bytes maxL ret R p e s m args below T h cells slots) {a : Addr} {ty : FieldType} {n : Nat} {f : Nat → Value} (z : Int32) (hd : decode bytes pc = .ok (.arraylength, 1)) (A : Ary Z h a ty n f) (hz : z.toInt = (n : Int)) (hp : pc' = pc + 1) (K : Go p e below G (T.setTop (mkF m pc' Ls (.int z :: S)))) : Go p e below G (T.setTop (mkF m pc Ls (.ref a :: S))) := by
  obtain ⟨meth, c, locs, X, eT, N, hx, hby, hml, hown, hnm, hret, hlk, hZ, hn⟩ := X; subst hp
  obtain ⟨cl, A, r1, r2, -⟩ := A
  have ez : cl.slots.size.toInt32 = z := Int32.toInt_inj.mp (by rw [r1, len_toInt r2, hz])
  exact go_of (fun t k => X.arraylength hx (by rw [eT]; exact A.1) (State.isArrayOf_alike hZ.alike A.2.1) (g := mkF m pc Ls (.ref a :: S)) rfl rfl (hb hby hd) t (by rw [ez]; exact k)) K
theorem w_iaload (X : Sd l Z n0 y bytes maxL ret R p e s m args below T h cells slots) {a : Addr} {n : Nat} {f : Nat → Value} {j : Int32} (i : Nat) {v : Value} (hd : decode bytes pc = .ok (.iaload, 1)) (A : Ary Z h a .int n f) (hj : j.toInt = (i : Int)) (hi : i < n) (hv : f i = v) (hp : pc' = pc + 1) (K : Go p e below G (T.setTop (mkF m pc' Ls (v :: S)))) : Go p e below G (T.setTop (mkF m pc Ls (.int j :: .ref a :: S))) := by
  obtain ⟨meth, c, locs, X, eT, N, hx, hby, hml, hown, hnm, hret, hlk, hZ, hn⟩ := X; subst hp
  obtain ⟨cl, A, r1, r2, r3⟩ := A
  exact go_of (fun t k => X.iaload hx (j := j) (v := v) (by rw [eT]; exact A.1) (State.isArrayOf_alike hZ.alike A.2.1) A.2.2 (in_at hj r1 hi) (by rw [(nat_at hj).1, r3 i hi, hv]) (g := mkF m pc Ls (.int j :: .ref a :: S)) rfl rfl (hb hby hd) t k) K
theorem w_laload (X : Sd l Z n0 y bytes maxL ret R p e s m args below T h cells slots) {a : Addr} {n : Nat} {f : Nat → Value} {j : Int32} (i : Nat) {v : Value} (hd : decode bytes pc = .ok (.laload, 1)) (A : Ary Z h a .long n f) (hj : j.toInt = (i : Int)) (hi : i < n) (hv : f i = v) (hp : pc' = pc + 1) (K : Go p e below G (T.setTop (mkF m pc' Ls (v :: S)))) : Go p e below G (T.setTop (mkF m pc Ls (.int j :: .ref a :: S))) := by
  obtain ⟨meth, c, locs, X, eT, N, hx, hby, hml, hown, hnm, hret, hlk, hZ, hn⟩ := X; subst hp
  obtain ⟨cl, A, r1, r2, r3⟩ := A
  exact go_of (fun t k => X.laload hx (j := j) (v := v) (by rw [eT]; exact A.1) (State.isArrayOf_alike hZ.alike A.2.1) A.2.2 (in_at hj r1 hi) (by rw [(nat_at hj).1, r3 i hi, hv]) (g := mkF m pc Ls (.int j :: .ref a :: S)) rfl rfl (hb hby hd) t k) K
theorem w_caload (X : Sd l Z n0 y bytes maxL ret R p e s m args below T h cells slots) {a : Addr} {n : Nat} {f : Nat → Value} {j : Int32} (i : Nat) {v : Value} (hd : decode bytes pc = .ok (.caload, 1)) (A : Ary Z h a .char n f) (hj : j.toInt = (i : Int)) (hi : i < n) (hv : f i = v) (hp : pc' = pc + 1) (K : Go p e below G (T.setTop (mkF m pc' Ls (v :: S)))) : Go p e below G (T.setTop (mkF m pc Ls (.int j :: .ref a :: S))) := by
  obtain ⟨meth, c, locs, X, eT, N, hx, hby, hml, hown, hnm, hret, hlk, hZ, hn⟩ := X; subst hp
  obtain ⟨cl, A, r1, r2, r3⟩ := A
  exact go_of (fun t k => X.caload hx (j := j) (v := v) (by rw [eT]; exact A.1) (State.isArrayOf_alike hZ.alike A.2.1) A.2.2 (in_at hj r1 hi) (by rw [(nat_at hj).1, r3 i hi, hv]) (g := mkF m pc Ls (.int j :: .ref a :: S)) rfl rfl (hb hby hd) t k) K
theorem w_baload (X : Sd l Z n0 y bytes maxL ret R p e s m args below T h cells slots) {a : Addr} {n : Nat} {f : Nat → Value} {j : Int32} (i : Nat) {v : Value} (hd : decode bytes pc = .ok (.baload, 1)) (A : Ary Z h a .byte n f) (hj : j.toInt = (i : Int)) (hi : i < n) (hv : f i = v) (hp : pc' = pc + 1) (K : Go p e below G (T.setTop (mkF m pc' Ls (v :: S)))) : Go p e below G (T.setTop (mkF m pc Ls (.int j :: .ref a :: S))) := by
  obtain ⟨meth, c, locs, X, eT, N, hx, hby, hml, hown, hnm, hret, hlk, hZ, hn⟩ := X; subst hp
  obtain ⟨cl, A, r1, r2, r3⟩ := A
  exact go_of (fun t k => X.baloadBytes hx (j := j) (v := v) (by rw [eT]; exact A.1) (State.isArrayOf_alike hZ.alike A.2.1) A.2.2 (in_at hj r1 hi) (by rw [(nat_at hj).1, r3 i hi, hv]) (g := mkF m pc Ls (.int j :: .ref a :: S)) rfl rfl (hb hby hd) t k) K
theorem w_aaload (X : Sd l Z n0 y bytes maxL ret R p e s m args below T h cells slots) {a : Addr} {ty : FieldType} {n : Nat} {f : Nat → Value} {j : Int32} (i : Nat) {v : Value} (hd : decode bytes pc = .ok (.aaload, 1)) (A : Ary Z h a ty n f) (hty : ty.isReference = true) (hj : j.toInt = (i : Int)) (hi : i < n) (hv : f i = v) (hp : pc' = pc + 1) (K : Go p e below G (T.setTop (mkF m pc' Ls (v :: S)))) : Go p e below G (T.setTop (mkF m pc Ls (.int j :: .ref a :: S))) := by
  obtain ⟨meth, c, locs, X, eT, N, hx, hby, hml, hown, hnm, hret, hlk, hZ, hn⟩ := X; subst hp
  obtain ⟨cl, A, r1, r2, r3⟩ := A
  exact go_of (fun t k => X.aaload hx (j := j) (v := v) (by rw [eT]; exact A.1) (State.isArrayOf_alike hZ.alike A.2.1) hty A.2.2 (in_at hj r1 hi) (by rw [(nat_at hj).1, r3 i hi, hv]) (g := mkF m pc Ls (.int j :: .ref a :: S)) rfl rfl (hb hby hd) t k) K
theorem w_iastore (X : Sd l Z n0 y bytes maxL ret R p e s m args below T h cells slots) {a : Addr} {n : Nat} {f : Nat → Value} {j : Int32} (i : Nat) {v : Int32} (hd : decode bytes pc = .ok (.iastore, 1)) (A : Ary Z h a .int n f) (hj : j.toInt = (i : Int)) (hi : i < n) (hg : n0 ≤ a) (hp : pc' = pc + 1) (K : ∀ T' h', Sd l Z n0 y bytes maxL ret R p e s m args below T' h' cells slots → Wr h h' a i (.int v) → Ary Z h' a .int n (upd f i (.int v)) → Go p e below G (T'.setTop (mkF m (pc') Ls S))) : Go p e below G (T.setTop (mkF m pc Ls (.int v :: .int j :: .ref a :: S))) := by
  obtain ⟨meth, c, locs, X, eT, N, hx, hby, hml, hown, hnm, hret, hlk, hZ, hn⟩ := X; subst hp
  have A0 := A
  obtain ⟨cl, A, r1, r2, r3⟩ := A
  obtain ⟨T', h', X', e', W, st⟩ := stI X hx hZ eT A (j := j) (in_at hj r1 hi) (g := mkF m pc Ls (.int v :: .int j :: .ref a :: S)) rfl rfl (hb hby hd)
  rw [(nat_at hj).1] at W X'
  exact go_of st (K T' h' ⟨meth, c, _, X', e', Fr.snoc X' N hg, hx, hby, hml, hown, hnm, hret, hlk, hZ, hn⟩ W (A0.set W hi))
theorem w_lastore (X : Sd l Z n0 y bytes maxL ret R p e s m args below T h cells slots) {a : Addr} {n : Nat} {f : Nat → Value} {j : Int32} (i : Nat) {v : Int64} (hd : decode bytes pc = .ok (.lastore, 1)) (A : Ary Z h a .long n f) (hj : j.toInt = (i : Int)) (hi : i < n) (hg : n0 ≤ a) (hp : pc' = pc + 1) (K : ∀ T' h', Sd l Z n0 y bytes maxL ret R p e s m args below T' h' cells slots → Wr h h' a i (.long v) → Ary Z h' a .long n (upd f i (.long v)) → Go p e below G (T'.setTop (mkF m (pc') Ls S))) : Go p e below G (T.setTop (mkF m pc Ls (.long v :: .int j :: .ref a :: S))) := by
  obtain ⟨meth, c, locs, X, eT, N, hx, hby, hml, hown, hnm, hret, hlk, hZ, hn⟩ := X; subst hp
  have A0 := A
  obtain ⟨cl, A, r1, r2, r3⟩ := A
  obtain ⟨T', h', X', e', W, st⟩ := stJ X hx hZ eT A (j := j) (in_at hj r1 hi) (g := mkF m pc Ls (.long v :: .int j :: .ref a :: S)) rfl rfl (hb hby hd)
  rw [(nat_at hj).1] at W X'
  exact go_of st (K T' h' ⟨meth, c, _, X', e', Fr.snoc X' N hg, hx, hby, hml, hown, hnm, hret, hlk, hZ, hn⟩ W (A0.set W hi))
theorem w_castore (X : Sd l Z n0 y bytes maxL ret R p e s m args below T h cells slots) {a : Addr} {n : Nat} {f : Nat → Value} {j : Int32} (i : Nat) {v : Int32} (hd : decode bytes pc = .ok (.castore, 1)) (A : Ary Z h a .char n f) (hj : j.toInt = (i : Int)) (hi : i < n) (hg : n0 ≤ a) (hp : pc' = pc + 1) (K : ∀ T' h', Sd l Z n0 y bytes maxL ret R p e s m args below T' h' cells slots → Wr h h' a i (.int (nar .char v)) → Ary Z h' a .char n (upd f i (.int (nar .char v))) → Go p e below G (T'.setTop (mkF m (pc') Ls S))) : Go p e below G (T.setTop (mkF m pc Ls (.int v :: .int j :: .ref a :: S))) := by
  obtain ⟨meth, c, locs, X, eT, N, hx, hby, hml, hown, hnm, hret, hlk, hZ, hn⟩ := X; subst hp
  have A0 := A
  obtain ⟨cl, A, r1, r2, r3⟩ := A
  obtain ⟨T', h', X', e', W, st⟩ := stC X hx hZ eT A (j := j) (in_at hj r1 hi) (g := mkF m pc Ls (.int v :: .int j :: .ref a :: S)) rfl rfl (hb hby hd)
  rw [(nat_at hj).1] at W X'
  exact go_of st (K T' h' ⟨meth, c, _, X', e', Fr.snoc X' N hg, hx, hby, hml, hown, hnm, hret, hlk, hZ, hn⟩ W (A0.set W hi))
theorem w_bastore (X : Sd l Z n0 y bytes maxL ret R p e s m args below T h cells slots) {a : Addr} {n : Nat} {f : Nat → Value} {j : Int32} (i : Nat) {v : Int32} (hd : decode bytes pc = .ok (.bastore, 1)) (A : Ary Z h a .byte n f) (hj : j.toInt = (i : Int)) (hi : i < n) (hg : n0 ≤ a) (hp : pc' = pc + 1) (K : ∀ T' h', Sd l Z n0 y bytes maxL ret R p e s m args below T' h' cells slots → Wr h h' a i (.int (nar .byte v)) → Ary Z h' a .byte n (upd f i (.int (nar .byte v))) → Go p e below G (T'.setTop (mkF m (pc') Ls S))) : Go p e below G (T.setTop (mkF m pc Ls (.int v :: .int j :: .ref a :: S))) := by
  obtain ⟨meth, c, locs, X, eT, N, hx, hby, hml, hown, hnm, hret, hlk, hZ, hn⟩ := X; subst hp
  have A0 := A
  obtain ⟨cl, A, r1, r2, r3⟩ := A
  obtain ⟨T', h', X', e', W, st⟩ := stB X hx hZ eT A (j := j) (in_at hj r1 hi) (g := mkF m pc Ls (.int v :: .int j :: .ref a :: S)) rfl rfl (hb hby hd)
  rw [(nat_at hj).1] at W X'
  exact go_of st (K T' h' ⟨meth, c, _, X', e', Fr.snoc X' N hg, hx, hby, hml, hown, hnm, hret, hlk, hZ, hn⟩ W (A0.set W hi))
theorem w_zastore (X : Sd l Z n0 y bytes maxL ret R p e s m args below T h cells slots) {a : Addr} {n : Nat} {f : Nat → Value} {j : Int32} (i : Nat) {v : Int32} (hd : decode bytes pc = .ok (.bastore, 1)) (A : Ary Z h a .boolean n f) (hj : j.toInt = (i : Int)) (hi : i < n) (hg : n0 ≤ a) (hp : pc' = pc + 1) (K : ∀ T' h', Sd l Z n0 y bytes maxL ret R p e s m args below T' h' cells slots → Wr h h' a i (.int (nar .boolean v)) → Ary Z h' a .boolean n (upd f i (.int (nar .boolean v))) → Go p e below G (T'.setTop (mkF m (pc') Ls S))) : Go p e below G (T.setTop (mkF m pc Ls (.int v :: .int j :: .ref a :: S))) := by
  obtain ⟨meth, c, locs, X, eT, N, hx, hby, hml, hown, hnm, hret, hlk, hZ, hn⟩ := X; subst hp
  have A0 := A
  obtain ⟨cl, A, r1, r2, r3⟩ := A
  obtain ⟨T', h', X', e', W, st⟩ := stZ X hx hZ eT A (j := j) (in_at hj r1 hi) (g := mkF m pc Ls (.int v :: .int j :: .ref a :: S)) rfl rfl (hb hby hd)
  rw [(nat_at hj).1] at W X'
  exact go_of st (K T' h' ⟨meth, c, _, X', e', Fr.snoc X' N hg, hx, hby, hml, hown, hnm, hret, hlk, hZ, hn⟩ W (A0.set W hi))
theorem w_aastore (X : Sd l Z n0 y bytes maxL ret R p e s m args below T h cells slots) {a : Addr} {ty : FieldType} {n : Nat} {f : Nat → Value} {j : Int32} (i : Nat) {v : Value} (hd : decode bytes pc = .ok (.aastore, 1)) (A : Ary Z h a ty n f) (hty : ty.isReference = true) (F : Sto Z h a v) (hj : j.toInt = (i : Int)) (hi : i < n) (hg : n0 ≤ a) (hp : pc' = pc + 1) (K : ∀ T' h', Sd l Z n0 y bytes maxL ret R p e s m args below T' h' cells slots → Wr h h' a i v → Ary Z h' a ty n (upd f i v) → Go p e below G (T'.setTop (mkF m (pc') Ls S))) : Go p e below G (T.setTop (mkF m pc Ls (v :: .int j :: .ref a :: S))) := by
  obtain ⟨meth, c, locs, X, eT, N, hx, hby, hml, hown, hnm, hret, hlk, hZ, hn⟩ := X; subst hp
  have A0 := A
  obtain ⟨cl, A, r1, r2, r3⟩ := A
  obtain ⟨T', h', X', e', W, st⟩ := stR X hx hZ eT A (j := j) (in_at hj r1 hi) hty F (g := mkF m pc Ls (v :: .int j :: .ref a :: S)) rfl rfl (hb hby hd)
  rw [(nat_at hj).1] at W X'
  exact go_of st (K T' h' ⟨meth, c, _, X', e', Fr.snoc X' N hg, hx, hby, hml, hown, hnm, hret, hlk, hZ, hn⟩ W (A0.set W hi))
theorem w_newarray (X : Sd l Z n0 y bytes maxL ret R p e s m args below T h cells slots) {aty : ArrayType} {z : Int32} (n cap : Nat) (hd : decode bytes pc = .ok (.newarray aty, 2)) (w : (Jvm.Cond.arrayClass (newarray.typeOf aty)).before a0 Z = true) (hz : z.toInt = (n : Int)) (hcap : n ≤ cap) (hb8 : cap * 8 ≤ 536870912) (hc : cells + 1 ≤ R.cells) (hl : slots + cap ≤ R.slots) (hp : pc' = pc + 2)
    (K : ∀ T' h' b, b = h.size → n0 ≤ b → Sd l Z n0 y bytes maxL ret R p e s m args below T' h' (cells + 1) (slots + cap) → Ext h h' → Ary Z h' b (newarray.typeOf aty) n (fun _ => defaultValue (newarray.typeOf aty)) → Go p e below G (T'.setTop (mkF m (pc') Ls (.ref b :: S)))) : Go p e below G (T.setTop (mkF m pc Ls (.int z :: S))) := by
  have hsz := sd_size X
  obtain ⟨meth, c, locs, X, eT, N, hx, hby, hml, hown, hnm, hret, hlk, hZ, hn⟩ := X; subst hp
  obtain ⟨q1, q2⟩ := nat_at hz
  obtain ⟨T', h', cA, X', e', E', A', st⟩ := newP X hx hZ w eT (g := mkF m pc Ls (.int z :: S)) rfl (hb hby hd) rfl q2 (cap := cap) (by rw [q1]; exact hcap) hb8 hc hl
  refine go_of st (K T' h' _ rfl hsz ⟨meth, c, _, X', e', N, hx, hby, hml, hown, hnm, hret, hlk, hZ, hn⟩ E' ⟨_, A', (sz_new _ _ _).trans q1, by rw [← q1]; exact (back32 q2).2, fun i hi => ?_⟩)
  simp [newA, q1, hi]
theorem w_anewarray (X : Sd l Z n0 y bytes maxL ret R p e s m args below T h cells slots) {i : Nat} {C : String} {z : Int32} (n cap : Nat) (hd : decode bytes pc = .ok (.anewarray i, 3)) (w1 : (Jvm.Cond.classLink y.cls i C).before a0 Z = true) (w2 : (Jvm.Cond.arrayOver (.object C)).before a0 Z = true) (hz : z.toInt = (n : Int)) (hcap : n ≤ cap) (hb8 : cap * 8 ≤ 536870912) (hc : cells + 1 ≤ R.cells) (hl : slots + cap ≤ R.slots) (hp : pc' = pc + 3)
    (K : ∀ T' h' b, b = h.size → n0 ≤ b → Sd l Z n0 y bytes maxL ret R p e s m args below T' h' (cells + 1) (slots + cap) → Ext h h' → (∃ cl, Arr Z h' b cl (.object C) ∧ Ovr Z cl.cls C) → Ary Z h' b (.object C) n (fun _ => .null) → Go p e below G (T'.setTop (mkF m (pc') Ls (.ref b :: S)))) : Go p e below G (T.setTop (mkF m pc Ls (.int z :: S))) := by
  have hsz := sd_size X
  obtain ⟨meth, c, locs, X, eT, N, hx, hby, hml, hown, hnm, hret, hlk, hZ, hn⟩ := X; subst hp
  obtain ⟨q1, q2⟩ := nat_at hz
  obtain ⟨T', h', cA, X', e', E', A', O', st⟩ := newR X hx hZ hown w1 w2 eT (g := mkF m pc Ls (.int z :: S)) rfl (hb hby hd) rfl q2 (cap := cap) (by rw [q1]; exact hcap) hb8 hc hl
  refine go_of st (K T' h' _ rfl hsz ⟨meth, c, _, X', e', N, hx, hby, hml, hown, hnm, hret, hlk, hZ, hn⟩ E' ⟨_, A', O'⟩ ⟨_, A', (sz_new _ _ _).trans q1, by rw [← q1]; exact (back32 q2).2, fun i hi => ?_⟩)
  simp [newA, q1, hi, defaultValue]
theorem w_join {p : Program} {e : Env} {below : List Frame} {G : State → Prop} {t : State} {α : Type} (P : α → Prop) (st : α → State) (J : ∀ x, P x → Go p e below G (st x)) (K : (∀ x, P x → Go p e below G (st x)) → Go p e below G t) : Go p e below G t := K J
theorem w_staticV (X : Sd l Z n0 y bytes maxL ret R p e s m args below T h cells slots) {i : Nat} {y' : MethodName} {bytes' : ByteArray} {maxL' : Nat} {ret' : Option FieldType} {rm : Room} {as' : Array Value} {Q : Value → Heap → Prop} (hd : decode bytes pc = .ok (.invokestatic i, 3)) (hM : Con l Z n0 y' bytes' maxL' ret' rm as' h (Val Q)) (w1 : (Jvm.Cond.methodLink y.cls i y').before a0 Z = true) (w2 : (Jvm.Cond.static y').before a0 Z = true) (w3 : (Jvm.Cond.initialized y'.cls).before a0 Z = true) (w4 : (Jvm.Cond.code y' bytes' maxL' ret').before a0 Z = true) (hy : y'.cls ≠ "java/lang/invoke/MethodHandle" ∧ y'.cls ≠ "java/lang/invoke/VarHandle") (argsL rest : List Value) {ps : List FieldType} {r' : Option FieldType} (hlen : parseMethodDescriptor y'.desc = some ⟨ps, r'⟩) (hl : argsL.length = ps.length) (has : argsL.toArray = as') (hst : S = argsL.reverse ++ rest) (hsz : Ls.size = maxL) (W : Nat) (hW : (rest.map fun v => v.category).sum ≤ W) (hf : rm.frames + 1 ≤ R.frames) (hlo : W + (maxL' + 11) + rm.locals ≤ R.locals) (hc : cells + rm.cells ≤ R.cells) (hs : slots + rm.slots ≤ R.slots) (hp : pc' = pc + 3)
    (K : ∀ T' h' v, Sd l Z n0 y bytes maxL ret R p e s m args below T' h' (cells + rm.cells) (slots + rm.slots) → Q v h' → Go p e below G (T'.setTop (mkF m (pc') Ls (v :: rest)))) : Go p e below G (T.setTop (mkF m pc Ls S)) := by
  obtain ⟨meth, c, locs, X, eT, N, hx, hby, hml, hown, hnm, hret, hlk, hZ, hn⟩ := X; subst hp hst has
  obtain ⟨v, _, ⟨T', L', k', n'⟩, -, X', ⟨Lc, ⟨N', hQ⟩, lq, yq, zq⟩, st⟩ := Jvm.LawKit.callS X hx (y := y') hown (mvT hZ w1) (mvT hZ w2) (mvT hZ w3) (mvT hZ w4) hy (backOf (W := W) (Q := fun v h L => Fr n0 L ∧ Val Q v h) (hM []) hZ w4 w3 hf hlo) (g := mkF m pc Ls (argsL.reverse ++ rest)) rfl (by rw [hml]; exact hsz) (argsL := argsL) (rest := rest) (lenOf hlen hl) rfl (by show 2 * 0 + _ ≤ _; omega) (hb hby hd) (fun _ _ => ⟨rfl, eT, hc, hs⟩)
  dsimp only [Pt.U, Pt.locs, Pt.cells, Pt.slots] at X' lq yq zq st hQ
  subst lq yq zq
  obtain ⟨v, rfl, hQ⟩ := hQ
  exact go_of st (K T' _ v ⟨meth, c, _, X', rfl, Fr.app N N', hx, hby, hml, hown, hnm, hret, hlk, hZ, hn⟩ hQ)
theorem w_staticN (X : Sd l Z n0 y bytes maxL ret R p e s m args below T h cells slots) {i : Nat} {y' : MethodName} {bytes' : ByteArray} {maxL' : Nat} {ret' : Option FieldType} {rm : Room} {as' : Array Value} {Q : Heap → Prop} (hd : decode bytes pc = .ok (.invokestatic i, 3)) (hM : Con l Z n0 y' bytes' maxL' ret' rm as' h (Non Q)) (w1 : (Jvm.Cond.methodLink y.cls i y').before a0 Z = true) (w2 : (Jvm.Cond.static y').before a0 Z = true) (w3 : (Jvm.Cond.initialized y'.cls).before a0 Z = true) (w4 : (Jvm.Cond.code y' bytes' maxL' ret').before a0 Z = true) (hy : y'.cls ≠ "java/lang/invoke/MethodHandle" ∧ y'.cls ≠ "java/lang/invoke/VarHandle") (argsL rest : List Value) {ps : List FieldType} {r' : Option FieldType} (hlen : parseMethodDescriptor y'.desc = some ⟨ps, r'⟩) (hl : argsL.length = ps.length) (has : argsL.toArray = as') (hst : S = argsL.reverse ++ rest) (hsz : Ls.size = maxL) (W : Nat) (hW : (rest.map fun v => v.category).sum ≤ W) (hf : rm.frames + 1 ≤ R.frames) (hlo : W + (maxL' + 11) + rm.locals ≤ R.locals) (hc : cells + rm.cells ≤ R.cells) (hs : slots + rm.slots ≤ R.slots) (hp : pc' = pc + 3)
    (K : ∀ T' h', Sd l Z n0 y bytes maxL ret R p e s m args below T' h' (cells + rm.cells) (slots + rm.slots) → Q h' → Go p e below G (T'.setTop (mkF m (pc') Ls rest))) : Go p e below G (T.setTop (mkF m pc Ls S)) := by
  obtain ⟨meth, c, locs, X, eT, N, hx, hby, hml, hown, hnm, hret, hlk, hZ, hn⟩ := X; subst hp hst has
  obtain ⟨v, _, ⟨T', L', k', n'⟩, -, X', ⟨Lc, ⟨N', hQ⟩, lq, yq, zq⟩, st⟩ := Jvm.LawKit.callS X hx (y := y') hown (mvT hZ w1) (mvT hZ w2) (mvT hZ w3) (mvT hZ w4) hy (backOf (W := W) (Q := fun v h L => Fr n0 L ∧ Non Q v h) (hM []) hZ w4 w3 hf hlo) (g := mkF m pc Ls (argsL.reverse ++ rest)) rfl (by rw [hml]; exact hsz) (argsL := argsL) (rest := rest) (lenOf hlen hl) rfl (by show 2 * 0 + _ ≤ _; omega) (hb hby hd) (fun _ _ => ⟨rfl, eT, hc, hs⟩)
  dsimp only [Pt.U, Pt.locs, Pt.cells, Pt.slots] at X' lq yq zq st hQ
  subst lq yq zq
  obtain ⟨rfl, hQ⟩ := hQ
  exact go_of st (K T' _ ⟨meth, c, _, X', rfl, Fr.app N N', hx, hby, hml, hown, hnm, hret, hlk, hZ, hn⟩ hQ)
theorem w_specialN (X : Sd l Z n0 y bytes maxL ret R p e s m args below T h cells slots) {i : Nat} {y' : MethodName} {bytes' : ByteArray} {maxL' : Nat} {rm : Room} {as' : Array Value} {Q : Heap → Prop} {a : Addr} (hd : decode bytes pc = .ok (.invokespecial i, 3)) (hM : Con l Z n0 y' bytes' maxL' none rm as' h (Non Q)) (w1 : (Jvm.Cond.methodLink y.cls i y').before a0 Z = true) (w2 : (Jvm.Cond.instanceMethod y').before a0 Z = true) (w3 : (Jvm.Cond.initialized y'.cls).before a0 Z = true) (w4 : (Jvm.Cond.code y' bytes' maxL' none).before a0 Z = true) (hin : y'.name = "<init>") (hy : y'.cls ≠ "java/lang/invoke/MethodHandle" ∧ y'.cls ≠ "java/lang/invoke/VarHandle") (argsL rest : List Value) {ps : List FieldType} {r' : Option FieldType} (hlen : parseMethodDescriptor y'.desc = some ⟨ps, r'⟩) (hl : argsL.length = ps.length) (has : (.ref a :: argsL).toArray = as') (hst : S = argsL.reverse ++ .ref a :: rest) (hsz : Ls.size = maxL) (W : Nat) (hW : (rest.map fun v => v.category).sum ≤ W) (hf : rm.frames + 1 ≤ R.frames) (hlo : W + (maxL' + 11) + rm.locals ≤ R.locals) (hc : cells + rm.cells ≤ R.cells) (hs : slots + rm.slots ≤ R.slots) (hp : pc' = pc + 3)
    (K : ∀ T' h', Sd l Z n0 y bytes maxL ret R p e s m args below T' h' (cells + rm.cells) (slots + rm.slots) → Q h' → Go p e below G (T'.setTop (mkF m (pc') Ls rest))) : Go p e below G (T.setTop (mkF m pc Ls S)) := by
  obtain ⟨meth, c, locs, X, eT, N, hx, hby, hml, hown, hnm, hret, hlk, hZ, hn⟩ := X; subst hp hst has
  obtain ⟨v, _, ⟨T', L', k', n'⟩, -, X', ⟨Lc, ⟨N', hQ⟩, lq, yq, zq⟩, st⟩ := X.specialBack hx (y := y') hin hown (mvT hZ w1) (mvT hZ w2) (mvT hZ w4) hy (backOf (W := W) (Q := fun v h L => Fr n0 L ∧ Non Q v h) (hM []) hZ w4 w3 hf hlo) (g := mkF m pc Ls (argsL.reverse ++ .ref a :: rest)) rfl (by rw [hml]; exact hsz) (Steps.refl _) (a := a) (argsL := argsL) (rest := rest) (lenOf hlen hl) rfl (by show 2 * 0 + _ ≤ _; omega) (hb hby hd) (fun _ _ => ⟨rfl, eT, hc, hs⟩)
  dsimp only [Pt.U, Pt.locs, Pt.cells, Pt.slots] at X' lq yq zq st hQ
  subst lq yq zq
  obtain ⟨rfl, hQ⟩ := hQ
  exact go_of (fun _ k => st.trans k) (K T' _ ⟨meth, c, _, X', rfl, Fr.app N N', hx, hby, hml, hown, hnm, hret, hlk, hZ, hn⟩ hQ)
theorem w_virtualV (X : Sd l Z n0 y bytes maxL ret R p e s m args below T h cells slots) {i : Nat} {y' : MethodName} {bytes' : ByteArray} {maxL' : Nat} {ret' : Option FieldType} {rm : Room} {as' : Array Value} {Q : Value → Heap → Prop} {a : Addr} {C : String} (hd : decode bytes pc = .ok (.invokevirtual i, 3)) (hM : Con l Z n0 y' bytes' maxL' ret' rm as' h (Val Q)) (w1 : (Jvm.Cond.methodLink y.cls i y').before a0 Z = true) (w2 : (Jvm.Cond.declares y').before a0 Z = true) (w5 : (Jvm.Cond.selects C y' y').before a0 Z = true) (w6 : (Jvm.Cond.instanceMethod y').before a0 Z = true) (w3 : (Jvm.Cond.initialized y'.cls).before a0 Z = true) (w4 : (Jvm.Cond.code y' bytes' maxL' ret').before a0 Z = true) (Er : Exa Z h a C) (hy : y'.cls ≠ "java/lang/invoke/MethodHandle" ∧ y'.cls ≠ "java/lang/invoke/VarHandle") (argsL rest : List Value) {ps : List FieldType} {r' : Option FieldType} (hlen : parseMethodDescriptor y'.desc = some ⟨ps, r'⟩) (hl : argsL.length = ps.length) (has : (.ref a :: argsL).toArray = as') (hst : S = argsL.reverse ++ .ref a :: rest) (hsz : Ls.size = maxL) (W : Nat) (hW : (rest.map fun v => v.category).sum ≤ W) (hf : rm.frames + 1 ≤ R.frames) (hlo : W + (maxL' + 11) + rm.locals ≤ R.locals) (hc : cells + rm.cells ≤ R.cells) (hs : slots + rm.slots ≤ R.slots) (hp : pc' = pc + 3)
    (K : ∀ T' h' v, Sd l Z n0 y bytes maxL ret R p e s m args below T' h' (cells + rm.cells) (slots + rm.slots) → Q v h' → Go p e below G (T'.setTop (mkF m (pc') Ls (v :: rest)))) : Go p e below G (T.setTop (mkF m pc Ls S)) := by
  obtain ⟨meth, c, locs, X, eT, N, hx, hby, hml, hown, hnm, hret, hlk, hZ, hn⟩ := X; subst hp hst has
  obtain ⟨cq, kq, qa, qb, qc⟩ := isOf hZ eT Er
  obtain ⟨v, _, ⟨T', L', k', n'⟩, -, X', ⟨Lc, ⟨N', hQ⟩, lq, yq, zq⟩, st⟩ := X.virtualBack hx (y := y') (z := y') hown (mvT hZ w1) (mvT hZ w2) (notFace_of_selects (args := #[]) (mvT hZ w5)) (mvT hZ w5) (mvT hZ w6) hy (backOf (W := W) (Q := fun v h L => Fr n0 L ∧ Val Q v h) (hM []) hZ w4 w3 hf hlo) qa qc (g := mkF m pc Ls (argsL.reverse ++ .ref a :: rest)) rfl (by rw [hml]; exact hsz) (Steps.refl _) (argsL := argsL) (rest := rest) (lenOf hlen hl) rfl (by show 2 * 0 + _ ≤ _; omega) (hb hby hd) (fun _ _ => ⟨rfl, eT, hc, hs⟩)
  dsimp only [Pt.U, Pt.locs, Pt.cells, Pt.slots] at X' lq yq zq st hQ
  subst lq yq zq
  obtain ⟨v, rfl, hQ⟩ := hQ
  exact go_of (fun _ k => st.trans k) (K T' _ v ⟨meth, c, _, X', rfl, Fr.app N N', hx, hby, hml, hown, hnm, hret, hlk, hZ, hn⟩ hQ)
theorem w_virtualN (X : Sd l Z n0 y bytes maxL ret R p e s m args below T h cells slots) {i : Nat} {y' : MethodName} {bytes' : ByteArray} {maxL' : Nat} {ret' : Option FieldType} {rm : Room} {as' : Array Value} {Q : Heap → Prop} {a : Addr} {C : String} (hd : decode bytes pc = .ok (.invokevirtual i, 3)) (hM : Con l Z n0 y' bytes' maxL' ret' rm as' h (Non Q)) (w1 : (Jvm.Cond.methodLink y.cls i y').before a0 Z = true) (w2 : (Jvm.Cond.declares y').before a0 Z = true) (w5 : (Jvm.Cond.selects C y' y').before a0 Z = true) (w6 : (Jvm.Cond.instanceMethod y').before a0 Z = true) (w3 : (Jvm.Cond.initialized y'.cls).before a0 Z = true) (w4 : (Jvm.Cond.code y' bytes' maxL' ret').before a0 Z = true) (Er : Exa Z h a C) (hy : y'.cls ≠ "java/lang/invoke/MethodHandle" ∧ y'.cls ≠ "java/lang/invoke/VarHandle") (argsL rest : List Value) {ps : List FieldType} {r' : Option FieldType} (hlen : parseMethodDescriptor y'.desc = some ⟨ps, r'⟩) (hl : argsL.length = ps.length) (has : (.ref a :: argsL).toArray = as') (hst : S = argsL.reverse ++ .ref a :: rest) (hsz : Ls.size = maxL) (W : Nat) (hW : (rest.map fun v => v.category).sum ≤ W) (hf : rm.frames + 1 ≤ R.frames) (hlo : W + (maxL' + 11) + rm.locals ≤ R.locals) (hc : cells + rm.cells ≤ R.cells) (hs : slots + rm.slots ≤ R.slots) (hp : pc' = pc + 3)
    (K : ∀ T' h', Sd l Z n0 y bytes maxL ret R p e s m args below T' h' (cells + rm.cells) (slots + rm.slots) → Q h' → Go p e below G (T'.setTop (mkF m (pc') Ls rest))) : Go p e below G (T.setTop (mkF m pc Ls S)) := by
  obtain ⟨meth, c, locs, X, eT, N, hx, hby, hml, hown, hnm, hret, hlk, hZ, hn⟩ := X; subst hp hst has
  obtain ⟨cq, kq, qa, qb, qc⟩ := isOf hZ eT Er
  obtain ⟨v, _, ⟨T', L', k', n'⟩, -, X', ⟨Lc, ⟨N', hQ⟩, lq, yq, zq⟩, st⟩ := X.virtualBack hx (y := y') (z := y') hown (mvT hZ w1) (mvT hZ w2) (notFace_of_selects (args := #[]) (mvT hZ w5)) (mvT hZ w5) (mvT hZ w6) hy (backOf (W := W) (Q := fun v h L => Fr n0 L ∧ Non Q v h) (hM []) hZ w4 w3 hf hlo) qa qc (g := mkF m pc Ls (argsL.reverse ++ .ref a :: rest)) rfl (by rw [hml]; exact hsz) (Steps.refl _) (argsL := argsL) (rest := rest) (lenOf hlen hl) rfl (by show 2 * 0 + _ ≤ _; omega) (hb hby hd) (fun _ _ => ⟨rfl, eT, hc, hs⟩)
  dsimp only [Pt.U, Pt.locs, Pt.cells, Pt.slots] at X' lq yq zq st hQ
  subst lq yq zq
  obtain ⟨rfl, hQ⟩ := hQ
  exact go_of (fun _ k => st.trans k) (K T' _ ⟨meth, c, _, X', rfl, Fr.app N N', hx, hby, hml, hown, hnm, hret, hlk, hZ, hn⟩ hQ)
theorem w_ireturn {z : Int32} (X : Sd l Z n0 y bytes maxL (some .int) R p e s m args below T h cells slots) {Q : Value → Heap → Prop} (hd : decode bytes pc = .ok (.ireturn, 1)) (hq : Q (.int z) h) (hc : cells ≤ R.cells) (hs : slots ≤ R.slots) : Go p e below (Done below s n0 (Val Q) R.cells R.slots) (T.setTop (mkF m pc Ls (.int z :: S))) := by
  obtain ⟨meth, c, locs, X, eT, N, hx, hby, hml, hown, hnm, hret, hlk, hZ, hn⟩ := X
  obtain ⟨fs, hr, hrun, hended, hW, hsame⟩ := X.leave (v := some (.int z)) (fun h => by rw [hret] at h; cases h) hlk
  refine ⟨_, ?_, _, hrun, hended, _, _, rfl, ⟨N, _, rfl, by rw [← eT] at hq; exact hq⟩, ⟨_, rfl⟩, hW, hsame.mono hc hs⟩
  · exact retOut X hx (t := .int) hret rfl (Or.inl ⟨rfl, Or.inl rfl, z, rfl⟩) (hb hby hd) hr
theorem w_zreturn {z : Int32} (X : Sd l Z n0 y bytes maxL (some .boolean) R p e s m args below T h cells slots) {Q : Value → Heap → Prop} (hd : decode bytes pc = .ok (.ireturn, 1)) (hq : Q (.int (nar .boolean z)) h) (hc : cells ≤ R.cells) (hs : slots ≤ R.slots) : Go p e below (Done below s n0 (Val Q) R.cells R.slots) (T.setTop (mkF m pc Ls (.int z :: S))) := by
  obtain ⟨meth, c, locs, X, eT, N, hx, hby, hml, hown, hnm, hret, hlk, hZ, hn⟩ := X
  obtain ⟨fs, hr, hrun, hended, hW, hsame⟩ := X.leave (v := some (.int (nar .boolean z))) (fun h => by rw [hret] at h; cases h) hlk
  refine ⟨_, ?_, _, hrun, hended, _, _, rfl, ⟨N, _, rfl, by rw [← eT] at hq; exact hq⟩, ⟨_, rfl⟩, hW, hsame.mono hc hs⟩
  · exact retN X hx (t := .boolean) hret (by simp) (hb hby hd) hr
theorem w_breturn {z : Int32} (X : Sd l Z n0 y bytes maxL (some .byte) R p e s m args below T h cells slots) {Q : Value → Heap → Prop} (hd : decode bytes pc = .ok (.ireturn, 1)) (hq : Q (.int (nar .byte z)) h) (hc : cells ≤ R.cells) (hs : slots ≤ R.slots) : Go p e below (Done below s n0 (Val Q) R.cells R.slots) (T.setTop (mkF m pc Ls (.int z :: S))) := by
  obtain ⟨meth, c, locs, X, eT, N, hx, hby, hml, hown, hnm, hret, hlk, hZ, hn⟩ := X
  obtain ⟨fs, hr, hrun, hended, hW, hsame⟩ := X.leave (v := some (.int (nar .byte z))) (fun h => by rw [hret] at h; cases h) hlk
  refine ⟨_, ?_, _, hrun, hended, _, _, rfl, ⟨N, _, rfl, by rw [← eT] at hq; exact hq⟩, ⟨_, rfl⟩, hW, hsame.mono hc hs⟩
  · exact retN X hx (t := .byte) hret (by simp) (hb hby hd) hr
theorem w_creturn {z : Int32} (X : Sd l Z n0 y bytes maxL (some .char) R p e s m args below T h cells slots) {Q : Value → Heap → Prop} (hd : decode bytes pc = .ok (.ireturn, 1)) (hq : Q (.int (nar .char z)) h) (hc : cells ≤ R.cells) (hs : slots ≤ R.slots) : Go p e below (Done below s n0 (Val Q) R.cells R.slots) (T.setTop (mkF m pc Ls (.int z :: S))) := by
  obtain ⟨meth, c, locs, X, eT, N, hx, hby, hml, hown, hnm, hret, hlk, hZ, hn⟩ := X
  obtain ⟨fs, hr, hrun, hended, hW, hsame⟩ := X.leave (v := some (.int (nar .char z))) (fun h => by rw [hret] at h; cases h) hlk
  refine ⟨_, ?_, _, hrun, hended, _, _, rfl, ⟨N, _, rfl, by rw [← eT] at hq; exact hq⟩, ⟨_, rfl⟩, hW, hsame.mono hc hs⟩
  · exact retN X hx (t := .char) hret (by simp) (hb hby hd) hr
theorem w_sreturn {z : Int32} (X : Sd l Z n0 y bytes maxL (some .short) R p e s m args below T h cells slots) {Q : Value → Heap → Prop} (hd : decode bytes pc = .ok (.ireturn, 1)) (hq : Q (.int (nar .short z)) h) (hc : cells ≤ R.cells) (hs : slots ≤ R.slots) : Go p e below (Done below s n0 (Val Q) R.cells R.slots) (T.setTop (mkF m pc Ls (.int z :: S))) := by
  obtain ⟨meth, c, locs, X, eT, N, hx, hby, hml, hown, hnm, hret, hlk, hZ, hn⟩ := X
  obtain ⟨fs, hr, hrun, hended, hW, hsame⟩ := X.leave (v := some (.int (nar .short z))) (fun h => by rw [hret] at h; cases h) hlk
  refine ⟨_, ?_, _, hrun, hended, _, _, rfl, ⟨N, _, rfl, by rw [← eT] at hq; exact hq⟩, ⟨_, rfl⟩, hW, hsame.mono hc hs⟩
  · exact retN X hx (t := .short) hret (by simp) (hb hby hd) hr
theorem w_lreturn {z : Int64} (X : Sd l Z n0 y bytes maxL (some .long) R p e s m args below T h cells slots) {Q : Value → Heap → Prop} (hd : decode bytes pc = .ok (.lreturn, 1)) (hq : Q (.long z) h) (hc : cells ≤ R.cells) (hs : slots ≤ R.slots) : Go p e below (Done below s n0 (Val Q) R.cells R.slots) (T.setTop (mkF m pc Ls (.long z :: S))) := by
  obtain ⟨meth, c, locs, X, eT, N, hx, hby, hml, hown, hnm, hret, hlk, hZ, hn⟩ := X
  obtain ⟨fs, hr, hrun, hended, hW, hsame⟩ := X.leave (v := some (.long z)) (fun h => by rw [hret] at h; cases h) hlk
  refine ⟨_, ?_, _, hrun, hended, _, _, rfl, ⟨N, _, rfl, by rw [← eT] at hq; exact hq⟩, ⟨_, rfl⟩, hW, hsame.mono hc hs⟩
  · exact retOut X hx (t := .long) hret rfl (Or.inr (Or.inl ⟨rfl, rfl, z, rfl⟩)) (hb hby hd) hr
theorem w_areturn {t : FieldType} {v : Value} (X : Sd l Z n0 y bytes maxL (some t) R p e s m args below T h cells slots) {Q : Value → Heap → Prop} (hd : decode bytes pc = .ok (.areturn, 1)) (ht : t.isReference = true) (hv : v.isRef = true) (hna : narrow t v = v) (hq : Q v h) (hc : cells ≤ R.cells) (hs : slots ≤ R.slots) : Go p e below (Done below s n0 (Val Q) R.cells R.slots) (T.setTop (mkF m pc Ls (v :: S))) := by
  obtain ⟨meth, c, locs, X, eT, N, hx, hby, hml, hown, hnm, hret, hlk, hZ, hn⟩ := X
  obtain ⟨fs, hr, hrun, hended, hW, hsame⟩ := X.leave (v := some v) (fun h => by rw [hret] at h; cases h) hlk
  refine ⟨_, ?_, _, hrun, hended, _, _, rfl, ⟨N, _, rfl, by rw [← eT] at hq; exact hq⟩, ⟨_, rfl⟩, hW, hsame.mono hc hs⟩
  · exact retOut X hx (t := t) hret hna (Or.inr (Or.inr (Or.inr (Or.inr ⟨rfl, ht, hv⟩)))) (hb hby hd) hr
theorem w_return  (X : Sd l Z n0 y bytes maxL none R p e s m args below T h cells slots) {Q : Heap → Prop} (hd : decode bytes pc = .ok (.return_, 1)) (hq : Q h) (hc : cells ≤ R.cells) (hs : slots ≤ R.slots) : Go p e below (Done below s n0 (Non Q) R.cells R.slots) (T.setTop (mkF m pc Ls [])) := by
  obtain ⟨meth, c, locs, X, eT, N, hx, hby, hml, hown, hnm, hret, hlk, hZ, hn⟩ := X
  obtain ⟨fs, hr, hrun, hended, hW, hsame⟩ := X.leave (v := none) (fun _ => rfl) hlk
  refine ⟨_, ?_, _, hrun, hended, _, _, rfl, ⟨N, rfl, by rw [← eT] at hq; exact hq⟩, ⟨_, rfl⟩, hW, hsame.mono hc hs⟩
  · exact X.returnOut hx hret (hb hby hd) hr
theorem ne_new {a b : Addr} (g : b = h.size) (q : a < h.size) : a ≠ b := by subst g; exact Nat.ne_of_lt q
theorem sz_fresh {h0 : Heap} {b : Addr} {ws : List Addr} (g : b = h.size) (K : Keep h0 h ws) : h0.size ≤ b := by subst g; exact K.1
def Oar (Z : State) (h : Heap) (a : Addr) (C : String) : Prop := ∃ cl, Arr Z h a cl (.object C) ∧ Ovr Z cl.cls C
theorem Oar.lt {a : Addr} {C : String} (O : Oar Z h a C) : a < h.size := by obtain ⟨cl, A, -⟩ := O; exact A.lt
theorem Oar.ext {h' : Heap} {a : Addr} {C : String} (O : Oar Z h a C) (E : Ext h h') : Oar Z h' a C := by obtain ⟨cl, A, r⟩ := O; exact ⟨cl, A.ext E, r⟩
theorem Oar.wr {h' : Heap} {a b : Addr} {sl : Nat} {v : Value} {C : String} (O : Oar Z h a C) (W : Wr h h' b sl v) : Oar Z h' a C := by
  obtain ⟨cl, A, r⟩ := O
  by_cases q : a = b
  · subst q; exact ⟨_, A.same W, r⟩
  · exact ⟨cl, A.other W q, r⟩
theorem Oar.keep {h' : Heap} {a : Addr} {C : String} {ws : List Addr} (O : Oar Z h a C) (K : Keep h h' ws) : Oar Z h' a C := by
  obtain ⟨cl, A, r⟩ := O
  obtain ⟨c', h1, h2, h3, h4⟩ := K.2.2 a cl A.1
  refine ⟨c', ⟨h1, ?_, by rw [h3]; exact A.2.2⟩, by rw [h2]; exact r⟩
  have := A.2.1; unfold State.isArrayOf at this ⊢; rw [h2, h3]; exact this
theorem Oar.sto {a b : Addr} {C : String} (O : Oar Z h a C) (I : Ins Z h b C true) : Sto Z h a (.ref b) := by obtain ⟨cl, A, r⟩ := O; exact Sto.of A r I
end Walk
section Walk0
variable {l : Launch} {Z : State} {n0 : Nat} {y : MethodName} {bytes : ByteArray} {maxL : Nat} {ret : Option FieldType} {R : Room} {p : Program} {e : Env} {s : State} {m : MethodId} {args : Array Value} {below : List Frame} {T : State} {h : Heap} {cells slots : Nat} {G : State → Prop} {a0 : Array Value} {pc pc' : Nat} {Ls : Array Slot} {S : List Value}
theorem w_initO (X : Sd l Z n0 y bytes maxL ret R p e s m args below T h cells slots) {i : Nat} {a : Addr} (hd : decode bytes pc = .ok (.invokespecial i, 3)) (w1 : (Jvm.Cond.methodLink y.cls i Lib.objectInit).before a0 Z = true) (w2 : (Jvm.Cond.instanceMethod Lib.objectInit).before a0 Z = true) (w3 : (Jvm.Cond.code Lib.objectInit object_method_1_code 1 none).before a0 Z = true) (hsz : Ls.size = maxL) (hf : 1 ≤ R.frames) (W : Nat) (hW : (S.map fun v => v.category).sum ≤ W) (hl : W + 12 ≤ R.locals) (hp : pc' = pc + 3) (K : ∀ T', Sd l Z n0 y bytes maxL ret R p e s m args below T' h cells slots → Go p e below G (T'.setTop (mkF m (pc') Ls S))) : Go p e below G (T.setTop (mkF m pc Ls (.ref a :: S))) := by
  obtain ⟨meth, c, locs, X, eT, N, hx, hby, hml, hown, hnm, hret, hlk, hZ, hn⟩ := X; subst hp
  obtain ⟨T', X', e', st⟩ := initO X hx hZ hown w1 w2 w3 eT (g := mkF m pc Ls (.ref a :: S)) rfl (by rw [hml]; exact hsz) rfl (hb hby hd) hf (W := W) (by show 2 * 0 + _ ≤ _; omega) hl
  exact go_of st (K T' ⟨meth, c, _, X', e', N, hx, hby, hml, hown, hnm, hret, hlk, hZ, hn⟩)
end Walk0
section Walk1
variable {l : Launch} {Z : State} {n0 : Nat} {y : MethodName} {bytes : ByteArray} {maxL : Nat} {ret : Option FieldType} {R : Room} {p : Program} {e : Env} {s : State} {m : MethodId} {args : Array Value} {below : List Frame} {T : State} {h : Heap} {cells slots : Nat} {G : State → Prop} {a0 : Array Value} {pc pc' : Nat} {Ls : Array Slot} {S : List Value}
theorem Ary.arv {a : Addr} {ty : FieldType} {n : Nat} {f : Nat → Value} (A : Ary Z h a ty n f) (hf : ∀ i, i < n → fits ty (f i) = true) : ∃ k, Arv Z h a k ty n.toInt32 ((List.range n).map f) .null := by
  obtain ⟨c, A, r1, r2, r3⟩ := A
  have q := nat_at (len_toInt r2)
  have g : ∀ i, i < n → ((List.range n).map f).getD i .null = f i := fun i hi => by simp [List.getD_eq_getElem?_getD, hi]
  exact ⟨c.cls, c, A, rfl, r1.trans q.1.symm, q.2, fun i hi => by rw [g i (r1 ▸ hi)]; exact r3 i (r1 ▸ hi), fun i hi => by rw [g i (r1 ▸ hi)]; exact hf i (r1 ▸ hi)⟩
theorem w_arraycopy (X : Sd l Z n0 y bytes maxL ret R p e s m args below T h cells slots) {i : Nat} {a b : Addr} {ty : FieldType} {n n' : Nat} {f f' : Nat → Value} {sp dp nn : Int32} (i0 j0 k0 : Nat) (hd : decode bytes pc = .ok (.invokestatic i, 3)) (w1 : (Jvm.Cond.methodLink y.cls i Jvm.Stand.acN).before a0 Z = true) (w2 : (Jvm.Cond.native Jvm.Stand.acN).before a0 Z = true) (w3 : (Jvm.Cond.static Jvm.Stand.acN).before a0 Z = true) (w4 : (Jvm.Cond.initialized "java/lang/System").before a0 Z = true)
    (A : Ary Z h a ty n f) (B : Ary Z h b ty n' f') (hty : refKind ty = false) (fA : ∀ i, i < n → fits ty (f i) = true) (fB : ∀ i, i < n' → fits ty (f' i) = true) (hsp : sp.toInt = (i0 : Int)) (hdp : dp.toInt = (j0 : Int)) (hnn : nn.toInt = (k0 : Int)) (h1 : i0 + k0 ≤ n) (h2 : j0 + k0 ≤ n') (hg : n0 ≤ b) (hsz : Ls.size = maxL) (hf : 1 ≤ R.frames) (W : Nat) (hW : (S.map fun v => v.category).sum ≤ W) (hlo : W + 18 ≤ R.locals) (hp : pc' = pc + 3)
    (K : ∀ T' h', Sd l Z n0 y bytes maxL ret R p e s m args below T' h' cells slots → Keep h h' [b] → Ary Z h' b ty n' (fun q => if j0 ≤ q ∧ q < j0 + k0 then f (i0 + (q - j0)) else f' q) → Go p e below G (T'.setTop (mkF m (pc') Ls S))) : Go p e below G (T.setTop (mkF m pc Ls (.int nn :: .int dp :: .ref b :: .int sp :: .ref a :: S))) := by
  obtain ⟨meth, c, locs, X, eT, N, hx, hby, hml, hown, hnm, hret, hlk, hZ, hn⟩ := X; subst hp
  obtain ⟨ka, Av⟩ := A.arv fA
  obtain ⟨kb, Bv⟩ := B.arv fB
  have hN : n < 2 ^ 31 := by obtain ⟨_, _, _, q, _⟩ := A; exact q
  have hN' : n' < 2 ^ 31 := by obtain ⟨_, _, _, q, _⟩ := B; exact q
  have q1 := nat_at hsp
  have q2 := nat_at hdp
  have q3 := nat_at hnn
  have q4 := nat_at (len_toInt hN)
  have q5 := nat_at (len_toInt hN')
  obtain ⟨T', h', L, X', e', N', Kp, Av', st⟩ := cpA X hx hZ hown w1 w2 w3 w4 eT Av Bv (Or.inl ⟨rfl, hty⟩) q1.2 q2.2 q3.2 (by rw [q1.1, q3.1, q4.1]; exact h1) (by rw [q2.1, q3.1, q5.1]; exact h2) rfl (by rw [q2.1, q3.1]; simpa using h2) N hg (g := mkF m pc Ls (.int nn :: .int dp :: .ref b :: .int sp :: .ref a :: S)) rfl (by rw [hml]; exact hsz) rfl (hb hby hd) hf (W := W) (by show 2 * 0 + _ ≤ _; omega) hlo
  refine go_of st (K T' h' ⟨meth, c, _, X', e', N', hx, hby, hml, hown, hnm, hret, hlk, hZ, hn⟩ Kp ?_)
  obtain ⟨c', A', -, r2, -, r4, -⟩ := Av'
  rw [q5.1] at r2
  refine ⟨c', A', r2, hN', fun q hq => ?_⟩
  rw [r4 q (by rw [r2]; exact hq), q1.1, q2.1, q3.1]
  congr 1
  simp only [List.getD_eq_getElem?_getD]
  by_cases c1 : q < j0
  · rw [if_neg (by omega), List.append_assoc, List.getElem?_append_left (by simp; omega), List.getElem?_take_of_lt c1]
    simp [hq]
  · by_cases c2 : q < j0 + k0
    · rw [if_pos ⟨by omega, c2⟩, List.getElem?_append_left (by simp; omega), List.getElem?_append_right (by simp; omega)]
      have e1 : min j0 n' = j0 := by omega
      simp [e1, show q - j0 < k0 by omega, show i0 + (q - j0) < n by omega]
    · rw [if_neg (by omega), List.getElem?_append_right (by simp; omega)]
      have e1 : min j0 n' = j0 := by omega
      simp [e1, show j0 + k0 + (q - (j0 + k0)) = q by omega, hq]
end Walk1
def IL (Z : State) (n0 : Nat) (h : Heap) (a : Addr) (n cap : Nat) (f : Nat → Value) : Prop := ∃ r : Addr, n0 ≤ r ∧ a ≠ r ∧ Exa Z h a "com/example/edict4/edict4/regex/IntList" ∧ Fld Z h a "com/example/edict4/edict4/regex/IntList" "mValues" "[I" (.ref r) ∧ Fld Z h a "com/example/edict4/edict4/regex/IntList" "mSize" "I" (.int (Int32.ofNat n)) ∧ Ary Z h r .int cap f ∧ ∀ i, i < cap → fits .int (f i) = true
theorem IL.exa {Z : State} {n0 : Nat} {h : Heap} {a : Addr} {n cap : Nat} {f : Nat → Value} (O : IL Z n0 h a n cap f) : Exa Z h a "com/example/edict4/edict4/regex/IntList" := by obtain ⟨r, -, -, E, -⟩ := O; exact E
theorem IL.keep0 {Z : State} {n0 : Nat} {h h' : Heap} {a : Addr} {n cap : Nat} {f : Nat → Value} (O : IL Z n0 h a n cap f) (K : Keep h h' []) : IL Z n0 h' a n cap f := by
  obtain ⟨r, g1, g2, E, F1, F2, A, hf⟩ := O
  exact ⟨r, g1, g2, E.keep K, F1.keep K nin0, F2.keep K nin0, A.keep K nin0, hf⟩
theorem own_succ (n : Nat) : Int32.ofNat n + (1 : Int32) = Int32.ofNat (n + 1) := Int32.ofNat_succ n |>.symm ▸ rfl
theorem own_nat (n : Nat) (h : n < 100) : (Int32.ofNat n).toInt = (n : Int) := Int32.toInt_ofNat_small (by omega)
def own_min (a b : Int32) : Int32 := if b < a then b else a
theorem own_minI {a b : Int32} {n k : Nat} (ha : a.toInt = (n : Int)) (hb : b.toInt = (k : Int)) : (own_min a b).toInt = ((min n k : Nat) : Int) := by
  unfold own_min
  split
  · rename_i q; rw [Int32.lt_iff_toInt_lt] at q; omega
  · rename_i q; rw [Int32.lt_iff_toInt_lt] at q; omega
theorem own_fit (f : Nat → Value) (n cap : Nat) (v : Int32) (hf : ∀ i, i < cap → fits .int (f i) = true) : ∀ i, i < cap → fits .int (upd f n (.int v) i) = true := fun i hi => by
  unfold upd; split
  · rfl
  · exact hf i hi
theorem own_neq {a b : Int32} {n k : Nat} (ha : a.toInt = (n : Int)) (hb : b.toInt = (k : Int)) (q : n ≠ k) : ¬ a = b := fun z => q (by rw [z, hb] at ha; omega)
theorem d8_0 : decode jdk_29_method_69_code 0 = .ok (.iload_n 0, 1) := by decide +kernel
theorem d8_1 : decode jdk_29_method_69_code 1 = .ok (.iload_n 1, 1) := by decide +kernel
theorem d8_2 : decode jdk_29_method_69_code 2 = .ok (.if_icmp .gt 7, 3) := by decide +kernel
theorem d8_5 : decode jdk_29_method_69_code 5 = .ok (.iload_n 0, 1) := by decide +kernel
theorem d8_6 : decode jdk_29_method_69_code 6 = .ok (.goto 4, 3) := by decide +kernel
theorem d8_9 : decode jdk_29_method_69_code 9 = .ok (.iload_n 1, 1) := by decide +kernel
theorem d8_10 : decode jdk_29_method_69_code 10 = .ok (.ireturn, 1) := by decide +kernel
theorem pn_8 : plainFor (⟨"java/lang/Math", "min", "(II)I"⟩ : MethodName) = true := Jvm.Free.JP.mathPlain rfl (by decide +kernel)
theorem pd_8 : parseMethodDescriptor "(II)I" = some ⟨[.int, .int], some .int⟩ := by decide +kernel
set_option maxRecDepth 65536 in
set_option maxHeartbeats 40000000 in
theorem rm8 {l : Launch} {Z : State} {a0 : Array Value} (hw : ∀ d ∈ tables_1, d.before a0 Z = true) {n0 : Nat} {h0 : Heap} (Z0 : n0 ≤ h0.size) (p1 p2 : Int32)  :
    Con l Z n0 (⟨"java/lang/Math", "min", "(II)I"⟩ : MethodName) jdk_29_method_69_code 2 (some .int) ({ frames := 0, cells := 0, slots := 0, locals := 0 } : Room) #[(.int p1), (.int p2)] h0 (Val (fun v h => v = .int (own_min p1 p2) ∧ h0 = h)) := by
  refine con_intro pn_8 Z0 (fr := fun m => mkF m 0 #[.val (.int p1), .val (.int p2)] []) (fun m => by first | (simp [entryFrame, mkF, argsToLocals, Value.category]; done) | rfl) ?_
  intro p e s m below s₁ hs0 X0
  refine w_iloadN X0 (pc' := 1) d8_0 rfl rfl ?_
  refine w_iloadN X0 (pc' := 2) d8_1 rfl rfl ?_
  refine w_icmp_gt X0 9 5 d8_2 (by decide) rfl rfl (fun hc2 => ?_) (fun hc2 => ?_)
  · skip
    refine w_iloadN X0 (pc' := 10) d8_9 rfl rfl ?_
    exact w_ireturn X0 d8_10 ⟨by rw [own_min, if_pos hc2], rfl⟩ (by decide) (by decide)
  · skip
    refine w_iloadN X0 (pc' := 6) d8_5 rfl rfl ?_
    refine w_goto X0 (pc' := 10) d8_6 (by decide) rfl ?_
    exact w_ireturn X0 d8_10 ⟨by rw [own_min, if_neg hc2], rfl⟩ (by decide) (by decide)
theorem d7_0 : decode jdk_65_method_123_code 0 = .ok (.iload_n 1, 1) := by decide +kernel
theorem d7_1 : decode jdk_65_method_123_code 1 = .ok (.aload_n 0, 1) := by decide +kernel
theorem d7_2 : decode jdk_65_method_123_code 2 = .ok (.arraylength, 1) := by decide +kernel
theorem d7_3 : decode jdk_65_method_123_code 3 = .ok (.if_icmp .ne 11, 3) := by decide +kernel
theorem d7_6 : decode jdk_65_method_123_code 6 = .ok (.aload_n 0, 1) := by decide +kernel
theorem d7_7 : decode jdk_65_method_123_code 7 = .ok (.invokevirtual 316, 3) := by decide +kernel
theorem d7_10 : decode jdk_65_method_123_code 10 = .ok (.checkcast 317, 3) := by decide +kernel
theorem d7_13 : decode jdk_65_method_123_code 13 = .ok (.areturn, 1) := by decide +kernel
theorem d7_14 : decode jdk_65_method_123_code 14 = .ok (.iload_n 1, 1) := by decide +kernel
theorem d7_15 : decode jdk_65_method_123_code 15 = .ok (.newarray .int, 2) := by decide +kernel
theorem d7_17 : decode jdk_65_method_123_code 17 = .ok (.astore_n 2, 1) := by decide +kernel
theorem d7_18 : decode jdk_65_method_123_code 18 = .ok (.aload_n 0, 1) := by decide +kernel
theorem d7_19 : decode jdk_65_method_123_code 19 = .ok (.iconst 0, 1) := by decide +kernel
theorem d7_20 : decode jdk_65_method_123_code 20 = .ok (.aload_n 2, 1) := by decide +kernel
theorem d7_21 : decode jdk_65_method_123_code 21 = .ok (.iconst 0, 1) := by decide +kernel
theorem d7_22 : decode jdk_65_method_123_code 22 = .ok (.aload_n 0, 1) := by decide +kernel
theorem d7_23 : decode jdk_65_method_123_code 23 = .ok (.arraylength, 1) := by decide +kernel
theorem d7_24 : decode jdk_65_method_123_code 24 = .ok (.iload_n 1, 1) := by decide +kernel
theorem d7_25 : decode jdk_65_method_123_code 25 = .ok (.invokestatic 304, 3) := by decide +kernel
theorem d7_28 : decode jdk_65_method_123_code 28 = .ok (.invokestatic 150, 3) := by decide +kernel
theorem d7_31 : decode jdk_65_method_123_code 31 = .ok (.aload_n 2, 1) := by decide +kernel
theorem d7_32 : decode jdk_65_method_123_code 32 = .ok (.areturn, 1) := by decide +kernel
theorem pn_7 : plainFor (⟨"java/util/Arrays", "copyOf", "([II)[I"⟩ : MethodName) = true := plainFor_of_name (by first | (simp [plainName, overriddenIn]; done) | decide +kernel)
theorem pd_7 : parseMethodDescriptor "([II)[I" = some ⟨[(.array .int), .int], some (.array .int)⟩ := by decide +kernel
def own_cp (n k : Nat) (f : Nat → Value) : Nat → Value := (fun q => if 0 ≤ q ∧ q < 0 + min n k then f (0 + (q - 0)) else (fun _ => (.int (0 : Int32))) q)
set_option maxRecDepth 65536 in
set_option maxHeartbeats 40000000 in
theorem rm7 {l : Launch} {Z : State} {a0 : Array Value} (hw : ∀ d ∈ tables_1, d.before a0 Z = true) {n0 : Nat} {h0 : Heap} (Z0 : n0 ≤ h0.size) (a1 : Addr) (p2 : Int32) {n k : Nat} {f : Nat → Value} (A_1 : Ary Z h0 a1 .int n f) {z1 : Int32} (hz1 : z1.toInt = (n : Int)) (hk : p2.toInt = (k : Int)) (hnk : k ≠ n) (hk32 : k ≤ 32) (fA : ∀ i, i < n → fits .int (f i) = true) :
    Con l Z n0 (⟨"java/util/Arrays", "copyOf", "([II)[I"⟩ : MethodName) jdk_65_method_123_code 3 (some (.array .int)) ({ frames := 1, cells := 1, slots := 32, locals := 18 } : Room) #[(.ref a1), (.int p2)] h0 (Val (fun v h => ∃ b : Addr, v = .ref b ∧ b = h0.size ∧ n0 ≤ b ∧ Keep h0 h [] ∧ Ary Z h b .int k (own_cp n k f))) := by
  refine con_intro pn_7 Z0 (fr := fun m => mkF m 0 #[.val (.ref a1), .val (.int p2), .unset] []) (fun m => by first | (simp [entryFrame, mkF, argsToLocals, Value.category]; done) | rfl) ?_
  intro p e s m below s₁ hs0 X0
  refine w_iloadN X0 (pc' := 1) d7_0 rfl rfl ?_
  refine w_aloadN X0 (pc' := 2) d7_1 rfl rfl rfl ?_
  refine w_arraylength X0 (pc' := 3) z1 d7_2 A_1 hz1 rfl ?_
  refine w_icmp_ne X0 14 6 d7_3 (by decide) rfl rfl (fun hc3 => ?_) (fun hc3 => by exfalso; exact own_neq hk hz1 hnk hc3)
  refine w_iloadN X0 (pc' := 15) d7_14 rfl rfl ?_
  refine w_newarray X0 (pc' := 17) k 32 d7_15 (hw _ (List.mem_of_getElem? (i := 9) rfl)) hk hk32 (by decide) (by decide) (by decide) rfl fun T1 h1 b1 g1 gn1 X1 E1 A1 => ?_
  have ne_a1_b1 : a1 ≠ b1 := ne_new g1 A_1.lt
  have K_b1 : Keep h0 _ [] := (Keep.refl h0 [])
  have sz_b1 : h0.size ≤ b1 := sz_fresh g1 K_b1
  have A_2 := A_1.ext E1
  have K_3 : Keep h0 h1 [] := K_b1.ext E1
  replace A1 : Ary Z h1 b1 .int k (fun _ => (.int (0 : Int32))) := A1
  refine w_astoreN X1 (pc' := 18) (l' := #[.val (.ref a1), .val (.int p2), .val (.ref b1)]) d7_17 rfl rfl rfl ?_
  refine w_aloadN X1 (pc' := 19) d7_18 rfl rfl rfl ?_
  refine w_iconst X1 (pc' := 20) (0 : Int32) d7_19 rfl rfl ?_
  refine w_aloadN X1 (pc' := 21) d7_20 rfl rfl rfl ?_
  refine w_iconst X1 (pc' := 22) (0 : Int32) d7_21 rfl rfl ?_
  refine w_aloadN X1 (pc' := 23) d7_22 rfl rfl rfl ?_
  refine w_arraylength X1 (pc' := 24) z1 d7_23 A_2 hz1 rfl ?_
  refine w_iloadN X1 (pc' := 25) d7_24 rfl rfl ?_
  refine w_staticV X1 (pc' := 28) d7_25 (rm8 hw (h0 := h1) (sd_size X1) z1 p2) (hw _ (List.mem_of_getElem? (i := 37) rfl)) (hw _ (List.mem_of_getElem? (i := 38) rfl)) (hw _ (List.mem_of_getElem? (i := 39) rfl)) (hw _ (List.mem_of_getElem? (i := 40) rfl)) (by decide) [(.int z1), (.int p2)] [(.int (0 : Int32)), (.ref b1), (.int (0 : Int32)), (.ref a1)] pd_8 rfl rfl rfl rfl 4 (Nat.le_refl _) (by decide) (by decide) (by decide) (by decide) rfl fun T4 h4 v4 X4 q4 => ?_
  obtain ⟨rfl, rfl⟩ := q4
  refine w_arraycopy X4 (pc' := 31) 0 0 (min n k) d7_28 (hw _ (List.mem_of_getElem? (i := 41) rfl)) (hw _ (List.mem_of_getElem? (i := 44) rfl)) (hw _ (List.mem_of_getElem? (i := 42) rfl)) (hw _ (List.mem_of_getElem? (i := 43) rfl)) A_2 A1 rfl fA (fun i hi => rfl) (by decide) (by decide) (own_minI hz1 hk) (by omega) (by omega) gn1 rfl (by decide) 0 (Nat.le_refl _) (by decide) rfl fun T5 h5 X5 K5 A5 => ?_
  have A_6 := A_2.keep K5 (ninS ne_a1_b1 nin0)
  have K_7 : Keep h0 h5 [] := K_3.trans K5 (allS (Or.inr sz_b1) all0)
  refine w_aloadN X5 (pc' := 32) d7_31 rfl rfl rfl ?_
  exact w_areturn X5 d7_32 rfl rfl rfl ⟨_, rfl, g1, gn1, K_7, A5⟩ (by decide) (by decide)
theorem d1_0 : decode prog_46_method_1_code 0 = .ok (.aload_n 0, 1) := by decide +kernel
theorem d1_1 : decode prog_46_method_1_code 1 = .ok (.invokespecial 1, 3) := by decide +kernel
theorem d1_4 : decode prog_46_method_1_code 4 = .ok (.aload_n 0, 1) := by decide +kernel
theorem d1_5 : decode prog_46_method_1_code 5 = .ok (.bipush 16, 2) := by decide +kernel
theorem d1_7 : decode prog_46_method_1_code 7 = .ok (.newarray .int, 2) := by decide +kernel
theorem d1_9 : decode prog_46_method_1_code 9 = .ok (.putfield 7, 3) := by decide +kernel
theorem d1_12 : decode prog_46_method_1_code 12 = .ok (.return_, 1) := by decide +kernel
theorem pn_1 : plainFor (⟨"com/example/edict4/edict4/regex/IntList", "<init>", "()V"⟩ : MethodName) = true := plainFor_of_name (by first | (simp [plainName, overriddenIn]; done) | decide +kernel)
theorem pd_1 : parseMethodDescriptor "()V" = some ⟨[], none⟩ := by decide +kernel
set_option maxRecDepth 65536 in
set_option maxHeartbeats 40000000 in
theorem rm1 {l : Launch} {Z : State} {a0 : Array Value} (hw : ∀ d ∈ tables_1, d.before a0 Z = true) {n0 : Nat} {h0 : Heap} (Z0 : n0 ≤ h0.size) (a1 : Addr) (E_a1 : Exa Z h0 a1 "com/example/edict4/edict4/regex/IntList") (F1 : Fld Z h0 a1 "com/example/edict4/edict4/regex/IntList" "mValues" "[I" .null) (F2 : Fld Z h0 a1 "com/example/edict4/edict4/regex/IntList" "mSize" "I" (.int (0 : Int32))) (g_a1 : n0 ≤ a1) :
    Con l Z n0 (⟨"com/example/edict4/edict4/regex/IntList", "<init>", "()V"⟩ : MethodName) prog_46_method_1_code 1 none ({ frames := 1, cells := 1, slots := 16, locals := 12 } : Room) #[(.ref a1)] h0 (Non (fun h => IL Z n0 h a1 0 16 (fun _ => (.int (0 : Int32))))) := by
  refine con_intro pn_1 Z0 (fr := fun m => mkF m 0 #[.val (.ref a1)] []) (fun m => by first | (simp [entryFrame, mkF, argsToLocals, Value.category]; done) | rfl) ?_
  intro p e s m below s₁ hs0 X0
  refine w_aloadN X0 (pc' := 1) d1_0 rfl rfl rfl ?_
  refine w_initO X0 (pc' := 4) d1_1 (hw _ (List.mem_of_getElem? (i := 6) rfl)) (hw _ (List.mem_of_getElem? (i := 7) rfl)) (hw _ (List.mem_of_getElem? (i := 8) rfl)) rfl (by decide) 0 (Nat.le_refl _) (by decide) rfl fun T1 X1 => ?_
  refine w_aloadN X1 (pc' := 5) d1_4 rfl rfl rfl ?_
  refine w_bipush X1 (pc' := 7) (16 : Int32) d1_5 rfl rfl ?_
  refine w_newarray X1 (pc' := 9) 16 16 d1_7 (hw _ (List.mem_of_getElem? (i := 9) rfl)) (by decide) (by decide) (by decide) (by decide) (by decide) rfl fun T2 h2 b2 g2 gn2 X2 E2 A2 => ?_
  have ne_a1_b2 : a1 ≠ b2 := ne_new g2 F1.lt
  have F1_3 := Fld.ext E2 F1
  have F2_3 := Fld.ext E2 F2
  have E_a1_3 := Exa.ext E2 E_a1
  replace A2 : Ary Z h2 b2 .int 16 (fun _ => (.int (0 : Int32))) := A2
  refine w_putfield X2 (pc' := 12) d1_9 (host := "") (Or.inl (hw _ (List.mem_of_getElem? (i := 10) rfl))) Via.refl F1_3 E_a1_3 (Or.inl (hw _ (List.mem_of_getElem? (i := 11) rfl))) (hw _ (List.mem_of_getElem? (i := 1) rfl)) (ty := (.array .int)) (by decide) rfl rfl g_a1 rfl fun T4 h4 X4 W4 F4 => ?_
  have F2_5 := Fld.other W4 F2_3 (Or.inr (slot_ne (C := "com/example/edict4/edict4/regex/IntList") (Or.inl (hw _ (List.mem_of_getElem? (i := 18) rfl))) (Or.inl (hw _ (List.mem_of_getElem? (i := 11) rfl))) (by decide) (t := .int) (t' := (.array .int)) (by decide) (by decide)))
  have E_a1_5 := Exa.wr W4 E_a1_3
  have A2_5 := A2.other W4 (Ne.symm ne_a1_b2)
  exact w_return X4 d1_12 ⟨b2, gn2, ne_a1_b2, E_a1_5, F4, F2_5, A2_5, fun _ _ => rfl⟩ (by decide) (by decide)
theorem d5_0 : decode prog_46_method_5_code 0 = .ok (.aload_n 0, 1) := by decide +kernel
theorem d5_1 : decode prog_46_method_5_code 1 = .ok (.getfield 13, 3) := by decide +kernel
theorem d5_4 : decode prog_46_method_5_code 4 = .ok (.aload_n 0, 1) := by decide +kernel
theorem d5_5 : decode prog_46_method_5_code 5 = .ok (.getfield 7, 3) := by decide +kernel
theorem d5_8 : decode prog_46_method_5_code 8 = .ok (.arraylength, 1) := by decide +kernel
theorem d5_9 : decode prog_46_method_5_code 9 = .ok (.if_icmp .ne 20, 3) := by decide +kernel
theorem d5_12 : decode prog_46_method_5_code 12 = .ok (.aload_n 0, 1) := by decide +kernel
theorem d5_13 : decode prog_46_method_5_code 13 = .ok (.aload_n 0, 1) := by decide +kernel
theorem d5_14 : decode prog_46_method_5_code 14 = .ok (.getfield 7, 3) := by decide +kernel
theorem d5_17 : decode prog_46_method_5_code 17 = .ok (.iconst 2, 1) := by decide +kernel
theorem d5_18 : decode prog_46_method_5_code 18 = .ok (.aload_n 0, 1) := by decide +kernel
theorem d5_19 : decode prog_46_method_5_code 19 = .ok (.getfield 13, 3) := by decide +kernel
theorem d5_22 : decode prog_46_method_5_code 22 = .ok (.imul, 1) := by decide +kernel
theorem d5_23 : decode prog_46_method_5_code 23 = .ok (.invokestatic 17, 3) := by decide +kernel
theorem d5_26 : decode prog_46_method_5_code 26 = .ok (.putfield 7, 3) := by decide +kernel
theorem d5_29 : decode prog_46_method_5_code 29 = .ok (.aload_n 0, 1) := by decide +kernel
theorem d5_30 : decode prog_46_method_5_code 30 = .ok (.getfield 7, 3) := by decide +kernel
theorem d5_33 : decode prog_46_method_5_code 33 = .ok (.aload_n 0, 1) := by decide +kernel
theorem d5_34 : decode prog_46_method_5_code 34 = .ok (.dup, 1) := by decide +kernel
theorem d5_35 : decode prog_46_method_5_code 35 = .ok (.getfield 13, 3) := by decide +kernel
theorem d5_38 : decode prog_46_method_5_code 38 = .ok (.dup_x1, 1) := by decide +kernel
theorem d5_39 : decode prog_46_method_5_code 39 = .ok (.iconst 1, 1) := by decide +kernel
theorem d5_40 : decode prog_46_method_5_code 40 = .ok (.iadd, 1) := by decide +kernel
theorem d5_41 : decode prog_46_method_5_code 41 = .ok (.putfield 13, 3) := by decide +kernel
theorem d5_44 : decode prog_46_method_5_code 44 = .ok (.iload_n 1, 1) := by decide +kernel
theorem d5_45 : decode prog_46_method_5_code 45 = .ok (.iastore, 1) := by decide +kernel
theorem d5_46 : decode prog_46_method_5_code 46 = .ok (.return_, 1) := by decide +kernel
theorem pn_5 : plainFor (⟨"com/example/edict4/edict4/regex/IntList", "add", "(I)V"⟩ : MethodName) = true := plainFor_of_name (by first | (simp [plainName, overriddenIn]; done) | decide +kernel)
theorem pd_5 : parseMethodDescriptor "(I)V" = some ⟨[.int], none⟩ := by decide +kernel
set_option maxRecDepth 65536 in
set_option maxHeartbeats 40000000 in
theorem rm5 {l : Launch} {Z : State} {a0 : Array Value} (hw : ∀ d ∈ tables_1, d.before a0 Z = true) {n0 : Nat} {h0 : Heap} (Z0 : n0 ≤ h0.size) (a1 : Addr) (p2 : Int32) {n : Nat} {f : Nat → Value} (O : IL Z n0 h0 a1 n 16 f) (hn : n < 16) (g_a1 : n0 ≤ a1) :
    Con l Z n0 (⟨"com/example/edict4/edict4/regex/IntList", "add", "(I)V"⟩ : MethodName) prog_46_method_5_code 2 none ({ frames := 0, cells := 0, slots := 0, locals := 0 } : Room) #[(.ref a1), (.int p2)] h0 (Non (fun h => IL Z n0 h a1 (n + 1) 16 (upd f n (.int p2)))) := by
  refine con_intro pn_5 Z0 (fr := fun m => mkF m 0 #[.val (.ref a1), .val (.int p2)] []) (fun m => by first | (simp [entryFrame, mkF, argsToLocals, Value.category]; done) | rfl) ?_
  intro p e s m below s₁ hs0 X0
  obtain ⟨r, g_r, ne_r, E_a1, F1, F2, A_r, hf⟩ := O
  refine w_aloadN X0 (pc' := 1) d5_0 rfl rfl rfl ?_
  refine w_getfield X0 (pc' := 4) d5_1 (host := "") (Or.inl (hw _ (List.mem_of_getElem? (i := 17) rfl))) Via.refl F2 rfl fun T1 X1 => ?_
  refine w_aloadN X1 (pc' := 5) d5_4 rfl rfl rfl ?_
  refine w_getfield X1 (pc' := 8) d5_5 (host := "") (Or.inl (hw _ (List.mem_of_getElem? (i := 10) rfl))) Via.refl F1 rfl fun T2 X2 => ?_
  refine w_arraylength X2 (pc' := 9) (16 : Int32) d5_8 A_r (by decide) rfl ?_
  refine w_icmp_ne X2 29 12 d5_9 (by decide) rfl rfl (fun hc9 => ?_) (fun hc9 => by exfalso; exact own_neq (own_nat n (by omega)) (by decide : (16 : Int32).toInt = ((16 : Nat) : Int)) (by omega) hc9)
  refine w_aloadN X2 (pc' := 30) d5_29 rfl rfl rfl ?_
  refine w_getfield X2 (pc' := 33) d5_30 (host := "") (Or.inl (hw _ (List.mem_of_getElem? (i := 10) rfl))) Via.refl F1 rfl fun T3 X3 => ?_
  refine w_aloadN X3 (pc' := 34) d5_33 rfl rfl rfl ?_
  refine w_dup X3 (pc' := 35) d5_34 rfl rfl ?_
  refine w_getfield X3 (pc' := 38) d5_35 (host := "") (Or.inl (hw _ (List.mem_of_getElem? (i := 17) rfl))) Via.refl F2 rfl fun T4 X4 => ?_
  refine w_dup_x1 X4 (pc' := 39) d5_38 rfl rfl rfl ?_
  refine w_iconst X4 (pc' := 40) (1 : Int32) d5_39 rfl rfl ?_
  refine w_iadd X4 (pc' := 41) d5_40 rfl ?_
  refine w_putfield X4 (pc' := 44) d5_41 (host := "") (Or.inl (hw _ (List.mem_of_getElem? (i := 17) rfl))) Via.refl F2 E_a1 (Or.inl (hw _ (List.mem_of_getElem? (i := 18) rfl))) (hw _ (List.mem_of_getElem? (i := 1) rfl)) (ty := .int) (by decide) rfl rfl g_a1 rfl fun T5 h5 X5 W5 F5 => ?_
  have F1_6 := Fld.other W5 F1 (Or.inr (slot_ne (C := "com/example/edict4/edict4/regex/IntList") (Or.inl (hw _ (List.mem_of_getElem? (i := 11) rfl))) (Or.inl (hw _ (List.mem_of_getElem? (i := 18) rfl))) (by decide) (t := (.array .int)) (t' := .int) (by decide) (by decide)))
  have E_a1_6 := Exa.wr W5 E_a1
  have A_r_6 := A_r.other W5 (Ne.symm ne_r)
  refine w_iloadN X5 (pc' := 45) d5_44 rfl rfl ?_
  refine w_iastore X5 (pc' := 46) n d5_45 A_r_6 (own_nat n (by omega)) (by omega) g_r rfl fun T7 h7 X7 W7 A7 => ?_
  have F1_8 := Fld.other W7 F1_6 (Or.inl ne_r)
  have F5_8 := Fld.other W7 F5 (Or.inl ne_r)
  have E_a1_8 := Exa.wr W7 E_a1_6
  exact w_return X7 d5_46 ⟨r, g_r, ne_r, E_a1_8, F1_8, own_succ n ▸ F5_8, A7, own_fit f n 16 p2 hf⟩ (by decide) (by decide)
set_option maxRecDepth 65536 in
set_option maxHeartbeats 40000000 in
theorem rm5g {l : Launch} {Z : State} {a0 : Array Value} (hw : ∀ d ∈ tables_1, d.before a0 Z = true) {n0 : Nat} {h0 : Heap} (Z0 : n0 ≤ h0.size) (a1 : Addr) (p2 : Int32) {f : Nat → Value} (O : IL Z n0 h0 a1 16 16 f) (g_a1 : n0 ≤ a1) :
    Con l Z n0 (⟨"com/example/edict4/edict4/regex/IntList", "add", "(I)V"⟩ : MethodName) prog_46_method_5_code 2 none ({ frames := 2, cells := 1, slots := 32, locals := 33 } : Room) #[(.ref a1), (.int p2)] h0 (Non (fun h => IL Z n0 h a1 17 32 (upd (own_cp 16 32 f) 16 (.int p2)))) := by
  refine con_intro pn_5 Z0 (fr := fun m => mkF m 0 #[.val (.ref a1), .val (.int p2)] []) (fun m => by first | (simp [entryFrame, mkF, argsToLocals, Value.category]; done) | rfl) ?_
  intro p e s m below s₁ hs0 X0
  obtain ⟨r, g_r, ne_r, E_a1, F1, F2, A_r, hf⟩ := O
  refine w_aloadN X0 (pc' := 1) d5_0 rfl rfl rfl ?_
  refine w_getfield X0 (pc' := 4) d5_1 (host := "") (Or.inl (hw _ (List.mem_of_getElem? (i := 17) rfl))) Via.refl F2 rfl fun T1 X1 => ?_
  refine w_aloadN X1 (pc' := 5) d5_4 rfl rfl rfl ?_
  refine w_getfield X1 (pc' := 8) d5_5 (host := "") (Or.inl (hw _ (List.mem_of_getElem? (i := 10) rfl))) Via.refl F1 rfl fun T2 X2 => ?_
  refine w_arraylength X2 (pc' := 9) (16 : Int32) d5_8 A_r (by decide) rfl ?_
  refine w_icmp_ne X2 29 12 d5_9 (by decide) rfl rfl (fun hc9 => by exfalso; exact hc9 (by decide)) (fun hc9 => ?_)
  refine w_aloadN X2 (pc' := 13) d5_12 rfl rfl rfl ?_
  refine w_aloadN X2 (pc' := 14) d5_13 rfl rfl rfl ?_
  refine w_getfield X2 (pc' := 17) d5_14 (host := "") (Or.inl (hw _ (List.mem_of_getElem? (i := 10) rfl))) Via.refl F1 rfl fun T3 X3 => ?_
  refine w_iconst X3 (pc' := 18) (2 : Int32) d5_17 rfl rfl ?_
  refine w_aloadN X3 (pc' := 19) d5_18 rfl rfl rfl ?_
  refine w_getfield X3 (pc' := 22) d5_19 (host := "") (Or.inl (hw _ (List.mem_of_getElem? (i := 17) rfl))) Via.refl F2 rfl fun T4 X4 => ?_
  refine w_imul X4 (pc' := 23) d5_22 rfl ?_
  refine w_staticV X4 (pc' := 26) d5_23 (rm7 hw (h0 := h0) (sd_size X4) r ((2 : Int32) * (Int32.ofNat 16)) A_r (k := 32) (z1 := (16 : Int32)) (by decide) (by decide) (by decide) (by decide) hf) (hw _ (List.mem_of_getElem? (i := 33) rfl)) (hw _ (List.mem_of_getElem? (i := 34) rfl)) (hw _ (List.mem_of_getElem? (i := 35) rfl)) (hw _ (List.mem_of_getElem? (i := 36) rfl)) (by decide) [(.ref r), (.int ((2 : Int32) * (Int32.ofNat 16)))] [(.ref a1)] pd_7 rfl rfl rfl rfl 1 (Nat.le_refl _) (by decide) (by decide) (by decide) (by decide) rfl fun T5 h5 v5 X5 q5 => ?_
  obtain ⟨b5, rfl, g5, gn5, K5, A5⟩ := q5
  have ne_a1_b5 : a1 ≠ b5 := ne_new g5 F1.lt
  have ne_r_b5 : r ≠ b5 := ne_new g5 A_r.lt
  have F1_6 := F1.keep K5 nin0
  have F2_6 := F2.keep K5 nin0
  have E_a1_6 := E_a1.keep K5
  have A_r_6 := A_r.keep K5 nin0
  refine w_putfield X5 (pc' := 29) d5_26 (host := "") (Or.inl (hw _ (List.mem_of_getElem? (i := 10) rfl))) Via.refl F1_6 E_a1_6 (Or.inl (hw _ (List.mem_of_getElem? (i := 11) rfl))) (hw _ (List.mem_of_getElem? (i := 1) rfl)) (ty := (.array .int)) (by decide) rfl rfl g_a1 rfl fun T7 h7 X7 W7 F7 => ?_
  have F2_8 := Fld.other W7 F2_6 (Or.inr (slot_ne (C := "com/example/edict4/edict4/regex/IntList") (Or.inl (hw _ (List.mem_of_getElem? (i := 18) rfl))) (Or.inl (hw _ (List.mem_of_getElem? (i := 11) rfl))) (by decide) (t := .int) (t' := (.array .int)) (by decide) (by decide)))
  have E_a1_8 := Exa.wr W7 E_a1_6
  have A_r_8 := A_r_6.other W7 (Ne.symm ne_r)
  have A5_8 := A5.other W7 (Ne.symm ne_a1_b5)
  refine w_aloadN X7 (pc' := 30) d5_29 rfl rfl rfl ?_
  refine w_getfield X7 (pc' := 33) d5_30 (host := "") (Or.inl (hw _ (List.mem_of_getElem? (i := 10) rfl))) Via.refl F7 rfl fun T9 X9 => ?_
  refine w_aloadN X9 (pc' := 34) d5_33 rfl rfl rfl ?_
  refine w_dup X9 (pc' := 35) d5_34 rfl rfl ?_
  refine w_getfield X9 (pc' := 38) d5_35 (host := "") (Or.inl (hw _ (List.mem_of_getElem? (i := 17) rfl))) Via.refl F2_8 rfl fun T10 X10 => ?_
  refine w_dup_x1 X10 (pc' := 39) d5_38 rfl rfl rfl ?_
  refine w_iconst X10 (pc' := 40) (1 : Int32) d5_39 rfl rfl ?_
  refine w_iadd X10 (pc' := 41) d5_40 rfl ?_
  refine w_putfield X10 (pc' := 44) d5_41 (host := "") (Or.inl (hw _ (List.mem_of_getElem? (i := 17) rfl))) Via.refl F2_8 E_a1_8 (Or.inl (hw _ (List.mem_of_getElem? (i := 18) rfl))) (hw _ (List.mem_of_getElem? (i := 1) rfl)) (ty := .int) (by decide) rfl rfl g_a1 rfl fun T11 h11 X11 W11 F11 => ?_
  have F7_12 := Fld.other W11 F7 (Or.inr (slot_ne (C := "com/example/edict4/edict4/regex/IntList") (Or.inl (hw _ (List.mem_of_getElem? (i := 11) rfl))) (Or.inl (hw _ (List.mem_of_getElem? (i := 18) rfl))) (by decide) (t := (.array .int)) (t' := .int) (by decide) (by decide)))
  have E_a1_12 := Exa.wr W11 E_a1_8
  have A_r_12 := A_r_8.other W11 (Ne.symm ne_r)
  have A5_12 := A5_8.other W11 (Ne.symm ne_a1_b5)
  refine w_iloadN X11 (pc' := 45) d5_44 rfl rfl ?_
  refine w_iastore X11 (pc' := 46) 16 d5_45 A5_12 (by decide) (by decide) gn5 rfl fun T13 h13 X13 W13 A13 => ?_
  have F7_14 := Fld.other W13 F7_12 (Or.inl ne_a1_b5)
  have F11_14 := Fld.other W13 F11 (Or.inl ne_a1_b5)
  have E_a1_14 := Exa.wr W13 E_a1_12
  have A_r_14 := A_r_12.other W13 ne_r_b5
  exact w_return X13 d5_46 ⟨b5, gn5, ne_a1_b5, E_a1_14, F7_14, own_succ 16 ▸ F11_14, A13, own_fit (own_cp 16 32 f) 16 32 p2 (fun i hi => by unfold own_cp; split; exact hf _ (by omega); rfl)⟩ (by decide) (by decide)
theorem d3_0 : decode prog_46_method_2_code 0 = .ok (.aload_n 0, 1) := by decide +kernel
theorem d3_1 : decode prog_46_method_2_code 1 = .ok (.getfield 13, 3) := by decide +kernel
theorem d3_4 : decode prog_46_method_2_code 4 = .ok (.ireturn, 1) := by decide +kernel
theorem pn_3 : plainFor (⟨"com/example/edict4/edict4/regex/IntList", "size", "()I"⟩ : MethodName) = true := plainFor_of_name (by first | (simp [plainName, overriddenIn]; done) | decide +kernel)
theorem pd_3 : parseMethodDescriptor "()I" = some ⟨[], some .int⟩ := by decide +kernel
set_option maxRecDepth 65536 in
set_option maxHeartbeats 40000000 in
theorem rm3 {l : Launch} {Z : State} {a0 : Array Value} (hw : ∀ d ∈ tables_1, d.before a0 Z = true) {n0 : Nat} {h0 : Heap} (Z0 : n0 ≤ h0.size) (a1 : Addr) {n cap : Nat} {f : Nat → Value} (O : IL Z n0 h0 a1 n cap f) :
    Con l Z n0 (⟨"com/example/edict4/edict4/regex/IntList", "size", "()I"⟩ : MethodName) prog_46_method_2_code 1 (some .int) ({ frames := 0, cells := 0, slots := 0, locals := 0 } : Room) #[(.ref a1)] h0 (Val (fun v h => v = .int (Int32.ofNat n) ∧ h0 = h)) := by
  refine con_intro pn_3 Z0 (fr := fun m => mkF m 0 #[.val (.ref a1)] []) (fun m => by first | (simp [entryFrame, mkF, argsToLocals, Value.category]; done) | rfl) ?_
  intro p e s m below s₁ hs0 X0
  obtain ⟨r, g_r, ne_r, E_a1, F1, F2, A_r, hf⟩ := O
  refine w_aloadN X0 (pc' := 1) d3_0 rfl rfl rfl ?_
  refine w_getfield X0 (pc' := 4) d3_1 (host := "") (Or.inl (hw _ (List.mem_of_getElem? (i := 17) rfl))) Via.refl F2 rfl fun T1 X1 => ?_
  exact w_ireturn X1 d3_4 ⟨rfl, rfl⟩ (by decide) (by decide)
theorem d6_0 : decode prog_46_method_3_code 0 = .ok (.aload_n 0, 1) := by decide +kernel
theorem d6_1 : decode prog_46_method_3_code 1 = .ok (.getfield 7, 3) := by decide +kernel
theorem d6_4 : decode prog_46_method_3_code 4 = .ok (.iload_n 1, 1) := by decide +kernel
theorem d6_5 : decode prog_46_method_3_code 5 = .ok (.iaload, 1) := by decide +kernel
theorem d6_6 : decode prog_46_method_3_code 6 = .ok (.ireturn, 1) := by decide +kernel
theorem pn_6 : plainFor (⟨"com/example/edict4/edict4/regex/IntList", "get", "(I)I"⟩ : MethodName) = true := plainFor_of_name (by first | (simp [plainName, overriddenIn]; done) | decide +kernel)
theorem pd_6 : parseMethodDescriptor "(I)I" = some ⟨[.int], some .int⟩ := by decide +kernel
set_option maxRecDepth 65536 in
set_option maxHeartbeats 40000000 in
theorem rm6 {l : Launch} {Z : State} {a0 : Array Value} (hw : ∀ d ∈ tables_1, d.before a0 Z = true) {n0 : Nat} {h0 : Heap} (Z0 : n0 ≤ h0.size) (a1 : Addr) (p2 : Int32) {n cap : Nat} {f : Nat → Value} (O : IL Z n0 h0 a1 n cap f) {i : Nat} (hi : p2.toInt = (i : Int)) (hic : i < cap) {z : Int32} (hfz : f i = .int z) :
    Con l Z n0 (⟨"com/example/edict4/edict4/regex/IntList", "get", "(I)I"⟩ : MethodName) prog_46_method_3_code 2 (some .int) ({ frames := 0, cells := 0, slots := 0, locals := 0 } : Room) #[(.ref a1), (.int p2)] h0 (Val (fun v h => v = .int z ∧ h0 = h)) := by
  refine con_intro pn_6 Z0 (fr := fun m => mkF m 0 #[.val (.ref a1), .val (.int p2)] []) (fun m => by first | (simp [entryFrame, mkF, argsToLocals, Value.category]; done) | rfl) ?_
  intro p e s m below s₁ hs0 X0
  obtain ⟨r, g_r, ne_r, E_a1, F1, F2, A_r, hf⟩ := O
  refine w_aloadN X0 (pc' := 1) d6_0 rfl rfl rfl ?_
  refine w_getfield X0 (pc' := 4) d6_1 (host := "") (Or.inl (hw _ (List.mem_of_getElem? (i := 10) rfl))) Via.refl F1 rfl fun T1 X1 => ?_
  refine w_iloadN X1 (pc' := 5) d6_4 rfl rfl ?_
  refine w_iaload X1 (pc' := 6) i (v := (.int z)) d6_5 A_r hi hic hfz rfl ?_
  exact w_ireturn X1 d6_6 ⟨rfl, rfl⟩ (by decide) (by decide)
theorem d9_0 : decode prog_46_method_8_code 0 = .ok (.aload_n 0, 1) := by decide +kernel
theorem d9_1 : decode prog_46_method_8_code 1 = .ok (.getfield 7, 3) := by decide +kernel
theorem d9_4 : decode prog_46_method_8_code 4 = .ok (.aload_n 0, 1) := by decide +kernel
theorem d9_5 : decode prog_46_method_8_code 5 = .ok (.getfield 13, 3) := by decide +kernel
theorem d9_8 : decode prog_46_method_8_code 8 = .ok (.invokestatic 17, 3) := by decide +kernel
theorem d9_11 : decode prog_46_method_8_code 11 = .ok (.areturn, 1) := by decide +kernel
theorem pn_9 : plainFor (⟨"com/example/edict4/edict4/regex/IntList", "toArray", "()[I"⟩ : MethodName) = true := plainFor_of_name (by first | (simp [plainName, overriddenIn]; done) | decide +kernel)
theorem pd_9 : parseMethodDescriptor "()[I" = some ⟨[], some (.array .int)⟩ := by decide +kernel
set_option maxRecDepth 65536 in
set_option maxHeartbeats 40000000 in
theorem rm9 {l : Launch} {Z : State} {a0 : Array Value} (hw : ∀ d ∈ tables_1, d.before a0 Z = true) {n0 : Nat} {h0 : Heap} (Z0 : n0 ≤ h0.size) (a1 : Addr) {f : Nat → Value} (O : IL Z n0 h0 a1 17 32 f) :
    Con l Z n0 (⟨"com/example/edict4/edict4/regex/IntList", "toArray", "()[I"⟩ : MethodName) prog_46_method_8_code 1 (some (.array .int)) ({ frames := 2, cells := 1, slots := 32, locals := 32 } : Room) #[(.ref a1)] h0 (Val (fun v h => ∃ b : Addr, v = .ref b ∧ b = h0.size ∧ n0 ≤ b ∧ Keep h0 h [] ∧ Ary Z h b .int 17 (own_cp 32 17 f))) := by
  refine con_intro pn_9 Z0 (fr := fun m => mkF m 0 #[.val (.ref a1)] []) (fun m => by first | (simp [entryFrame, mkF, argsToLocals, Value.category]; done) | rfl) ?_
  intro p e s m below s₁ hs0 X0
  obtain ⟨r, g_r, ne_r, E_a1, F1, F2, A_r, hf⟩ := O
  refine w_aloadN X0 (pc' := 1) d9_0 rfl rfl rfl ?_
  refine w_getfield X0 (pc' := 4) d9_1 (host := "") (Or.inl (hw _ (List.mem_of_getElem? (i := 10) rfl))) Via.refl F1 rfl fun T1 X1 => ?_
  refine w_aloadN X1 (pc' := 5) d9_4 rfl rfl rfl ?_
  refine w_getfield X1 (pc' := 8) d9_5 (host := "") (Or.inl (hw _ (List.mem_of_getElem? (i := 17) rfl))) Via.refl F2 rfl fun T2 X2 => ?_
  refine w_staticV X2 (pc' := 11) d9_8 (rm7 hw (h0 := h0) (sd_size X2) r (Int32.ofNat 17) A_r (k := 17) (z1 := (32 : Int32)) (by decide) (by decide) (by decide) (by decide) hf) (hw _ (List.mem_of_getElem? (i := 33) rfl)) (hw _ (List.mem_of_getElem? (i := 34) rfl)) (hw _ (List.mem_of_getElem? (i := 35) rfl)) (hw _ (List.mem_of_getElem? (i := 36) rfl)) (by decide) [(.ref r), (.int (Int32.ofNat 17))] [] pd_7 rfl rfl rfl rfl 0 (Nat.le_refl _) (by decide) (by decide) (by decide) (by decide) rfl fun T3 h3 v3 X3 q3 => ?_
  obtain ⟨b3, rfl, g3, gn3, K3, A3⟩ := q3
  have ne_a1_b3 : a1 ≠ b3 := ne_new g3 F1.lt
  have ne_r_b3 : r ≠ b3 := ne_new g3 A_r.lt
  have K_b3 : Keep h0 _ [] := (Keep.refl h0 [])
  have sz_b3 : h0.size ≤ b3 := sz_fresh g3 K_b3
  have F1_4 := F1.keep K3 nin0
  have F2_4 := F2.keep K3 nin0
  have E_a1_4 := E_a1.keep K3
  have A_r_4 := A_r.keep K3 nin0
  have K_5 : Keep h0 h3 [] := K_b3.trans K3 all0
  exact w_areturn X3 d9_11 rfl rfl rfl ⟨_, rfl, g3, gn3, K_5, A3⟩ (by decide) (by decide)
theorem d4_0 : decode method_2_code 0 = .ok (.aload_n 0, 1) := by decide +kernel
theorem d4_1 : decode method_2_code 1 = .ok (.iload_n 1, 1) := by decide +kernel
theorem d4_2 : decode method_2_code 2 = .ok (.invokevirtual 7, 3) := by decide +kernel
theorem d4_5 : decode method_2_code 5 = .ok (.aload_n 0, 1) := by decide +kernel
theorem d4_6 : decode method_2_code 6 = .ok (.iload_n 1, 1) := by decide +kernel
theorem d4_7 : decode method_2_code 7 = .ok (.iconst 1, 1) := by decide +kernel
theorem d4_8 : decode method_2_code 8 = .ok (.iadd, 1) := by decide +kernel
theorem d4_9 : decode method_2_code 9 = .ok (.invokevirtual 7, 3) := by decide +kernel
theorem d4_12 : decode method_2_code 12 = .ok (.aload_n 0, 1) := by decide +kernel
theorem d4_13 : decode method_2_code 13 = .ok (.iload_n 1, 1) := by decide +kernel
theorem d4_14 : decode method_2_code 14 = .ok (.iconst 2, 1) := by decide +kernel
theorem d4_15 : decode method_2_code 15 = .ok (.iadd, 1) := by decide +kernel
theorem d4_16 : decode method_2_code 16 = .ok (.invokevirtual 7, 3) := by decide +kernel
theorem d4_19 : decode method_2_code 19 = .ok (.aload_n 0, 1) := by decide +kernel
theorem d4_20 : decode method_2_code 20 = .ok (.iload_n 1, 1) := by decide +kernel
theorem d4_21 : decode method_2_code 21 = .ok (.iconst 3, 1) := by decide +kernel
theorem d4_22 : decode method_2_code 22 = .ok (.iadd, 1) := by decide +kernel
theorem d4_23 : decode method_2_code 23 = .ok (.invokevirtual 7, 3) := by decide +kernel
theorem d4_26 : decode method_2_code 26 = .ok (.return_, 1) := by decide +kernel
theorem pn_4 : plainFor (⟨"com/example/edict4/edict4/regex/IntListAddPinLaw", "add4", "(Lcom/example/edict4/edict4/regex/IntList;I)V"⟩ : MethodName) = true := plainFor_of_name (by first | (simp [plainName, overriddenIn]; done) | decide +kernel)
theorem pd_4 : parseMethodDescriptor "(Lcom/example/edict4/edict4/regex/IntList;I)V" = some ⟨[(.object "com/example/edict4/edict4/regex/IntList"), .int], none⟩ := by decide +kernel
set_option maxRecDepth 65536 in
set_option maxHeartbeats 40000000 in
theorem rm4 {l : Launch} {Z : State} {a0 : Array Value} (hw : ∀ d ∈ tables_1, d.before a0 Z = true) {n0 : Nat} {h0 : Heap} (Z0 : n0 ≤ h0.size) (a1 : Addr) (p2 : Int32) {n : Nat} {f : Nat → Value} (O : IL Z n0 h0 a1 n 16 f) (hn : n + 3 < 16) (g_a1 : n0 ≤ a1) :
    Con l Z n0 (⟨"com/example/edict4/edict4/regex/IntListAddPinLaw", "add4", "(Lcom/example/edict4/edict4/regex/IntList;I)V"⟩ : MethodName) method_2_code 2 none ({ frames := 1, cells := 0, slots := 0, locals := 13 } : Room) #[(.ref a1), (.int p2)] h0 (Non (fun h => IL Z n0 h a1 (n + 4) 16 (upd (upd (upd (upd f n (.int p2)) (n + 1) (.int (p2 + (1 : Int32)))) (n + 2) (.int (p2 + (2 : Int32)))) (n + 3) (.int (p2 + (3 : Int32)))))) := by
  refine con_intro pn_4 Z0 (fr := fun m => mkF m 0 #[.val (.ref a1), .val (.int p2)] []) (fun m => by first | (simp [entryFrame, mkF, argsToLocals, Value.category]; done) | rfl) ?_
  intro p e s m below s₁ hs0 X0
  have E0 := O.exa
  refine w_aloadN X0 (pc' := 1) d4_0 rfl rfl rfl ?_
  refine w_iloadN X0 (pc' := 2) d4_1 rfl rfl ?_
  refine w_virtualN X0 (pc' := 5) d4_2 (rm5 hw (h0 := h0) (sd_size X0) a1 p2 O (by omega) g_a1) (hw _ (List.mem_of_getElem? (i := 23) rfl)) (hw _ (List.mem_of_getElem? (i := 24) rfl)) (hw _ (List.mem_of_getElem? (i := 26) rfl)) (hw _ (List.mem_of_getElem? (i := 25) rfl)) (hw _ (List.mem_of_getElem? (i := 2) rfl)) (hw _ (List.mem_of_getElem? (i := 27) rfl)) E0 (by decide) [(.int p2)] [] pd_5 rfl rfl rfl rfl 0 (Nat.le_refl _) (by decide) (by decide) (by decide) (by decide) rfl fun T1 h1 X1 q1 => ?_
  have E1 := q1.exa
  refine w_aloadN X1 (pc' := 6) d4_5 rfl rfl rfl ?_
  refine w_iloadN X1 (pc' := 7) d4_6 rfl rfl ?_
  refine w_iconst X1 (pc' := 8) (1 : Int32) d4_7 rfl rfl ?_
  refine w_iadd X1 (pc' := 9) d4_8 rfl ?_
  refine w_virtualN X1 (pc' := 12) d4_9 (rm5 hw (h0 := h1) (sd_size X1) a1 (p2 + (1 : Int32)) q1 (by omega) g_a1) (hw _ (List.mem_of_getElem? (i := 23) rfl)) (hw _ (List.mem_of_getElem? (i := 24) rfl)) (hw _ (List.mem_of_getElem? (i := 26) rfl)) (hw _ (List.mem_of_getElem? (i := 25) rfl)) (hw _ (List.mem_of_getElem? (i := 2) rfl)) (hw _ (List.mem_of_getElem? (i := 27) rfl)) E1 (by decide) [(.int (p2 + (1 : Int32)))] [] pd_5 rfl rfl rfl rfl 0 (Nat.le_refl _) (by decide) (by decide) (by decide) (by decide) rfl fun T2 h2 X2 q2 => ?_
  have E2 := q2.exa
  refine w_aloadN X2 (pc' := 13) d4_12 rfl rfl rfl ?_
  refine w_iloadN X2 (pc' := 14) d4_13 rfl rfl ?_
  refine w_iconst X2 (pc' := 15) (2 : Int32) d4_14 rfl rfl ?_
  refine w_iadd X2 (pc' := 16) d4_15 rfl ?_
  refine w_virtualN X2 (pc' := 19) d4_16 (rm5 hw (h0 := h2) (sd_size X2) a1 (p2 + (2 : Int32)) q2 (by omega) g_a1) (hw _ (List.mem_of_getElem? (i := 23) rfl)) (hw _ (List.mem_of_getElem? (i := 24) rfl)) (hw _ (List.mem_of_getElem? (i := 26) rfl)) (hw _ (List.mem_of_getElem? (i := 25) rfl)) (hw _ (List.mem_of_getElem? (i := 2) rfl)) (hw _ (List.mem_of_getElem? (i := 27) rfl)) E2 (by decide) [(.int (p2 + (2 : Int32)))] [] pd_5 rfl rfl rfl rfl 0 (Nat.le_refl _) (by decide) (by decide) (by decide) (by decide) rfl fun T3 h3 X3 q3 => ?_
  have E3 := q3.exa
  refine w_aloadN X3 (pc' := 20) d4_19 rfl rfl rfl ?_
  refine w_iloadN X3 (pc' := 21) d4_20 rfl rfl ?_
  refine w_iconst X3 (pc' := 22) (3 : Int32) d4_21 rfl rfl ?_
  refine w_iadd X3 (pc' := 23) d4_22 rfl ?_
  refine w_virtualN X3 (pc' := 26) d4_23 (rm5 hw (h0 := h3) (sd_size X3) a1 (p2 + (3 : Int32)) q3 (by omega) g_a1) (hw _ (List.mem_of_getElem? (i := 23) rfl)) (hw _ (List.mem_of_getElem? (i := 24) rfl)) (hw _ (List.mem_of_getElem? (i := 26) rfl)) (hw _ (List.mem_of_getElem? (i := 25) rfl)) (hw _ (List.mem_of_getElem? (i := 2) rfl)) (hw _ (List.mem_of_getElem? (i := 27) rfl)) E3 (by decide) [(.int (p2 + (3 : Int32)))] [] pd_5 rfl rfl rfl rfl 0 (Nat.le_refl _) (by decide) (by decide) (by decide) (by decide) rfl fun T4 h4 X4 q4 => ?_
  have E4 := q4.exa
  exact w_return X4 d4_26 q4 (by decide) (by decide)
theorem d10_0 : decode method_3_code 0 = .ok (.aload_n 0, 1) := by decide +kernel
theorem d10_1 : decode method_3_code 1 = .ok (.iload_n 1, 1) := by decide +kernel
theorem d10_2 : decode method_3_code 2 = .ok (.iaload, 1) := by decide +kernel
theorem d10_3 : decode method_3_code 3 = .ok (.iload_n 2, 1) := by decide +kernel
theorem d10_4 : decode method_3_code 4 = .ok (.if_icmp .ne 40, 3) := by decide +kernel
theorem d10_7 : decode method_3_code 7 = .ok (.aload_n 0, 1) := by decide +kernel
theorem d10_8 : decode method_3_code 8 = .ok (.iload_n 1, 1) := by decide +kernel
theorem d10_9 : decode method_3_code 9 = .ok (.iconst 1, 1) := by decide +kernel
theorem d10_10 : decode method_3_code 10 = .ok (.iadd, 1) := by decide +kernel
theorem d10_11 : decode method_3_code 11 = .ok (.iaload, 1) := by decide +kernel
theorem d10_12 : decode method_3_code 12 = .ok (.iload_n 2, 1) := by decide +kernel
theorem d10_13 : decode method_3_code 13 = .ok (.iconst 1, 1) := by decide +kernel
theorem d10_14 : decode method_3_code 14 = .ok (.iadd, 1) := by decide +kernel
theorem d10_15 : decode method_3_code 15 = .ok (.if_icmp .ne 29, 3) := by decide +kernel
theorem d10_18 : decode method_3_code 18 = .ok (.aload_n 0, 1) := by decide +kernel
theorem d10_19 : decode method_3_code 19 = .ok (.iload_n 1, 1) := by decide +kernel
theorem d10_20 : decode method_3_code 20 = .ok (.iconst 2, 1) := by decide +kernel
theorem d10_21 : decode method_3_code 21 = .ok (.iadd, 1) := by decide +kernel
theorem d10_22 : decode method_3_code 22 = .ok (.iaload, 1) := by decide +kernel
theorem d10_23 : decode method_3_code 23 = .ok (.iload_n 2, 1) := by decide +kernel
theorem d10_24 : decode method_3_code 24 = .ok (.iconst 2, 1) := by decide +kernel
theorem d10_25 : decode method_3_code 25 = .ok (.iadd, 1) := by decide +kernel
theorem d10_26 : decode method_3_code 26 = .ok (.if_icmp .ne 18, 3) := by decide +kernel
theorem d10_29 : decode method_3_code 29 = .ok (.aload_n 0, 1) := by decide +kernel
theorem d10_30 : decode method_3_code 30 = .ok (.iload_n 1, 1) := by decide +kernel
theorem d10_31 : decode method_3_code 31 = .ok (.iconst 3, 1) := by decide +kernel
theorem d10_32 : decode method_3_code 32 = .ok (.iadd, 1) := by decide +kernel
theorem d10_33 : decode method_3_code 33 = .ok (.iaload, 1) := by decide +kernel
theorem d10_34 : decode method_3_code 34 = .ok (.iload_n 2, 1) := by decide +kernel
theorem d10_35 : decode method_3_code 35 = .ok (.iconst 3, 1) := by decide +kernel
theorem d10_36 : decode method_3_code 36 = .ok (.iadd, 1) := by decide +kernel
theorem d10_37 : decode method_3_code 37 = .ok (.if_icmp .ne 7, 3) := by decide +kernel
theorem d10_40 : decode method_3_code 40 = .ok (.iconst 1, 1) := by decide +kernel
theorem d10_41 : decode method_3_code 41 = .ok (.goto 4, 3) := by decide +kernel
theorem d10_44 : decode method_3_code 44 = .ok (.iconst 0, 1) := by decide +kernel
theorem d10_45 : decode method_3_code 45 = .ok (.ireturn, 1) := by decide +kernel
theorem pn_10 : plainFor (⟨"com/example/edict4/edict4/regex/IntListAddPinLaw", "has4", "([III)Z"⟩ : MethodName) = true := plainFor_of_name (by first | (simp [plainName, overriddenIn]; done) | decide +kernel)
theorem pd_10 : parseMethodDescriptor "([III)Z" = some ⟨[(.array .int), .int, .int], some .boolean⟩ := by decide +kernel
set_option maxRecDepth 65536 in
set_option maxHeartbeats 40000000 in
theorem rm10 {l : Launch} {Z : State} {a0 : Array Value} (hw : ∀ d ∈ tables_1, d.before a0 Z = true) {n0 : Nat} {h0 : Heap} (Z0 : n0 ≤ h0.size) (a1 : Addr) (p2 p3 : Int32) {n : Nat} {f : Nat → Value} (A_1 : Ary Z h0 a1 .int n f) {i : Nat} (h0i : p2.toInt = (i : Int)) (h1i : (p2 + (1 : Int32)).toInt = ((i + 1 : Nat) : Int)) (h2i : (p2 + (2 : Int32)).toInt = ((i + 2 : Nat) : Int)) (h3i : (p2 + (3 : Int32)).toInt = ((i + 3 : Nat) : Int)) (hin : i + 3 < n) (f0 : f i = .int p3) (f1 : f (i + 1) = .int (p3 + (1 : Int32))) (f2 : f (i + 2) = .int (p3 + (2 : Int32))) (f3 : f (i + 3) = .int (p3 + (3 : Int32))) :
    Con l Z n0 (⟨"com/example/edict4/edict4/regex/IntListAddPinLaw", "has4", "([III)Z"⟩ : MethodName) method_3_code 3 (some .boolean) ({ frames := 0, cells := 0, slots := 0, locals := 0 } : Room) #[(.ref a1), (.int p2), (.int p3)] h0 (Val (fun v h => v = .int 1 ∧ h0 = h)) := by
  refine con_intro pn_10 Z0 (fr := fun m => mkF m 0 #[.val (.ref a1), .val (.int p2), .val (.int p3)] []) (fun m => by first | (simp [entryFrame, mkF, argsToLocals, Value.category]; done) | rfl) ?_
  intro p e s m below s₁ hs0 X0
  refine w_aloadN X0 (pc' := 1) d10_0 rfl rfl rfl ?_
  refine w_iloadN X0 (pc' := 2) d10_1 rfl rfl ?_
  refine w_iaload X0 (pc' := 3) i (v := (.int p3)) d10_2 A_1 h0i (by omega) f0 rfl ?_
  refine w_iloadN X0 (pc' := 4) d10_3 rfl rfl ?_
  refine w_icmp_ne X0 44 7 d10_4 (by decide) rfl rfl (fun hc4 => by exfalso; exact hc4 rfl) (fun hc4 => ?_)
  refine w_aloadN X0 (pc' := 8) d10_7 rfl rfl rfl ?_
  refine w_iloadN X0 (pc' := 9) d10_8 rfl rfl ?_
  refine w_iconst X0 (pc' := 10) (1 : Int32) d10_9 rfl rfl ?_
  refine w_iadd X0 (pc' := 11) d10_10 rfl ?_
  refine w_iaload X0 (pc' := 12) (i + 1) (v := (.int (p3 + (1 : Int32)))) d10_11 A_1 h1i (by omega) f1 rfl ?_
  refine w_iloadN X0 (pc' := 13) d10_12 rfl rfl ?_
  refine w_iconst X0 (pc' := 14) (1 : Int32) d10_13 rfl rfl ?_
  refine w_iadd X0 (pc' := 15) d10_14 rfl ?_
  refine w_icmp_ne X0 44 18 d10_15 (by decide) rfl rfl (fun hc15 => by exfalso; exact hc15 rfl) (fun hc15 => ?_)
  refine w_aloadN X0 (pc' := 19) d10_18 rfl rfl rfl ?_
  refine w_iloadN X0 (pc' := 20) d10_19 rfl rfl ?_
  refine w_iconst X0 (pc' := 21) (2 : Int32) d10_20 rfl rfl ?_
  refine w_iadd X0 (pc' := 22) d10_21 rfl ?_
  refine w_iaload X0 (pc' := 23) (i + 2) (v := (.int (p3 + (2 : Int32)))) d10_22 A_1 h2i (by omega) f2 rfl ?_
  refine w_iloadN X0 (pc' := 24) d10_23 rfl rfl ?_
  refine w_iconst X0 (pc' := 25) (2 : Int32) d10_24 rfl rfl ?_
  refine w_iadd X0 (pc' := 26) d10_25 rfl ?_
  refine w_icmp_ne X0 44 29 d10_26 (by decide) rfl rfl (fun hc26 => by exfalso; exact hc26 rfl) (fun hc26 => ?_)
  refine w_aloadN X0 (pc' := 30) d10_29 rfl rfl rfl ?_
  refine w_iloadN X0 (pc' := 31) d10_30 rfl rfl ?_
  refine w_iconst X0 (pc' := 32) (3 : Int32) d10_31 rfl rfl ?_
  refine w_iadd X0 (pc' := 33) d10_32 rfl ?_
  refine w_iaload X0 (pc' := 34) (i + 3) (v := (.int (p3 + (3 : Int32)))) d10_33 A_1 h3i (by omega) f3 rfl ?_
  refine w_iloadN X0 (pc' := 35) d10_34 rfl rfl ?_
  refine w_iconst X0 (pc' := 36) (3 : Int32) d10_35 rfl rfl ?_
  refine w_iadd X0 (pc' := 37) d10_36 rfl ?_
  refine w_icmp_ne X0 44 40 d10_37 (by decide) rfl rfl (fun hc37 => by exfalso; exact hc37 rfl) (fun hc37 => ?_)
  refine w_iconst X0 (pc' := 41) (1 : Int32) d10_40 rfl rfl ?_
  refine w_goto X0 (pc' := 45) d10_41 (by decide) rfl ?_
  exact w_zreturn X0 d10_45 ⟨rfl, rfl⟩ (by decide) (by decide)
theorem pn_0 : plainFor (⟨"com/example/edict4/edict4/regex/IntListAddPinLaw", "law", "(IIII)Z"⟩ : MethodName) = true := plainFor_of_name (by first | (simp [plainName, overriddenIn]; done) | decide +kernel)
theorem pd_0 : parseMethodDescriptor "(IIII)Z" = some ⟨[.int, .int, .int, .int], some .boolean⟩ := by decide +kernel
set_option maxRecDepth 65536 in
set_option maxHeartbeats 40000000 in
theorem rm0 {l : Launch} {Z : State} {a0 : Array Value} (hw : ∀ d ∈ tables_1, d.before a0 Z = true) {n0 : Nat} {h0 : Heap} (Z0 : n0 ≤ h0.size) (p1 p2 p3 p4 : Int32)  :
    Con l Z n0 x code maxLocals ret room_1 #[(.int p1), (.int p2), (.int p3), (.int p4)] h0 (Val (fun v _ => v = .int 1)) := by
  refine con_intro pn_0 Z0 (fr := fun m => mkF m 0 #[.val (.int p1), .val (.int p2), .val (.int p3), .val (.int p4), .unset, .unset, .unset] []) (fun m => by first | (simp [entryFrame, mkF, argsToLocals, Value.category, maxLocals]; done) | rfl) ?_
  intro p e s m below s₁ hs0 X0
  refine w_new X0 (pc' := 3) at_0 (hw _ (List.mem_of_getElem? (i := 0) rfl)) (hw _ (List.mem_of_getElem? (i := 1) rfl)) (hw _ (List.mem_of_getElem? (i := 2) rfl)) (by decide) (by decide) rfl fun T1 h1 b1 g1 gn1 X1 E1 A1 D1 => ?_
  have FmValues_1 : Fld Z h1 b1 "com/example/edict4/edict4/regex/IntList" "mValues" "[I" .null := D1 (Or.inl (hw _ (List.mem_of_getElem? (i := 11) rfl))) (ty := (.array .int)) (by decide)
  have FmSize_1 : Fld Z h1 b1 "com/example/edict4/edict4/regex/IntList" "mSize" "I" (.int (0 : Int32)) := D1 (Or.inl (hw _ (List.mem_of_getElem? (i := 18) rfl))) (ty := .int) (by decide)
  refine w_dup X1 (pc' := 4) at_3 rfl rfl ?_
  refine w_specialN X1 (pc' := 7) at_4 (rm1 hw (h0 := h1) (sd_size X1) b1 A1 FmValues_1 FmSize_1 gn1) (hw _ (List.mem_of_getElem? (i := 3) rfl)) (hw _ (List.mem_of_getElem? (i := 4) rfl)) (hw _ (List.mem_of_getElem? (i := 2) rfl)) (hw _ (List.mem_of_getElem? (i := 5) rfl)) rfl (by decide) [] [(.ref b1)] pd_1 rfl rfl rfl rfl 1 (Nat.le_refl _) (by decide) (by decide) (by decide) (by decide) rfl fun T3 h3 X3 q3 => ?_
  have E3 := q3.exa
  refine w_astore X3 (pc' := 9) (l' := #[.val (.int p1), .val (.int p2), .val (.int p3), .val (.int p4), .val (.ref b1), .unset, .unset]) at_7 rfl rfl rfl ?_
  refine w_aload X3 (pc' := 11) at_9 rfl rfl rfl ?_
  refine w_virtualV X3 (pc' := 14) at_11 (rm3 hw (h0 := h3) (sd_size X3) b1 q3) (hw _ (List.mem_of_getElem? (i := 12) rfl)) (hw _ (List.mem_of_getElem? (i := 13) rfl)) (hw _ (List.mem_of_getElem? (i := 15) rfl)) (hw _ (List.mem_of_getElem? (i := 14) rfl)) (hw _ (List.mem_of_getElem? (i := 2) rfl)) (hw _ (List.mem_of_getElem? (i := 16) rfl)) E3 (by decide) [] [] pd_3 rfl rfl rfl rfl 0 (Nat.le_refl _) (by decide) (by decide) (by decide) (by decide) rfl fun T4 h4 v4 X4 q4 => ?_
  obtain ⟨rfl, rfl⟩ := q4
  refine w_if_ne X4 21 17 at_14 (by decide) rfl rfl (fun hc14 => by exfalso; exact hc14 (by decide)) (fun hc14 => ?_)
  refine w_iconst X4 (pc' := 18) (1 : Int32) at_17 rfl rfl ?_
  refine w_goto X4 (pc' := 22) at_18 (by decide) rfl ?_
  refine w_istore X4 (pc' := 24) (l' := #[.val (.int p1), .val (.int p2), .val (.int p3), .val (.int p4), .val (.ref b1), .val (.int (1 : Int32)), .unset]) at_22 rfl rfl ?_
  refine w_aload X4 (pc' := 26) at_24 rfl rfl rfl ?_
  refine w_iloadN X4 (pc' := 27) at_26 rfl rfl ?_
  refine w_staticN X4 (pc' := 30) at_27 (rm4 hw (h0 := h3) (sd_size X4) b1 p1 q3 (by decide) gn1) (hw _ (List.mem_of_getElem? (i := 19) rfl)) (hw _ (List.mem_of_getElem? (i := 20) rfl)) (hw _ (List.mem_of_getElem? (i := 21) rfl)) (hw _ (List.mem_of_getElem? (i := 22) rfl)) (by decide) [(.ref b1), (.int p1)] [] pd_4 rfl rfl rfl rfl 0 (Nat.le_refl _) (by decide) (by decide) (by decide) (by decide) rfl fun T5 h5 X5 q5 => ?_
  have E5 := q5.exa
  refine w_iload X5 (pc' := 32) at_30 rfl rfl ?_
  refine w_if_eq X5 70 35 at_32 (by decide) rfl rfl (fun hc32 => by exfalso; revert hc32; decide) (fun hc32 => ?_)
  refine w_aload X5 (pc' := 37) at_35 rfl rfl rfl ?_
  refine w_virtualV X5 (pc' := 40) at_37 (rm3 hw (h0 := h5) (sd_size X5) b1 q5) (hw _ (List.mem_of_getElem? (i := 12) rfl)) (hw _ (List.mem_of_getElem? (i := 13) rfl)) (hw _ (List.mem_of_getElem? (i := 15) rfl)) (hw _ (List.mem_of_getElem? (i := 14) rfl)) (hw _ (List.mem_of_getElem? (i := 2) rfl)) (hw _ (List.mem_of_getElem? (i := 16) rfl)) E5 (by decide) [] [] pd_3 rfl rfl rfl rfl 0 (Nat.le_refl _) (by decide) (by decide) (by decide) (by decide) rfl fun T6 h6 v6 X6 q6 => ?_
  obtain ⟨rfl, rfl⟩ := q6
  refine w_iconst X6 (pc' := 41) (4 : Int32) at_40 rfl rfl ?_
  refine w_icmp_ne X6 70 44 at_41 (by decide) rfl rfl (fun hc41 => by exfalso; exact hc41 (by decide)) (fun hc41 => ?_)
  refine w_aload X6 (pc' := 46) at_44 rfl rfl rfl ?_
  refine w_iconst X6 (pc' := 47) (0 : Int32) at_46 rfl rfl ?_
  refine w_virtualV X6 (pc' := 50) at_47 (rm6 hw (h0 := h5) (sd_size X6) b1 (0 : Int32) q5 (i := 0) (by decide) (by decide) (z := p1) (by simp [upd, own_cp])) (hw _ (List.mem_of_getElem? (i := 28) rfl)) (hw _ (List.mem_of_getElem? (i := 29) rfl)) (hw _ (List.mem_of_getElem? (i := 31) rfl)) (hw _ (List.mem_of_getElem? (i := 30) rfl)) (hw _ (List.mem_of_getElem? (i := 2) rfl)) (hw _ (List.mem_of_getElem? (i := 32) rfl)) E5 (by decide) [(.int (0 : Int32))] [] pd_6 rfl rfl rfl rfl 0 (Nat.le_refl _) (by decide) (by decide) (by decide) (by decide) rfl fun T7 h7 v7 X7 q7 => ?_
  obtain ⟨rfl, rfl⟩ := q7
  refine w_iloadN X7 (pc' := 51) at_50 rfl rfl ?_
  refine w_icmp_ne X7 70 54 at_51 (by decide) rfl rfl (fun hc51 => by exfalso; exact hc51 rfl) (fun hc51 => ?_)
  refine w_aload X7 (pc' := 56) at_54 rfl rfl rfl ?_
  refine w_iconst X7 (pc' := 57) (3 : Int32) at_56 rfl rfl ?_
  refine w_virtualV X7 (pc' := 60) at_57 (rm6 hw (h0 := h5) (sd_size X7) b1 (3 : Int32) q5 (i := 3) (by decide) (by decide) (z := (p1 + (3 : Int32))) (by simp [upd, own_cp])) (hw _ (List.mem_of_getElem? (i := 28) rfl)) (hw _ (List.mem_of_getElem? (i := 29) rfl)) (hw _ (List.mem_of_getElem? (i := 31) rfl)) (hw _ (List.mem_of_getElem? (i := 30) rfl)) (hw _ (List.mem_of_getElem? (i := 2) rfl)) (hw _ (List.mem_of_getElem? (i := 32) rfl)) E5 (by decide) [(.int (3 : Int32))] [] pd_6 rfl rfl rfl rfl 0 (Nat.le_refl _) (by decide) (by decide) (by decide) (by decide) rfl fun T8 h8 v8 X8 q8 => ?_
  obtain ⟨rfl, rfl⟩ := q8
  refine w_iloadN X8 (pc' := 61) at_60 rfl rfl ?_
  refine w_iconst X8 (pc' := 62) (3 : Int32) at_61 rfl rfl ?_
  refine w_iadd X8 (pc' := 63) at_62 rfl ?_
  refine w_icmp_ne X8 70 66 at_63 (by decide) rfl rfl (fun hc63 => by exfalso; exact hc63 rfl) (fun hc63 => ?_)
  refine w_iconst X8 (pc' := 67) (1 : Int32) at_66 rfl rfl ?_
  refine w_goto X8 (pc' := 71) at_67 (by decide) rfl ?_
  refine w_istore X8 (pc' := 73) (l' := #[.val (.int p1), .val (.int p2), .val (.int p3), .val (.int p4), .val (.ref b1), .val (.int (1 : Int32)), .unset]) at_71 rfl rfl ?_
  refine w_aload X8 (pc' := 75) at_73 rfl rfl rfl ?_
  refine w_iloadN X8 (pc' := 76) at_75 rfl rfl ?_
  refine w_staticN X8 (pc' := 79) at_76 (rm4 hw (h0 := h5) (sd_size X8) b1 p2 q5 (by decide) gn1) (hw _ (List.mem_of_getElem? (i := 19) rfl)) (hw _ (List.mem_of_getElem? (i := 20) rfl)) (hw _ (List.mem_of_getElem? (i := 21) rfl)) (hw _ (List.mem_of_getElem? (i := 22) rfl)) (by decide) [(.ref b1), (.int p2)] [] pd_4 rfl rfl rfl rfl 0 (Nat.le_refl _) (by decide) (by decide) (by decide) (by decide) rfl fun T9 h9 X9 q9 => ?_
  have E9 := q9.exa
  refine w_aload X9 (pc' := 81) at_79 rfl rfl rfl ?_
  refine w_iloadN X9 (pc' := 82) at_81 rfl rfl ?_
  refine w_staticN X9 (pc' := 85) at_82 (rm4 hw (h0 := h9) (sd_size X9) b1 p3 q9 (by decide) gn1) (hw _ (List.mem_of_getElem? (i := 19) rfl)) (hw _ (List.mem_of_getElem? (i := 20) rfl)) (hw _ (List.mem_of_getElem? (i := 21) rfl)) (hw _ (List.mem_of_getElem? (i := 22) rfl)) (by decide) [(.ref b1), (.int p3)] [] pd_4 rfl rfl rfl rfl 0 (Nat.le_refl _) (by decide) (by decide) (by decide) (by decide) rfl fun T10 h10 X10 q10 => ?_
  have E10 := q10.exa
  refine w_aload X10 (pc' := 87) at_85 rfl rfl rfl ?_
  refine w_iloadN X10 (pc' := 88) at_87 rfl rfl ?_
  refine w_iconst X10 (pc' := 89) (-1 : Int32) at_88 rfl rfl ?_
  refine w_ixor X10 (pc' := 90) at_89 rfl ?_
  refine w_staticN X10 (pc' := 93) at_90 (rm4 hw (h0 := h10) (sd_size X10) b1 (p1 ^^^ (-1 : Int32)) q10 (by decide) gn1) (hw _ (List.mem_of_getElem? (i := 19) rfl)) (hw _ (List.mem_of_getElem? (i := 20) rfl)) (hw _ (List.mem_of_getElem? (i := 21) rfl)) (hw _ (List.mem_of_getElem? (i := 22) rfl)) (by decide) [(.ref b1), (.int (p1 ^^^ (-1 : Int32)))] [] pd_4 rfl rfl rfl rfl 0 (Nat.le_refl _) (by decide) (by decide) (by decide) (by decide) rfl fun T11 h11 X11 q11 => ?_
  have E11 := q11.exa
  refine w_iload X11 (pc' := 95) at_93 rfl rfl ?_
  refine w_if_eq X11 127 98 at_95 (by decide) rfl rfl (fun hc95 => by exfalso; revert hc95; decide) (fun hc95 => ?_)
  refine w_aload X11 (pc' := 100) at_98 rfl rfl rfl ?_
  refine w_virtualV X11 (pc' := 103) at_100 (rm3 hw (h0 := h11) (sd_size X11) b1 q11) (hw _ (List.mem_of_getElem? (i := 12) rfl)) (hw _ (List.mem_of_getElem? (i := 13) rfl)) (hw _ (List.mem_of_getElem? (i := 15) rfl)) (hw _ (List.mem_of_getElem? (i := 14) rfl)) (hw _ (List.mem_of_getElem? (i := 2) rfl)) (hw _ (List.mem_of_getElem? (i := 16) rfl)) E11 (by decide) [] [] pd_3 rfl rfl rfl rfl 0 (Nat.le_refl _) (by decide) (by decide) (by decide) (by decide) rfl fun T12 h12 v12 X12 q12 => ?_
  obtain ⟨rfl, rfl⟩ := q12
  refine w_bipush X12 (pc' := 105) (16 : Int32) at_103 rfl rfl ?_
  refine w_icmp_ne X12 127 108 at_105 (by decide) rfl rfl (fun hc105 => by exfalso; exact hc105 (by decide)) (fun hc105 => ?_)
  refine w_aload X12 (pc' := 110) at_108 rfl rfl rfl ?_
  refine w_bipush X12 (pc' := 112) (15 : Int32) at_110 rfl rfl ?_
  refine w_virtualV X12 (pc' := 115) at_112 (rm6 hw (h0 := h11) (sd_size X12) b1 (15 : Int32) q11 (i := 15) (by decide) (by decide) (z := ((p1 ^^^ (-1 : Int32)) + (3 : Int32))) (by simp [upd, own_cp])) (hw _ (List.mem_of_getElem? (i := 28) rfl)) (hw _ (List.mem_of_getElem? (i := 29) rfl)) (hw _ (List.mem_of_getElem? (i := 31) rfl)) (hw _ (List.mem_of_getElem? (i := 30) rfl)) (hw _ (List.mem_of_getElem? (i := 2) rfl)) (hw _ (List.mem_of_getElem? (i := 32) rfl)) E11 (by decide) [(.int (15 : Int32))] [] pd_6 rfl rfl rfl rfl 0 (Nat.le_refl _) (by decide) (by decide) (by decide) (by decide) rfl fun T13 h13 v13 X13 q13 => ?_
  obtain ⟨rfl, rfl⟩ := q13
  refine w_iloadN X13 (pc' := 116) at_115 rfl rfl ?_
  refine w_iconst X13 (pc' := 117) (-1 : Int32) at_116 rfl rfl ?_
  refine w_ixor X13 (pc' := 118) at_117 rfl ?_
  refine w_iconst X13 (pc' := 119) (3 : Int32) at_118 rfl rfl ?_
  refine w_iadd X13 (pc' := 120) at_119 rfl ?_
  refine w_icmp_ne X13 127 123 at_120 (by decide) rfl rfl (fun hc120 => by exfalso; exact hc120 rfl) (fun hc120 => ?_)
  refine w_iconst X13 (pc' := 124) (1 : Int32) at_123 rfl rfl ?_
  refine w_goto X13 (pc' := 128) at_124 (by decide) rfl ?_
  refine w_istore X13 (pc' := 130) (l' := #[.val (.int p1), .val (.int p2), .val (.int p3), .val (.int p4), .val (.ref b1), .val (.int (1 : Int32)), .unset]) at_128 rfl rfl ?_
  refine w_aload X13 (pc' := 132) at_130 rfl rfl rfl ?_
  refine w_iloadN X13 (pc' := 133) at_132 rfl rfl ?_
  refine w_virtualN X13 (pc' := 136) at_133 (rm5g hw (h0 := h11) (sd_size X13) b1 p4 q11 gn1) (hw _ (List.mem_of_getElem? (i := 23) rfl)) (hw _ (List.mem_of_getElem? (i := 24) rfl)) (hw _ (List.mem_of_getElem? (i := 26) rfl)) (hw _ (List.mem_of_getElem? (i := 25) rfl)) (hw _ (List.mem_of_getElem? (i := 2) rfl)) (hw _ (List.mem_of_getElem? (i := 27) rfl)) E11 (by decide) [(.int p4)] [] pd_5 rfl rfl rfl rfl 0 (Nat.le_refl _) (by decide) (by decide) (by decide) (by decide) rfl fun T14 h14 X14 q14 => ?_
  have E14 := q14.exa
  refine w_aload X14 (pc' := 138) at_136 rfl rfl rfl ?_
  refine w_virtualV X14 (pc' := 141) at_138 (rm9 hw (h0 := h14) (sd_size X14) b1 q14) (hw _ (List.mem_of_getElem? (i := 45) rfl)) (hw _ (List.mem_of_getElem? (i := 46) rfl)) (hw _ (List.mem_of_getElem? (i := 48) rfl)) (hw _ (List.mem_of_getElem? (i := 47) rfl)) (hw _ (List.mem_of_getElem? (i := 2) rfl)) (hw _ (List.mem_of_getElem? (i := 49) rfl)) E14 (by decide) [] [] pd_9 rfl rfl rfl rfl 0 (Nat.le_refl _) (by decide) (by decide) (by decide) (by decide) rfl fun T15 h15 v15 X15 q15 => ?_
  obtain ⟨b15, rfl, g15, gn15, K15, A15⟩ := q15
  have q15 := q14.keep0 K15
  have E15 := q15.exa
  refine w_astore X15 (pc' := 143) (l' := #[.val (.int p1), .val (.int p2), .val (.int p3), .val (.int p4), .val (.ref b1), .val (.int (1 : Int32)), .val (.ref b15)]) at_141 rfl rfl rfl ?_
  refine w_iload X15 (pc' := 145) at_143 rfl rfl ?_
  refine w_if_eq X15 234 148 at_145 (by decide) rfl rfl (fun hc145 => by exfalso; revert hc145; decide) (fun hc145 => ?_)
  refine w_aload X15 (pc' := 150) at_148 rfl rfl rfl ?_
  refine w_virtualV X15 (pc' := 153) at_150 (rm3 hw (h0 := h15) (sd_size X15) b1 q15) (hw _ (List.mem_of_getElem? (i := 12) rfl)) (hw _ (List.mem_of_getElem? (i := 13) rfl)) (hw _ (List.mem_of_getElem? (i := 15) rfl)) (hw _ (List.mem_of_getElem? (i := 14) rfl)) (hw _ (List.mem_of_getElem? (i := 2) rfl)) (hw _ (List.mem_of_getElem? (i := 16) rfl)) E15 (by decide) [] [] pd_3 rfl rfl rfl rfl 0 (Nat.le_refl _) (by decide) (by decide) (by decide) (by decide) rfl fun T16 h16 v16 X16 q16 => ?_
  obtain ⟨rfl, rfl⟩ := q16
  refine w_bipush X16 (pc' := 155) (17 : Int32) at_153 rfl rfl ?_
  refine w_icmp_ne X16 234 158 at_155 (by decide) rfl rfl (fun hc155 => by exfalso; exact hc155 (by decide)) (fun hc155 => ?_)
  refine w_aload X16 (pc' := 160) at_158 rfl rfl rfl ?_
  refine w_arraylength X16 (pc' := 161) (17 : Int32) at_160 A15 (by decide) rfl ?_
  refine w_bipush X16 (pc' := 163) (17 : Int32) at_161 rfl rfl ?_
  refine w_icmp_ne X16 234 166 at_163 (by decide) rfl rfl (fun hc163 => by exfalso; revert hc163; decide) (fun hc163 => ?_)
  refine w_aload X16 (pc' := 168) at_166 rfl rfl rfl ?_
  refine w_iconst X16 (pc' := 169) (0 : Int32) at_168 rfl rfl ?_
  refine w_iloadN X16 (pc' := 170) at_169 rfl rfl ?_
  refine w_staticV X16 (pc' := 173) at_170 (rm10 hw (h0 := h15) (sd_size X16) b15 (0 : Int32) p1 A15 (i := 0) (by decide) (by decide) (by decide) (by decide) (by decide) (by simp [upd, own_cp]) (by simp [upd, own_cp]) (by simp [upd, own_cp]) (by simp [upd, own_cp])) (hw _ (List.mem_of_getElem? (i := 50) rfl)) (hw _ (List.mem_of_getElem? (i := 51) rfl)) (hw _ (List.mem_of_getElem? (i := 21) rfl)) (hw _ (List.mem_of_getElem? (i := 52) rfl)) (by decide) [(.ref b15), (.int (0 : Int32)), (.int p1)] [] pd_10 rfl rfl rfl rfl 0 (Nat.le_refl _) (by decide) (by decide) (by decide) (by decide) rfl fun T17 h17 v17 X17 q17 => ?_
  obtain ⟨rfl, rfl⟩ := q17
  refine w_if_eq X17 234 176 at_173 (by decide) rfl rfl (fun hc173 => by exfalso; revert hc173; decide) (fun hc173 => ?_)
  refine w_aload X17 (pc' := 178) at_176 rfl rfl rfl ?_
  refine w_iconst X17 (pc' := 179) (4 : Int32) at_178 rfl rfl ?_
  refine w_iloadN X17 (pc' := 180) at_179 rfl rfl ?_
  refine w_staticV X17 (pc' := 183) at_180 (rm10 hw (h0 := h15) (sd_size X17) b15 (4 : Int32) p2 A15 (i := 4) (by decide) (by decide) (by decide) (by decide) (by decide) (by simp [upd, own_cp]) (by simp [upd, own_cp]) (by simp [upd, own_cp]) (by simp [upd, own_cp])) (hw _ (List.mem_of_getElem? (i := 50) rfl)) (hw _ (List.mem_of_getElem? (i := 51) rfl)) (hw _ (List.mem_of_getElem? (i := 21) rfl)) (hw _ (List.mem_of_getElem? (i := 52) rfl)) (by decide) [(.ref b15), (.int (4 : Int32)), (.int p2)] [] pd_10 rfl rfl rfl rfl 0 (Nat.le_refl _) (by decide) (by decide) (by decide) (by decide) rfl fun T18 h18 v18 X18 q18 => ?_
  obtain ⟨rfl, rfl⟩ := q18
  refine w_if_eq X18 234 186 at_183 (by decide) rfl rfl (fun hc183 => by exfalso; revert hc183; decide) (fun hc183 => ?_)
  refine w_aload X18 (pc' := 188) at_186 rfl rfl rfl ?_
  refine w_bipush X18 (pc' := 190) (8 : Int32) at_188 rfl rfl ?_
  refine w_iloadN X18 (pc' := 191) at_190 rfl rfl ?_
  refine w_staticV X18 (pc' := 194) at_191 (rm10 hw (h0 := h15) (sd_size X18) b15 (8 : Int32) p3 A15 (i := 8) (by decide) (by decide) (by decide) (by decide) (by decide) (by simp [upd, own_cp]) (by simp [upd, own_cp]) (by simp [upd, own_cp]) (by simp [upd, own_cp])) (hw _ (List.mem_of_getElem? (i := 50) rfl)) (hw _ (List.mem_of_getElem? (i := 51) rfl)) (hw _ (List.mem_of_getElem? (i := 21) rfl)) (hw _ (List.mem_of_getElem? (i := 52) rfl)) (by decide) [(.ref b15), (.int (8 : Int32)), (.int p3)] [] pd_10 rfl rfl rfl rfl 0 (Nat.le_refl _) (by decide) (by decide) (by decide) (by decide) rfl fun T19 h19 v19 X19 q19 => ?_
  obtain ⟨rfl, rfl⟩ := q19
  refine w_if_eq X19 234 197 at_194 (by decide) rfl rfl (fun hc194 => by exfalso; revert hc194; decide) (fun hc194 => ?_)
  refine w_aload X19 (pc' := 199) at_197 rfl rfl rfl ?_
  refine w_bipush X19 (pc' := 201) (12 : Int32) at_199 rfl rfl ?_
  refine w_iloadN X19 (pc' := 202) at_201 rfl rfl ?_
  refine w_iconst X19 (pc' := 203) (-1 : Int32) at_202 rfl rfl ?_
  refine w_ixor X19 (pc' := 204) at_203 rfl ?_
  refine w_staticV X19 (pc' := 207) at_204 (rm10 hw (h0 := h15) (sd_size X19) b15 (12 : Int32) (p1 ^^^ (-1 : Int32)) A15 (i := 12) (by decide) (by decide) (by decide) (by decide) (by decide) (by simp [upd, own_cp]) (by simp [upd, own_cp]) (by simp [upd, own_cp]) (by simp [upd, own_cp])) (hw _ (List.mem_of_getElem? (i := 50) rfl)) (hw _ (List.mem_of_getElem? (i := 51) rfl)) (hw _ (List.mem_of_getElem? (i := 21) rfl)) (hw _ (List.mem_of_getElem? (i := 52) rfl)) (by decide) [(.ref b15), (.int (12 : Int32)), (.int (p1 ^^^ (-1 : Int32)))] [] pd_10 rfl rfl rfl rfl 0 (Nat.le_refl _) (by decide) (by decide) (by decide) (by decide) rfl fun T20 h20 v20 X20 q20 => ?_
  obtain ⟨rfl, rfl⟩ := q20
  refine w_if_eq X20 234 210 at_207 (by decide) rfl rfl (fun hc207 => by exfalso; revert hc207; decide) (fun hc207 => ?_)
  refine w_aload X20 (pc' := 212) at_210 rfl rfl rfl ?_
  refine w_bipush X20 (pc' := 214) (16 : Int32) at_212 rfl rfl ?_
  refine w_iaload X20 (pc' := 215) 16 (v := (.int p4)) at_214 A15 (by decide) (by decide) (by simp [upd, own_cp]) rfl ?_
  refine w_iloadN X20 (pc' := 216) at_215 rfl rfl ?_
  refine w_icmp_ne X20 234 219 at_216 (by decide) rfl rfl (fun hc216 => by exfalso; exact hc216 rfl) (fun hc216 => ?_)
  refine w_aload X20 (pc' := 221) at_219 rfl rfl rfl ?_
  refine w_bipush X20 (pc' := 223) (16 : Int32) at_221 rfl rfl ?_
  refine w_virtualV X20 (pc' := 226) at_223 (rm6 hw (h0 := h15) (sd_size X20) b1 (16 : Int32) q15 (i := 16) (by decide) (by decide) (z := p4) (by simp [upd, own_cp])) (hw _ (List.mem_of_getElem? (i := 28) rfl)) (hw _ (List.mem_of_getElem? (i := 29) rfl)) (hw _ (List.mem_of_getElem? (i := 31) rfl)) (hw _ (List.mem_of_getElem? (i := 30) rfl)) (hw _ (List.mem_of_getElem? (i := 2) rfl)) (hw _ (List.mem_of_getElem? (i := 32) rfl)) E15 (by decide) [(.int (16 : Int32))] [] pd_6 rfl rfl rfl rfl 0 (Nat.le_refl _) (by decide) (by decide) (by decide) (by decide) rfl fun T21 h21 v21 X21 q21 => ?_
  obtain ⟨rfl, rfl⟩ := q21
  refine w_iloadN X21 (pc' := 227) at_226 rfl rfl ?_
  refine w_icmp_ne X21 234 230 at_227 (by decide) rfl rfl (fun hc227 => by exfalso; exact hc227 rfl) (fun hc227 => ?_)
  refine w_iconst X21 (pc' := 231) (1 : Int32) at_230 rfl rfl ?_
  refine w_goto X21 (pc' := 235) at_231 (by decide) rfl ?_
  exact w_zreturn X21 at_235 rfl (by decide) (by decide)
set_option maxRecDepth 65536 in
set_option maxHeartbeats 40000000 in
theorem comes_1 {Post : Tables → Env → Array Value → State → Outcome → State → Prop} (hpost : ∀ tb e args s v u, (limb_1_1.after args s (.returned v) u = true ∧ limb_1_2.after args s (.returned v) u = true ∧ True) → FrameEnd s (.returned v) u (Jvm.fieldLocs frame_1_writes args s ++ Jvm.arrayLocs frame_1_arrays args s ++ Jvm.staticLocs frame_1_statics s) 16 256 → Post tb e args s (.returned v) u) :
    ArmFor flags0 classFile x code maxLocals ret World_1 tables_1 room_1 Calls_1 rest_1 Pre_1 Post := by
  intro l hfl _ _ p e ha hc hk s m args below hf hA hF happ hP
  obtain ⟨hcalls, hrest, hpre⟩ := hP
  obtain ⟨-, -, -, hnamed, -, -, -, hat⟩ := (Spec.applies_iff hf).mp happ
  obtain ⟨hg, hn⟩ := and_e (Cond.before_iff.mp (show (Jvm.Cond.and given_1 narrow_1).before args s = true from hpre))
  obtain ⟨hcount, k0⟩ := and_e hg
  obtain ⟨ka0, k1⟩ := and_e k0
  obtain ⟨ka1, k2⟩ := and_e k1
  obtain ⟨ka2, k3⟩ := and_e k2
  obtain ⟨w0, w1, w2, w3, rfl⟩ : ∃ w0 w1 w2 w3 : Value, args = #[w0, w1, w2, w3] := by
    have hs : args.size = 4 := by simpa [Cond.value, given_1] using hcount
    obtain ⟨L⟩ := args
    match L, hs with
    | [w0, w1, w2, w3], _ => exact ⟨w0, w1, w2, w3, rfl⟩
  have hw := fun d (hd : d ∈ tables_1) => atoms_spec (ws := Jvm.Cond.code x code maxLocals ret :: tables_1) hat d (List.mem_cons_of_mem _ hd)
  have hfit : Fit s := fun {y c} hc i hi => by
    obtain ⟨ha, rfl⟩ := Array.getElem?_eq_some_iff.mp hc
    have q := List.all_eq_true.mp ((Array.all_eq_true_iff_forall_mem.mp hF) _ (Array.getElem_mem ha)) i (List.mem_range.mpr hi)
    simpa [Array.getElem?_eq_getElem hi] using q
  obtain ⟨i0, ei0⟩ := is_v ka0
  obtain rfl : w0 = (.int i0) := Option.some.inj ei0
  obtain ⟨i1, ei1⟩ := is_v ka1
  obtain rfl : w1 = (.int i1) := Option.some.inj ei1
  obtain ⟨i2, ei2⟩ := is_v ka2
  obtain rfl : w2 = (.int i2) := Option.some.inj ei2
  obtain ⟨i3, ei3⟩ := is_v k3
  obtain rfl : w3 = (.int i3) := Option.some.inj ei3
  obtain ⟨n, o, h1, h2, h3, _, L, rfl, ⟨N, _, rfl, rfl⟩, hq⟩ := rm0 (l := l) hw (Nat.le_refl s.heap.size) i0 i1 i2 i3  tables_1 p e ha hc hk s m _ below hf ((Spec.applies_iff_loose hf).mp happ).1 ⟨rfl, State.Warmed39.refl s, rfl⟩ trivial
  exact ⟨n, _, h1, h2, h3, hpost _ _ _ _ _ _ ⟨Cond.after_iff.mpr rfl, Cond.after_iff.mpr (eq_i res_at (Term.int_eval (1)) rfl), trivial⟩ ⟨hq.1, hq.2.1, (hq.2.2.sift fun y hy => Or.inr (N y hy)).mono (by decide) (by decide)⟩⟩
theorem main_1_1 : Claimed_1_1 := comes_1 fun _ _ _ _ _ _ h hF => ⟨h.1, hF⟩
theorem main_1_2 : Claimed_1_2 := comes_1 fun _ _ _ _ _ _ h hF => ⟨h.2.1, hF⟩
end Jvm.Pilot.@@N@@
namespace Jvm.Pilot.@@N@@
open Jvm Jvm.ClassFile Sem Op Lib Jvm.Free Jvm.Stand Jvm.Pilot.@@N@@.Jvm.D
/-! MADE BY PROGRAM (witnessworld.py) out of the Statement's table words and the real class files: 12 classes; the members and pool entries that the words name. The judged class is class 1, her method 3. -/
namespace start1
open Jvm.ClassFile
def u (s : String) : CpInfo := .utf8 (stringToUtf16 s)
/-- a pool by its gaps: so many unusable entries, then the entry; so many at the end -/
def gap : Nat → List CpInfo → List CpInfo
  | 0, r => r
  | n + 1, r => .unusable :: gap n r
def poolList (es : List (Nat × CpInfo)) (last : Nat) : List CpInfo := es.foldr (fun e r => gap e.1 (e.2 :: r)) (gap last [])
def pool (es : List (Nat × CpInfo)) (last : Nat) : Array CpInfo := ⟨poolList es last⟩
def fileOf (pool : Array CpInfo) (this : Nat) (attrs : Array Attribute := #[]) (ms : Array MethodInfo := #[]) (fl : Nat := 33) (sup : Nat := 0) (ifs : Array Nat := #[]) (fds : Array FieldInfo := #[]) : ClassFile where
  minorVersion := 0
  majorVersion := 65
  constantPool := pool
  accessFlags := fl
  thisClass := this
  superClass := sup
  interfaces := ifs
  fields := fds
  methods := ms
  attributes := attrs
def plain (name : String) (sup : Option ClassId) : Class where
  name := name
  kind := .ordinary
  loader := none
  accessFlags := 33
  super := sup
  interfaces := #[]
  cf := none
  fields := #[]
  methods := #[]
  instanceTypes := #[]
  staticTypes := #[]
  resolved := #[]
  callSites := []
  init := .initialized
  statics := none
  mirror := none

def pool0 : Array CpInfo := pool [(5, u "<init>"), (0, u "()V"), (1, .class_ 10), (1, u "java/lang/Object")] 113

def k0c0 : Code := { maxStack := 0, maxLocals := 1, code := object_method_1_code, exceptionTable := #[], attributes := #[] }
def k0m0 : Method := { name := "<init>", desc := "()V", sig := { parameters := [], returnType := none }, accessFlags := 1, code := some k0c0 }
/-- java/lang/Object -/
def k0 : Class := { plain "java/lang/Object" none with
  accessFlags := 33
  interfaces := #[]
  cf := some (fileOf pool0 8 #[] #[{ accessFlags := 1, nameIndex := 5, descriptorIndex := 6, attributes := #[] }] 33 0 #[] #[])
  fields := #[]
  methods := #[k0m0]
  instanceTypes := #[]
  staticTypes := #[]
  resolved := Array.replicate 124 none
  statics := none }

def pool1 : Array CpInfo := pool [(2, .class_ 4), (0, .nameAndType 5 6), (0, u "java/lang/Object"), (0, u "<init>"), (0, u "()V"), (0, .methodref 8 9), (0, .class_ 10), (0, .nameAndType 11 12), (0, u "com/example/edict4/edict4/regex/IntList"), (0, u "add"), (0, u "(I)V"), (0, .methodref 8 3), (0, .methodref 8 15), (0, .nameAndType 16 17), (0, u "size"), (0, u "()I"), (0, .methodref 19 20), (0, .class_ 21), (0, .nameAndType 22 23), (0, u "com/example/edict4/edict4/regex/IntListAddPinLaw"), (0, u "add4"), (0, u "(Lcom/example/edict4/edict4/regex/IntList;I)V"), (0, .methodref 8 25), (0, .nameAndType 26 27), (0, u "get"), (0, u "(I)I"), (0, .methodref 8 29), (0, .nameAndType 30 31), (0, u "toArray"), (0, u "()[I"), (0, .methodref 19 33), (0, .nameAndType 34 35), (0, u "has4"), (0, u "([III)Z"), (3, u "law"), (0, u "(IIII)Z")] 4

def k1m0 : Method := { name := "<init>", desc := "()V", sig := { parameters := [], returnType := none }, accessFlags := 1, code := none }
def k1c1 : Code := { maxStack := 3, maxLocals := 2, code := method_2_code, exceptionTable := #[], attributes := #[] }
def k1m1 : Method := { name := "add4", desc := "(Lcom/example/edict4/edict4/regex/IntList;I)V", sig := { parameters := [(.object "com/example/edict4/edict4/regex/IntList"), .int], returnType := none }, accessFlags := 10, code := some k1c1 }
def k1c2 : Code := { maxStack := 3, maxLocals := 3, code := method_3_code, exceptionTable := #[], attributes := #[] }
def k1m2 : Method := { name := "has4", desc := "([III)Z", sig := { parameters := [(.array .int), .int, .int], returnType := some .boolean }, accessFlags := 10, code := some k1c2 }
def k1c3 : Code := { maxStack := 4, maxLocals := 7, code := code, exceptionTable := #[], attributes := #[] }
def k1m3 : Method := { name := "law", desc := "(IIII)Z", sig := { parameters := [.int, .int, .int, .int], returnType := some .boolean }, accessFlags := 9, code := some k1c3 }
/-- com/example/edict4/edict4/regex/IntListAddPinLaw -/
def k1 : Class := { plain "com/example/edict4/edict4/regex/IntListAddPinLaw" (some 0) with
  accessFlags := 49
  interfaces := #[]
  cf := some (fileOf pool1 19 #[] #[{ accessFlags := 1, nameIndex := 5, descriptorIndex := 6, attributes := #[] }, { accessFlags := 10, nameIndex := 22, descriptorIndex := 23, attributes := #[] }, { accessFlags := 10, nameIndex := 34, descriptorIndex := 35, attributes := #[] }, { accessFlags := 9, nameIndex := 39, descriptorIndex := 40, attributes := #[] }] 49 2 #[] #[])
  fields := #[]
  methods := #[k1m0, k1m1, k1m2, k1m3]
  instanceTypes := #[]
  staticTypes := #[]
  resolved := Array.replicate 45 none
  statics := none }

def pool2 : Array CpInfo := pool [(1, .methodref 2 3), (0, .class_ 4), (0, .nameAndType 5 6), (0, u "java/lang/Object"), (0, u "<init>"), (0, u "()V"), (0, .fieldref 8 9), (0, .class_ 10), (0, .nameAndType 11 12), (0, u "com/example/edict4/edict4/regex/IntList"), (0, u "mValues"), (0, u "[I"), (0, .fieldref 8 14), (0, .nameAndType 15 16), (0, u "mSize"), (0, u "I"), (0, .methodref 18 19), (0, .class_ 20), (0, .nameAndType 21 22), (0, u "java/util/Arrays"), (0, u "copyOf"), (0, u "([II)[I"), (2, u "add"), (0, u "(I)V"), (2, u "size"), (0, u "()I"), (0, u "get"), (0, u "(I)I"), (5, u "toArray"), (0, u "()[I")] 2

def k2c0 : Code := { maxStack := 2, maxLocals := 1, code := prog_46_method_1_code, exceptionTable := #[], attributes := #[] }
def k2m0 : Method := { name := "<init>", desc := "()V", sig := { parameters := [], returnType := none }, accessFlags := 0, code := some k2c0 }
def k2c1 : Code := { maxStack := 1, maxLocals := 1, code := prog_46_method_2_code, exceptionTable := #[], attributes := #[] }
def k2m1 : Method := { name := "size", desc := "()I", sig := { parameters := [], returnType := some .int }, accessFlags := 0, code := some k2c1 }
def k2c2 : Code := { maxStack := 2, maxLocals := 2, code := prog_46_method_3_code, exceptionTable := #[], attributes := #[] }
def k2m2 : Method := { name := "get", desc := "(I)I", sig := { parameters := [.int], returnType := some .int }, accessFlags := 0, code := some k2c2 }
def k2c3 : Code := { maxStack := 5, maxLocals := 2, code := prog_46_method_5_code, exceptionTable := #[], attributes := #[] }
def k2m3 : Method := { name := "add", desc := "(I)V", sig := { parameters := [.int], returnType := none }, accessFlags := 0, code := some k2c3 }
def k2c4 : Code := { maxStack := 2, maxLocals := 1, code := prog_46_method_8_code, exceptionTable := #[], attributes := #[] }
def k2m4 : Method := { name := "toArray", desc := "()[I", sig := { parameters := [], returnType := some (.array .int) }, accessFlags := 0, code := some k2c4 }
/-- com/example/edict4/edict4/regex/IntList -/
def k2 : Class := { plain "com/example/edict4/edict4/regex/IntList" (some 0) with
  accessFlags := 48
  interfaces := #[]
  cf := some (fileOf pool2 8 #[] #[{ accessFlags := 0, nameIndex := 5, descriptorIndex := 6, attributes := #[] }, { accessFlags := 0, nameIndex := 29, descriptorIndex := 30, attributes := #[] }, { accessFlags := 0, nameIndex := 31, descriptorIndex := 32, attributes := #[] }, { accessFlags := 0, nameIndex := 25, descriptorIndex := 26, attributes := #[] }, { accessFlags := 0, nameIndex := 38, descriptorIndex := 39, attributes := #[] }] 48 2 #[] #[{ accessFlags := 2, nameIndex := 11, descriptorIndex := 12, attributes := #[] }, { accessFlags := 2, nameIndex := 15, descriptorIndex := 16, attributes := #[] }])
  fields := #[{ name := "mValues", type := (.array .int), accessFlags := 2, slot := 0, constantValue := 0 }, { name := "mSize", type := .int, accessFlags := 2, slot := 1, constantValue := 0 }]
  methods := #[k2m0, k2m1, k2m2, k2m3, k2m4]
  instanceTypes := #[(.array .int), .int]
  staticTypes := #[]
  resolved := Array.replicate 42 none
  statics := none }

def pool3 : Array CpInfo := pool [(2, .class_ 4), (1, u "java/lang/Object"), (0, u "<init>"), (0, u "()V"), (7, .class_ 16), (1, u "java/util/Arrays"), (57, .class_ 76), (1, u "java/util/Arrays$NaturalOrder"), (36, .class_ 115), (1, u "java/util/Arrays$LegacyMergeSort"), (1, u "Z"), (32, .methodref 151 152), (0, .class_ 153), (0, .nameAndType 154 155), (0, u "java/lang/System"), (0, u "arraycopy"), (0, u "(Ljava/lang/Object;ILjava/lang/Object;II)V"), (146, u "copyOf"), (1, .methodref 305 306), (0, .class_ 307), (0, .nameAndType 308 309), (0, u "java/lang/Math"), (0, u "min"), (0, u "(II)I"), (65, .class_ 376), (0, u "java/util/Arrays$ArrayList"), (68, u "$assertionsDisabled"), (269, u "MIN_ARRAY_SORT_GRAN"), (0, u "I"), (2, u "INSERTIONSORT_THRESHOLD"), (151, u "([II)[I"), (103, .class_ 976), (0, u "java/util/Arrays$ArrayItr")] 52

def k3m0 : Method := { name := "<init>", desc := "()V", sig := { parameters := [], returnType := none }, accessFlags := 2, code := none }
def k3c1 : Code := { maxStack := 6, maxLocals := 3, code := jdk_65_method_123_code, exceptionTable := #[], attributes := #[] }
def k3m1 : Method := { name := "copyOf", desc := "([II)[I", sig := { parameters := [(.array .int), .int], returnType := some (.array .int) }, accessFlags := 9, code := some k3c1 }
/-- java/util/Arrays -/
def k3 : Class := { plain "java/util/Arrays" (some 0) with
  accessFlags := 49
  interfaces := #[]
  cf := some (fileOf pool3 14 #[.nestMembers #[975, 375, 113, 74]] #[{ accessFlags := 2, nameIndex := 5, descriptorIndex := 6, attributes := #[] }, { accessFlags := 9, nameIndex := 302, descriptorIndex := 871, attributes := #[] }] 49 2 #[] #[{ accessFlags := 26, nameIndex := 715, descriptorIndex := 716, attributes := #[] }, { accessFlags := 26, nameIndex := 719, descriptorIndex := 716, attributes := #[] }, { accessFlags := 4120, nameIndex := 445, descriptorIndex := 117, attributes := #[] }])
  fields := #[{ name := "MIN_ARRAY_SORT_GRAN", type := .int, accessFlags := 26, slot := 0, constantValue := 0 }, { name := "INSERTIONSORT_THRESHOLD", type := .int, accessFlags := 26, slot := 1, constantValue := 0 }, { name := "$assertionsDisabled", type := .boolean, accessFlags := 4120, slot := 2, constantValue := 0 }]
  methods := #[k3m0, k3m1]
  instanceTypes := #[]
  staticTypes := #[.int, .int, .boolean]
  resolved := Array.replicate 1029 none
  statics := none }

def pool4 : Array CpInfo := pool [(1, .class_ 2), (0, u "java/lang/Math"), (1, .class_ 6), (1, u "java/lang/Object"), (0, u "<init>"), (0, u "()V"), (89, .class_ 100), (1, u "java/lang/Math$RandomNumberGeneratorHolder"), (71, u "negativeZeroFloatBits"), (0, u "J"), (2, u "negativeZeroDoubleBits"), (24, u "min"), (43, u "$assertionsDisabled"), (0, u "Z"), (88, u "(II)I"), (2, u "twoToTheDoubleScaleDown"), (0, u "D"), (4, u "twoToTheDoubleScaleUp"), (9, u "E"), (3, u "PI"), (2, u "TAU"), (2, u "DEGREES_TO_RADIANS"), (0, u "RADIANS_TO_DEGREES")] 94

def k4m0 : Method := { name := "<init>", desc := "()V", sig := { parameters := [], returnType := none }, accessFlags := 2, code := none }
def k4c1 : Code := { maxStack := 2, maxLocals := 2, code := jdk_29_method_69_code, exceptionTable := #[], attributes := #[] }
def k4m1 : Method := { name := "min", desc := "(II)I", sig := { parameters := [.int, .int], returnType := some .int }, accessFlags := 9, code := some k4c1 }
/-- java/lang/Math -/
def k4 : Class := { plain "java/lang/Math" (some 0) with
  accessFlags := 49
  interfaces := #[]
  cf := some (fileOf pool4 1 #[.nestMembers #[98]] #[{ accessFlags := 2, nameIndex := 7, descriptorIndex := 8, attributes := #[] }, { accessFlags := 9, nameIndex := 201, descriptorIndex := 335, attributes := #[] }] 49 4 #[] #[{ accessFlags := 25, nameIndex := 354, descriptorIndex := 339, attributes := #[] }, { accessFlags := 25, nameIndex := 358, descriptorIndex := 339, attributes := #[] }, { accessFlags := 25, nameIndex := 361, descriptorIndex := 339, attributes := #[] }, { accessFlags := 26, nameIndex := 364, descriptorIndex := 339, attributes := #[] }, { accessFlags := 26, nameIndex := 365, descriptorIndex := 339, attributes := #[] }, { accessFlags := 26, nameIndex := 172, descriptorIndex := 173, attributes := #[] }, { accessFlags := 26, nameIndex := 176, descriptorIndex := 173, attributes := #[] }, { accessFlags := 8, nameIndex := 344, descriptorIndex := 339, attributes := #[] }, { accessFlags := 8, nameIndex := 338, descriptorIndex := 339, attributes := #[] }, { accessFlags := 4120, nameIndex := 245, descriptorIndex := 246, attributes := #[] }])
  fields := #[{ name := "E", type := .double, accessFlags := 25, slot := 0, constantValue := 0 }, { name := "PI", type := .double, accessFlags := 25, slot := 1, constantValue := 0 }, { name := "TAU", type := .double, accessFlags := 25, slot := 2, constantValue := 0 }, { name := "DEGREES_TO_RADIANS", type := .double, accessFlags := 26, slot := 3, constantValue := 0 }, { name := "RADIANS_TO_DEGREES", type := .double, accessFlags := 26, slot := 4, constantValue := 0 }, { name := "negativeZeroFloatBits", type := .long, accessFlags := 26, slot := 5, constantValue := 0 }, { name := "negativeZeroDoubleBits", type := .long, accessFlags := 26, slot := 6, constantValue := 0 }, { name := "twoToTheDoubleScaleUp", type := .double, accessFlags := 8, slot := 7, constantValue := 0 }, { name := "twoToTheDoubleScaleDown", type := .double, accessFlags := 8, slot := 8, constantValue := 0 }, { name := "$assertionsDisabled", type := .boolean, accessFlags := 4120, slot := 9, constantValue := 0 }]
  methods := #[k4m0, k4m1]
  instanceTypes := #[]
  staticTypes := #[.double, .double, .double, .double, .double, .long, .long, .double, .double, .boolean]
  resolved := Array.replicate 460 none
  statics := none }

def pool5 : Array CpInfo := pool [(2, .class_ 4), (1, u "java/lang/Object"), (0, u "<init>"), (0, u "()V"), (1, .class_ 10), (1, u "java/lang/System"), (0, u "allowSecurityManager"), (0, u "I"), (16, u "cons"), (0, u "Ljava/io/Console;"), (77, .class_ 110), (1, u "java/lang/System$CallersHolder"), (43, u "initialErrStream"), (0, u "Ljava/io/PrintStream;"), (19, u "security"), (0, u "Ljava/lang/SecurityManager;"), (31, .class_ 209), (0, u "java/lang/System$1"), (7, u "props"), (0, u "Ljava/util/Properties;"), (2, u "lineSeparator"), (0, u "Ljava/lang/String;"), (96, .class_ 321), (1, u "java/lang/System$LoggerFinder"), (5, .class_ 328), (0, u "java/lang/System$Logger"), (67, u "err"), (2, u "out"), (91, u "notSupportedJnuEncoding"), (15, u "in"), (17, u "initialIn"), (0, u "Ljava/io/InputStream;"), (35, u "bootLayer"), (0, u "Ljava/lang/ModuleLayer;"), (99, .class_ 664), (0, u "java/lang/System$2"), (9, u "NEVER"), (2, u "MAYBE"), (49, u "arraycopy"), (0, u "(Ljava/lang/Object;ILjava/lang/Object;II)V"), (72, .class_ 802), (0, u "java/lang/System$Logger$Level")] 31

def k5m0 : Method := { name := "<init>", desc := "()V", sig := { parameters := [], returnType := none }, accessFlags := 2, code := none }
def k5m1 : Method := { name := "arraycopy", desc := "(Ljava/lang/Object;ILjava/lang/Object;II)V", sig := { parameters := [(.object "java/lang/Object"), .int, (.object "java/lang/Object"), .int, .int], returnType := none }, accessFlags := 265, code := none }
/-- java/lang/System -/
def k5 : Class := { plain "java/lang/System" (some 0) with
  accessFlags := 49
  interfaces := #[]
  cf := some (fileOf pool5 8 #[.nestMembers #[319, 327, 801, 108, 663, 208]] #[{ accessFlags := 2, nameIndex := 5, descriptorIndex := 6, attributes := #[] }, { accessFlags := 265, nameIndex := 727, descriptorIndex := 728, attributes := #[] }] 49 2 #[] #[{ accessFlags := 25, nameIndex := 507, descriptorIndex := 526, attributes := #[] }, { accessFlags := 25, nameIndex := 399, descriptorIndex := 155, attributes := #[] }, { accessFlags := 25, nameIndex := 396, descriptorIndex := 155, attributes := #[] }, { accessFlags := 10, nameIndex := 525, descriptorIndex := 526, attributes := #[] }, { accessFlags := 26, nameIndex := 674, descriptorIndex := 12, attributes := #[] }, { accessFlags := 26, nameIndex := 677, descriptorIndex := 12, attributes := #[] }, { accessFlags := 10, nameIndex := 11, descriptorIndex := 12, attributes := #[] }, { accessFlags := 74, nameIndex := 175, descriptorIndex := 176, attributes := #[] }, { accessFlags := 10, nameIndex := 491, descriptorIndex := 222, attributes := #[] }, { accessFlags := 74, nameIndex := 29, descriptorIndex := 30, attributes := #[] }, { accessFlags := 74, nameIndex := 154, descriptorIndex := 155, attributes := #[] }, { accessFlags := 10, nameIndex := 217, descriptorIndex := 218, attributes := #[] }, { accessFlags := 10, nameIndex := 221, descriptorIndex := 222, attributes := #[] }, { accessFlags := 8, nameIndex := 562, descriptorIndex := 563, attributes := #[] }])
  fields := #[{ name := "in", type := (.object "java/io/InputStream"), accessFlags := 25, slot := 0, constantValue := 0 }, { name := "out", type := (.object "java/io/PrintStream"), accessFlags := 25, slot := 1, constantValue := 0 }, { name := "err", type := (.object "java/io/PrintStream"), accessFlags := 25, slot := 2, constantValue := 0 }, { name := "initialIn", type := (.object "java/io/InputStream"), accessFlags := 10, slot := 3, constantValue := 0 }, { name := "NEVER", type := .int, accessFlags := 26, slot := 4, constantValue := 0 }, { name := "MAYBE", type := .int, accessFlags := 26, slot := 5, constantValue := 0 }, { name := "allowSecurityManager", type := .int, accessFlags := 10, slot := 6, constantValue := 0 }, { name := "security", type := (.object "java/lang/SecurityManager"), accessFlags := 74, slot := 7, constantValue := 0 }, { name := "notSupportedJnuEncoding", type := (.object "java/lang/String"), accessFlags := 10, slot := 8, constantValue := 0 }, { name := "cons", type := (.object "java/io/Console"), accessFlags := 74, slot := 9, constantValue := 0 }, { name := "initialErrStream", type := (.object "java/io/PrintStream"), accessFlags := 74, slot := 10, constantValue := 0 }, { name := "props", type := (.object "java/util/Properties"), accessFlags := 10, slot := 11, constantValue := 0 }, { name := "lineSeparator", type := (.object "java/lang/String"), accessFlags := 10, slot := 12, constantValue := 0 }, { name := "bootLayer", type := (.object "java/lang/ModuleLayer"), accessFlags := 8, slot := 13, constantValue := 0 }]
  methods := #[k5m0, k5m1]
  instanceTypes := #[]
  staticTypes := #[(.object "java/io/InputStream"), (.object "java/io/PrintStream"), (.object "java/io/PrintStream"), (.object "java/io/InputStream"), .int, .int, .int, (.object "java/lang/SecurityManager"), (.object "java/lang/String"), (.object "java/io/Console"), (.object "java/io/PrintStream"), (.object "java/util/Properties"), (.object "java/lang/String"), (.object "java/lang/ModuleLayer")]
  resolved := Array.replicate 834 none
  statics := none }

def pool6 : Array CpInfo := pool [(1, u "java/lang/Cloneable"), (0, .class_ 1), (0, u "java/lang/Object"), (0, .class_ 3)] 3

/-- java/lang/Cloneable -/
def k6 : Class := { plain "java/lang/Cloneable" (some 0) with
  accessFlags := 1537
  interfaces := #[]
  cf := some (fileOf pool6 2 #[] #[] 1537 4 #[] #[])
  fields := #[]
  methods := #[]
  instanceTypes := #[]
  staticTypes := #[]
  resolved := Array.replicate 8 none
  statics := none }

def pool7 : Array CpInfo := pool [(1, u "java/io/Serializable"), (0, .class_ 1), (0, u "java/lang/Object"), (0, .class_ 3)] 3

/-- java/io/Serializable -/
def k7 : Class := { plain "java/io/Serializable" (some 0) with
  accessFlags := 1537
  interfaces := #[]
  cf := some (fileOf pool7 2 #[] #[] 1537 4 #[] #[])
  fields := #[]
  methods := #[]
  instanceTypes := #[]
  staticTypes := #[]
  resolved := Array.replicate 8 none
  statics := none }

/-- the primitive byte -/
def k8 : Class := { plain "byte" none with kind := .primitive 'B', accessFlags := 0x411 }
/-- [B -/
def k9 : Class := { plain "[B" (some 0) with kind := .array 8 .byte, interfaces := #[6, 7], accessFlags := 1041 }

/-- the primitive int -/
def k10 : Class := { plain "int" none with kind := .primitive 'I', accessFlags := 0x411 }
/-- [I -/
def k11 : Class := { plain "[I" (some 0) with kind := .array 10 .int, interfaces := #[6, 7], accessFlags := 1041 }

def heap : Heap := #[]
def classes : Array Class := #[k0, k1, k2, k3, k4, k5, k6, k7, k8, k9, k10, k11]
def interned : List (Array UInt16 × Addr) := []
def slotsUsed : Nat := 0
def theMethod : MethodId := ⟨1, 3⟩
def args0 : Array Value := #[.int 5, .int 6, .int 7, .int 8]
def aboutOver (below : List Frame) : State where
  vm := { classes := classes, interned := interned.toArray }
  heap := heap
  slotsUsed := slotsUsed
  threads := #[{ frames := .invoking theMethod args0 :: below }]
def below0 : List Frame := [.native { method := ⟨0, 0⟩, args := #[] }]
def about1 : State := aboutOver below0
def p0 : Program := .bare "" "" ""
def e0 : Env := launch0.env 0 0 0
theorem w_frames : about1.frames = Frame.invoking theMethod args0 :: below0 := rfl
set_option maxRecDepth 65536 in
theorem w_args : argsFit about1.vm theMethod args0 = true := by decide +kernel
set_option maxRecDepth 65536 in
theorem w_heap : heapFits about1 = true := by decide +kernel
set_option maxRecDepth 65536 in
theorem w_runnable : about1.curStatus? = some .runnable := by decide +kernel
set_option maxRecDepth 65536 in
theorem w_alone : about1.alone = true := by decide +kernel
set_option maxRecDepth 65536 in
theorem w_named : about1.methodNamed? x = some theMethod := by decide +kernel
set_option maxRecDepth 65536 in
theorem w_hears : about1.hears theMethod below0 = true := by decide +kernel
set_option maxRecDepth 65536 in
theorem w_ripe : about1.ripe theMethod args0 below0 = true := by decide +kernel
theorem w_running : about1.status = .running := rfl
set_option maxRecDepth 65536 in
theorem w_room : about1.hasRoom e0.platform room_1 = true :=
  launch0.hasRoom_least _ room_1 (by decide +kernel) (by decide +kernel) (by decide +kernel) (by decide +kernel) (by decide +kernel) (by decide +kernel)
theorem allAtoms_all (ts : List Jvm.Cond) (a : Array Jvm.Value) (st : Jvm.State) : (allAtoms ts).before a st = ts.all (fun c => c.before a st) := by
  induction ts with
  | nil => rfl
  | cons c t ih =>
    show (Jvm.Cond.and c (allAtoms t)).before a st = _
    rw [Jvm.Cond.before_and, ih, List.all_cons]
def words1 : List Jvm.Cond := Jvm.Cond.code x code maxLocals ret :: tables_1
/-- a 'code' word, met by the world's own term for the bytes: nothing is compared byte by byte -/
theorem code_word {y : MethodName} {bytes : ByteArray} {mx : Nat} {rt : Option FieldType} {a : Array Value} {s : State} {m : MethodId} {meth : Method} {c : Code} (h1 : s.methodNamed? y = some m) (h2 : s.vm.method? m = some meth) (h3 : meth.code = some c) (h4 : c.code = bytes)
    (h5 : (c.maxLocals == mx && c.exceptionTable.isEmpty && decide (c.maxStack ≤ mostOperands) && decide (meth.sig.returnType = rt) && !meth.locks && decide (parseMethodDescriptor y.desc = some meth.sig)) = true) : (Jvm.Cond.code y bytes mx rt).before a s = true := by
  simp only [Bool.and_eq_true, beq_iff_eq, Bool.not_eq_true', decide_eq_true_eq] at h5
  obtain ⟨⟨⟨⟨⟨g1, g2⟩, g3⟩, g4⟩, g5⟩, g6⟩ := h5
  simp [Cond.before, Cond.holds, Cond.value, h1, h2, h3, h4, g1, g2, g3, g4, g5, g6]
def isCode : Jvm.Cond → Bool
  | .code _ _ _ _ => true
  | _ => false
theorem all_split {L : List Jvm.Cond} {P : Jvm.Cond → Bool} (h1 : L.all (fun c => isCode c || P c) = true) (h2 : ∀ c ∈ L.filter isCode, P c = true) : L.all P = true := by
  refine List.all_eq_true.mpr fun c hc => ?_
  have h := List.all_eq_true.mp h1 c hc
  rcases Bool.eq_false_or_eq_true (isCode c) with hi | hi
  · exact h2 c (List.mem_filter.mpr ⟨hc, hi⟩)
  · simpa [hi] using h
set_option maxRecDepth 65536 in
theorem w_c0 : (Jvm.Cond.code x code maxLocals ret).before args0 about1 = true := code_word (m := ⟨1, 3⟩) (meth := k1m3) (c := k1c3) (by decide +kernel) rfl rfl rfl (by decide +kernel)
set_option maxRecDepth 65536 in
theorem w_c1 : (Jvm.Cond.code ({ cls := "com/example/edict4/edict4/regex/IntList", name := "<init>", desc := "()V" } : Jvm.MethodName) prog_46_method_1_code (1 : Nat) (Option.none : Option Jvm.ClassFile.FieldType)).before args0 about1 = true := code_word (m := ⟨2, 0⟩) (meth := k2m0) (c := k2c0) (by decide +kernel) rfl rfl rfl (by decide +kernel)
set_option maxRecDepth 65536 in
theorem w_c2 : (Jvm.Cond.code ({ cls := "java/lang/Object", name := "<init>", desc := "()V" } : Jvm.MethodName) object_method_1_code (1 : Nat) (Option.none : Option Jvm.ClassFile.FieldType)).before args0 about1 = true := code_word (m := ⟨0, 0⟩) (meth := k0m0) (c := k0c0) (by decide +kernel) rfl rfl rfl (by decide +kernel)
set_option maxRecDepth 65536 in
theorem w_c3 : (Jvm.Cond.code ({ cls := "com/example/edict4/edict4/regex/IntList", name := "size", desc := "()I" } : Jvm.MethodName) prog_46_method_2_code (1 : Nat) (Option.some Jvm.ClassFile.FieldType.int)).before args0 about1 = true := code_word (m := ⟨2, 1⟩) (meth := k2m1) (c := k2c1) (by decide +kernel) rfl rfl rfl (by decide +kernel)
set_option maxRecDepth 65536 in
theorem w_c4 : (Jvm.Cond.code ({ cls := "com/example/edict4/edict4/regex/IntListAddPinLaw", name := "add4", desc := "(Lcom/example/edict4/edict4/regex/IntList;I)V" } : Jvm.MethodName) method_2_code (2 : Nat) (Option.none : Option Jvm.ClassFile.FieldType)).before args0 about1 = true := code_word (m := ⟨1, 1⟩) (meth := k1m1) (c := k1c1) (by decide +kernel) rfl rfl rfl (by decide +kernel)
set_option maxRecDepth 65536 in
theorem w_c5 : (Jvm.Cond.code ({ cls := "com/example/edict4/edict4/regex/IntList", name := "add", desc := "(I)V" } : Jvm.MethodName) prog_46_method_5_code (2 : Nat) (Option.none : Option Jvm.ClassFile.FieldType)).before args0 about1 = true := code_word (m := ⟨2, 3⟩) (meth := k2m3) (c := k2c3) (by decide +kernel) rfl rfl rfl (by decide +kernel)
set_option maxRecDepth 65536 in
theorem w_c6 : (Jvm.Cond.code ({ cls := "com/example/edict4/edict4/regex/IntList", name := "get", desc := "(I)I" } : Jvm.MethodName) prog_46_method_3_code (2 : Nat) (Option.some Jvm.ClassFile.FieldType.int)).before args0 about1 = true := code_word (m := ⟨2, 2⟩) (meth := k2m2) (c := k2c2) (by decide +kernel) rfl rfl rfl (by decide +kernel)
set_option maxRecDepth 65536 in
theorem w_c7 : (Jvm.Cond.code ({ cls := "java/util/Arrays", name := "copyOf", desc := "([II)[I" } : Jvm.MethodName) jdk_65_method_123_code (3 : Nat) (Option.some (Jvm.ClassFile.FieldType.array Jvm.ClassFile.FieldType.int))).before args0 about1 = true := code_word (m := ⟨3, 1⟩) (meth := k3m1) (c := k3c1) (by decide +kernel) rfl rfl rfl (by decide +kernel)
set_option maxRecDepth 65536 in
theorem w_c8 : (Jvm.Cond.code ({ cls := "java/lang/Math", name := "min", desc := "(II)I" } : Jvm.MethodName) jdk_29_method_69_code (2 : Nat) (Option.some Jvm.ClassFile.FieldType.int)).before args0 about1 = true := code_word (m := ⟨4, 1⟩) (meth := k4m1) (c := k4c1) (by decide +kernel) rfl rfl rfl (by decide +kernel)
set_option maxRecDepth 65536 in
theorem w_c9 : (Jvm.Cond.code ({ cls := "com/example/edict4/edict4/regex/IntList", name := "toArray", desc := "()[I" } : Jvm.MethodName) prog_46_method_8_code (1 : Nat) (Option.some (Jvm.ClassFile.FieldType.array Jvm.ClassFile.FieldType.int))).before args0 about1 = true := code_word (m := ⟨2, 4⟩) (meth := k2m4) (c := k2c4) (by decide +kernel) rfl rfl rfl (by decide +kernel)
set_option maxRecDepth 65536 in
theorem w_c10 : (Jvm.Cond.code ({ cls := "com/example/edict4/edict4/regex/IntListAddPinLaw", name := "has4", desc := "([III)Z" } : Jvm.MethodName) method_3_code (3 : Nat) (Option.some Jvm.ClassFile.FieldType.boolean)).before args0 about1 = true := code_word (m := ⟨1, 2⟩) (meth := k1m2) (c := k1c2) (by decide +kernel) rfl rfl rfl (by decide +kernel)
def codes1 : List Jvm.Cond := [Jvm.Cond.code x code maxLocals ret, Jvm.Cond.code ({ cls := "com/example/edict4/edict4/regex/IntList", name := "<init>", desc := "()V" } : Jvm.MethodName) prog_46_method_1_code (1 : Nat) (Option.none : Option Jvm.ClassFile.FieldType), Jvm.Cond.code ({ cls := "java/lang/Object", name := "<init>", desc := "()V" } : Jvm.MethodName) object_method_1_code (1 : Nat) (Option.none : Option Jvm.ClassFile.FieldType), Jvm.Cond.code ({ cls := "com/example/edict4/edict4/regex/IntList", name := "size", desc := "()I" } : Jvm.MethodName) prog_46_method_2_code (1 : Nat) (Option.some Jvm.ClassFile.FieldType.int), Jvm.Cond.code ({ cls := "com/example/edict4/edict4/regex/IntListAddPinLaw", name := "add4", desc := "(Lcom/example/edict4/edict4/regex/IntList;I)V" } : Jvm.MethodName) method_2_code (2 : Nat) (Option.none : Option Jvm.ClassFile.FieldType), Jvm.Cond.code ({ cls := "com/example/edict4/edict4/regex/IntList", name := "add", desc := "(I)V" } : Jvm.MethodName) prog_46_method_5_code (2 : Nat) (Option.none : Option Jvm.ClassFile.FieldType), Jvm.Cond.code ({ cls := "com/example/edict4/edict4/regex/IntList", name := "get", desc := "(I)I" } : Jvm.MethodName) prog_46_method_3_code (2 : Nat) (Option.some Jvm.ClassFile.FieldType.int), Jvm.Cond.code ({ cls := "java/util/Arrays", name := "copyOf", desc := "([II)[I" } : Jvm.MethodName) jdk_65_method_123_code (3 : Nat) (Option.some (Jvm.ClassFile.FieldType.array Jvm.ClassFile.FieldType.int)), Jvm.Cond.code ({ cls := "java/lang/Math", name := "min", desc := "(II)I" } : Jvm.MethodName) jdk_29_method_69_code (2 : Nat) (Option.some Jvm.ClassFile.FieldType.int), Jvm.Cond.code ({ cls := "com/example/edict4/edict4/regex/IntList", name := "toArray", desc := "()[I" } : Jvm.MethodName) prog_46_method_8_code (1 : Nat) (Option.some (Jvm.ClassFile.FieldType.array Jvm.ClassFile.FieldType.int)), Jvm.Cond.code ({ cls := "com/example/edict4/edict4/regex/IntListAddPinLaw", name := "has4", desc := "([III)Z" } : Jvm.MethodName) method_3_code (3 : Nat) (Option.some Jvm.ClassFile.FieldType.boolean)]
set_option maxRecDepth 65536 in
theorem codes_eq : words1.filter isCode = codes1 := rfl
theorem w_codes : ∀ c ∈ words1.filter isCode, c.before args0 about1 = true := by
  rw [codes_eq]
  intro c hc
  simp only [codes1, List.mem_cons, List.not_mem_nil, or_false] at hc
  rcases hc with rfl | rfl | rfl | rfl | rfl | rfl | rfl | rfl | rfl | rfl | rfl
  · exact w_c0
  · exact w_c1
  · exact w_c2
  · exact w_c3
  · exact w_c4
  · exact w_c5
  · exact w_c6
  · exact w_c7
  · exact w_c8
  · exact w_c9
  · exact w_c10
set_option maxRecDepth 65536 in
theorem w_t1 : (words1.take 24).all (fun c => isCode c || c.before args0 about1) = true := by decide +kernel
set_option maxRecDepth 65536 in
theorem w_t2 : ((words1.drop 24).take 24).all (fun c => isCode c || c.before args0 about1) = true := by decide +kernel
set_option maxRecDepth 65536 in
theorem w_t3 : ((words1.drop 24).drop 24).all (fun c => isCode c || c.before args0 about1) = true := by decide +kernel
theorem w_tables : (allAtoms (Jvm.Cond.code x code maxLocals ret :: tables_1)).before args0 about1 = true := by
  rw [allAtoms_all]
  show words1.all (fun c => c.before args0 about1) = true
  refine all_split ?_ w_codes
  rw [← List.take_append_drop 24 words1, List.all_append, w_t1, ← List.take_append_drop 24 (words1.drop 24), List.all_append, w_t2, w_t3]
  rfl
set_option maxRecDepth 65536 in
theorem w_case : (Jvm.Cond.and given_1 narrow_1).before args0 about1 = true := by decide +kernel
theorem w_applies : (headSpec (Jvm.Cond.code x code maxLocals ret :: tables_1) room_1).applies x e0.platform about1 = true :=
  (Spec.applies_iff w_frames).mpr ⟨w_running, w_runnable, w_alone, w_named, w_hears, w_ripe, w_room, w_tables⟩
theorem atStart : AtStart classFile x code maxLocals ret World_1 tables_1 room_1 Calls_1 rest_1 Pre_1 launch0 p0 e0 about1 theMethod args0 below0 :=
  ⟨lists_1, trivial, launch0.admits_env _ _ _, launch0.least_env, fairChoices_fair.cas, fairChoices_fair.clock, w_frames, w_args, w_heap, w_applies, trivial, trivial, w_case⟩
end start1
theorem witness_1 : WitnessClaimed_1 := ⟨start1.p0, start1.e0, start1.about1, start1.theMethod, start1.args0, start1.below0, start1.atStart⟩
end Jvm.Pilot.@@N@@
