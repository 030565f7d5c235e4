import JvmDerived
import JvmDerived.Pilot.@@N@@Statement
import JvmDerived.Pilot.@@N@@Code
set_option linter.unusedVariables false
set_option linter.unusedSimpArgs false
namespace Jvm.Pilot.@@N@@
open Jvm Jvm.ClassFile Sem Op Lib Jvm.Free Jvm.Stand Jvm.LawKit Jvm.RoadKit Bundle Jvm.Pilot.@@N@@.Jvm.D
/-- the run from t comes to a state of G -/
def Go (p : Program) (e : Env) (below : List Frame) (G : State → Prop) (t : State) : Prop := ∃ s₂, Steps p.tables e below t s₂ ∧ G s₂
/-- the end of a body -/
def Done (below : List Frame) (s : State) (n0 : Nat) (Q : Option Value → Heap → Prop) (C N : Nat) (s₂ : State) : Prop := ∃ o, s₂.status = .running ∧ Ended s₂ below o ∧ ∃ v L, o = .returned v ∧ (Fr n0 L ∧ Q v s₂.heap) ∧ FrameEnd s o s₂ L C N
def Val (Q : Value → Heap → Prop) : Option Value → Heap → Prop := fun o h => ∃ v, o = some v ∧ Q v h
def Non (Q : Heap → Prop) : Option Value → Heap → Prop := fun o h => o = none ∧ Q h
theorem go_of {p : Program} {e : Env} {below : List Frame} {G : State → Prop} {t t' : State} (f : ∀ target, Steps p.tables e below t' target → Steps p.tables e below t target) (k : Go p e below G t') : Go p e below G t := by
  obtain ⟨s₂, h, g⟩ := k; exact ⟨s₂, f _ h, g⟩
/-- where a run stands: the heap, fresh writes only, the body's own facts -/
def Sd (l : Launch) (Z : State) (n0 : Nat) (y : MethodName) (bytes : ByteArray) (maxL : Nat) (ret : Option FieldType) (R : Room) (p : Program) (e : Env) (s : State) (m : MethodId) (args : Array Value) (below : List Frame) (T : State) (h : Heap) (cells slots : Nat) : Prop :=
  ∃ meth c locs, Stand p l e R s m args below meth c T locs cells slots ∧ T.heap = h ∧ Fr n0 locs ∧ p.tables.exec = Jvm.exec ∧ c.code = bytes ∧ c.maxLocals = maxL ∧ s.vm.findClass y.cls = some m.cls ∧ meth.name = y.name ∧ meth.sig.returnType = ret ∧ meth.locks = false ∧ Z.Warmed39 s.vm ∧ n0 ≤ s.heap.size
/-- a body's contract -/
def Con (l : Launch) (Z : State) (n0 : Nat) (y : MethodName) (bytes : ByteArray) (maxL : Nat) (ret : Option FieldType) (rm : Room) (as' : Array Value) (h : Heap) (Q : Option Value → Heap → Prop) : Prop :=
  ∀ ws, MetFree l y (head1 (Jvm.Cond.code y bytes maxL ret :: ws) rm) (fun a U => a = as' ∧ Z.Warmed39 U.vm ∧ U.heap = h) (fun _ _ _ _ _ => True) (fun _ U o U' => ∃ v L, o = .returned v ∧ (Fr n0 L ∧ Q v U'.heap) ∧ FrameEnd U o U' L rm.cells rm.slots)
theorem con_intro {l : Launch} {Z : State} {n0 : Nat} {y : MethodName} {bytes : ByteArray} {maxL : Nat} {ret : Option FieldType} {rm : Room} {as' : Array Value} {h : Heap} {Q : Option Value → Heap → Prop} (hp : plainFor y = true) (hn : n0 ≤ h.size) {fr : MethodId → JFrame} (ef : ∀ m, entryFrame m as' maxL = fr m)
    (body : ∀ p e s m below s₁, s.heap = h → Sd l Z n0 y bytes maxL ret rm p e s m as' below s₁ h 0 0 → Go p e below (Done below s n0 Q rm.cells rm.slots) (s₁.setTop (fr m))) : Con l Z n0 y bytes maxL ret rm as' h Q := by
  intro ws
  refine MetFree.of_bodySF hp hisR ?_
  intro p e s m args below meth c s₁ Bd hml0 hP hK
  obtain ⟨rfl, hZ, hh⟩ := hP
  have e0 : s₁.heap = h := by rw [← hh, Bd.state]; rfl
  obtain ⟨s₂, st, o, r1, r2, r3⟩ := body p e s m below s₁ hh ⟨meth, c, [], Stand.of_body Bd, e0, Fr.nil n0, Bd.exec, Bd.bytes, hml0, findClass_of_methodNamed Bd.named, (name_of_methodNamed Bd.named Bd.method).1, Bd.returns, Bd.notSynchronized, hZ, by rw [hh]; exact hn⟩
  exact ⟨s₂, o, castTop (ef m) st, r1, r2, r3⟩
theorem con_mono {l : Launch} {Z : State} {n0 : Nat} {y : MethodName} {bytes : ByteArray} {maxL : Nat} {ret : Option FieldType} {rm : Room} {as' : Array Value} {h : Heap} {Q Q' : Option Value → Heap → Prop} (hq : ∀ v h', Q v h' → Q' v h') (H : Con l Z n0 y bytes maxL ret rm as' h Q) : Con l Z n0 y bytes maxL ret rm as' h Q' := by
  intro ws p e ha hc hk s m args below hf happ hP hK
  obtain ⟨n, o, h1, h2, h3, v, L, h4, h5, h6⟩ := H ws p e ha hc hk s m args below hf happ hP hK
  exact ⟨n, o, h1, h2, h3, v, L, h4, ⟨h5.1, hq _ _ h5.2⟩, h6⟩
section Walk
variable {l : Launch} {Z : State} {n0 : Nat} {y : MethodName} {bytes : ByteArray} {maxL : Nat} {ret : Option FieldType} {R : Room} {p : Program} {e : Env} {s : State} {m : MethodId} {args : Array Value} {below : List Frame} {T : State} {h : Heap} {cells slots : Nat} {G : State → Prop} {a0 : Array Value} {pc pc' : Nat} {Ls : Array Slot} {S : List Value}
theorem sd_more (X : Sd l Z n0 y bytes maxL ret R p e s m args below T h cells slots) {cells' slots' : Nat} (hc : cells ≤ cells') (hs : slots ≤ slots') : Sd l Z n0 y bytes maxL ret R p e s m args below T h cells' slots' := by
  obtain ⟨meth, c, locs, X, r⟩ := X; exact ⟨meth, c, locs, X.more hc hs, r⟩
theorem sd_size (X : Sd l Z n0 y bytes maxL ret R p e s m args below T h cells slots) : n0 ≤ h.size := by
  obtain ⟨meth, c, locs, X, rfl, -, -, -, -, -, -, -, -, -, hn⟩ := X
  exact Nat.le_trans hn X.same.2.1
theorem sd_ext (X : Sd l Z n0 y bytes maxL ret R p e s m args below T h cells slots) {h0 : Heap} (hs : s.heap = h0) (hN : h0.size ≤ n0) : Ext h0 h := by
  obtain ⟨meth, c, locs, X, rfl, N, -⟩ := X
  subst hs
  refine ⟨X.same.2.1, fun a ca ha => ?_⟩
  obtain ⟨c', h1, h2, h3, h4⟩ := X.same.2.2.2.2.2 a ca ha
  have hlt : a < s.heap.size := (Array.getElem?_eq_some_iff.mp ha).1
  have e : c'.slots = ca.slots := by
    apply Array.ext_getElem?
    intro i
    exact h4 i (fun q => Nat.lt_irrefl _ (Nat.lt_of_lt_of_le hlt (Nat.le_trans hN (N _ q))))
  rw [e] at h2
  rw [h2] at h1
  exact h1
theorem w_iloadN (X : Sd l Z n0 y bytes maxL ret R p e s m args below T h cells slots) {k : Fin 4} {v : Int32} (hd : decode bytes pc = .ok (.iload_n k, 1)) (hl : Ls[k.val]? = some (.val (.int v))) (hp : pc' = pc + 1) (K : Go p e below G (T.setTop (mkF m pc' Ls (.int v :: S)))) : Go p e below G (T.setTop (mkF m pc Ls S)) := by
  obtain ⟨meth, c, locs, X, eT, N, hx, hby, hml, hown, hnm, hret, hlk, hZ, hn⟩ := X; subst hp
  exact go_of (fun _ k => XS.iloadN (g := (mkF m pc Ls S)) X.here hx rfl (hb hby hd) hl k) K
theorem w_iload (X : Sd l Z n0 y bytes maxL ret R p e s m args below T h cells slots) {k : Nat} {v : Int32} (hd : decode bytes pc = .ok (.iload k, 2)) (hl : Ls[k]? = some (.val (.int v))) (hp : pc' = pc + 2) (K : Go p e below G (T.setTop (mkF m pc' Ls (.int v :: S)))) : Go p e below G (T.setTop (mkF m pc Ls S)) := by
  obtain ⟨meth, c, locs, X, eT, N, hx, hby, hml, hown, hnm, hret, hlk, hZ, hn⟩ := X; subst hp
  exact go_of (fun _ k => XS.iload (g := (mkF m pc Ls S)) X.here hx rfl (hb hby hd) hl k) K
theorem w_istoreN (X : Sd l Z n0 y bytes maxL ret R p e s m args below T h cells slots) {k : Fin 4} {v : Int32} {l' : Array Slot} (hd : decode bytes pc = .ok (.istore_n k, 1)) (hl : storeLocals Ls k.val (.int v) = some l') (hp : pc' = pc + 1) (K : Go p e below G (T.setTop (mkF m pc' l' S))) : Go p e below G (T.setTop (mkF m pc Ls (.int v :: S))) := by
  obtain ⟨meth, c, locs, X, eT, N, hx, hby, hml, hown, hnm, hret, hlk, hZ, hn⟩ := X; subst hp
  exact go_of (fun _ k => XS.istoreN (g := (mkF m pc Ls (.int v :: S))) X.here hx rfl (hb hby hd) rfl hl k) K
theorem w_istore (X : Sd l Z n0 y bytes maxL ret R p e s m args below T h cells slots) {k : Nat} {v : Int32} {l' : Array Slot} (hd : decode bytes pc = .ok (.istore k, 2)) (hl : storeLocals Ls k (.int v) = some l') (hp : pc' = pc + 2) (K : Go p e below G (T.setTop (mkF m pc' l' S))) : Go p e below G (T.setTop (mkF m pc Ls (.int v :: S))) := by
  obtain ⟨meth, c, locs, X, eT, N, hx, hby, hml, hown, hnm, hret, hlk, hZ, hn⟩ := X; subst hp
  exact go_of (fun _ k => XS.istore (g := (mkF m pc Ls (.int v :: S))) X.here hx rfl (hb hby hd) rfl hl k) K
theorem w_lloadN (X : Sd l Z n0 y bytes maxL ret R p e s m args below T h cells slots) {k : Fin 4} {v : Int64} (hd : decode bytes pc = .ok (.lload_n k, 1)) (hl : Ls[k.val]? = some (.val (.long v))) (hp : pc' = pc + 1) (K : Go p e below G (T.setTop (mkF m pc' Ls (.long v :: S)))) : Go p e below G (T.setTop (mkF m pc Ls S)) := by
  obtain ⟨meth, c, locs, X, eT, N, hx, hby, hml, hown, hnm, hret, hlk, hZ, hn⟩ := X; subst hp
  exact go_of (fun _ k => XS.lloadN (g := (mkF m pc Ls S)) X.here hx rfl (hb hby hd) hl k) K
theorem w_lload (X : Sd l Z n0 y bytes maxL ret R p e s m args below T h cells slots) {k : Nat} {v : Int64} (hd : decode bytes pc = .ok (.lload k, 2)) (hl : Ls[k]? = some (.val (.long v))) (hp : pc' = pc + 2) (K : Go p e below G (T.setTop (mkF m pc' Ls (.long v :: S)))) : Go p e below G (T.setTop (mkF m pc Ls S)) := by
  obtain ⟨meth, c, locs, X, eT, N, hx, hby, hml, hown, hnm, hret, hlk, hZ, hn⟩ := X; subst hp
  exact go_of (fun _ k => XS.lload (g := (mkF m pc Ls S)) X.here hx rfl (hb hby hd) hl k) K
theorem w_lstoreN (X : Sd l Z n0 y bytes maxL ret R p e s m args below T h cells slots) {k : Fin 4} {v : Int64} {l' : Array Slot} (hd : decode bytes pc = .ok (.lstore_n k, 1)) (hl : storeLocals Ls k.val (.long v) = some l') (hp : pc' = pc + 1) (K : Go p e below G (T.setTop (mkF m pc' l' S))) : Go p e below G (T.setTop (mkF m pc Ls (.long v :: S))) := by
  obtain ⟨meth, c, locs, X, eT, N, hx, hby, hml, hown, hnm, hret, hlk, hZ, hn⟩ := X; subst hp
  exact go_of (fun _ k => XS.lstoreN (g := (mkF m pc Ls (.long v :: S))) X.here hx rfl (hb hby hd) rfl hl k) K
theorem w_lstore (X : Sd l Z n0 y bytes maxL ret R p e s m args below T h cells slots) {k : Nat} {v : Int64} {l' : Array Slot} (hd : decode bytes pc = .ok (.lstore k, 2)) (hl : storeLocals Ls k (.long v) = some l') (hp : pc' = pc + 2) (K : Go p e below G (T.setTop (mkF m pc' l' S))) : Go p e below G (T.setTop (mkF m pc Ls (.long v :: S))) := by
  obtain ⟨meth, c, locs, X, eT, N, hx, hby, hml, hown, hnm, hret, hlk, hZ, hn⟩ := X; subst hp
  exact go_of (fun _ k => XS.lstore (g := (mkF m pc Ls (.long v :: S))) X.here hx rfl (hb hby hd) rfl hl k) K
theorem w_aloadN (X : Sd l Z n0 y bytes maxL ret R p e s m args below T h cells slots) {k : Fin 4} {v : Value} (hd : decode bytes pc = .ok (.aload_n k, 1)) (hl : Ls[k.val]? = some (.val v)) (hv : v.isRef = true) (hp : pc' = pc + 1) (K : Go p e below G (T.setTop (mkF m pc' Ls (v :: S)))) : Go p e below G (T.setTop (mkF m pc Ls S)) := by
  obtain ⟨meth, c, locs, X, eT, N, hx, hby, hml, hown, hnm, hret, hlk, hZ, hn⟩ := X; subst hp
  exact go_of (fun _ k => XS.aloadN (g := (mkF m pc Ls S)) X.here hx rfl (hb hby hd) hl hv k) K
theorem w_aload (X : Sd l Z n0 y bytes maxL ret R p e s m args below T h cells slots) {k : Nat} {v : Value} (hd : decode bytes pc = .ok (.aload k, 2)) (hl : Ls[k]? = some (.val v)) (hv : v.isRef = true) (hp : pc' = pc + 2) (K : Go p e below G (T.setTop (mkF m pc' Ls (v :: S)))) : Go p e below G (T.setTop (mkF m pc Ls S)) := by
  obtain ⟨meth, c, locs, X, eT, N, hx, hby, hml, hown, hnm, hret, hlk, hZ, hn⟩ := X; subst hp
  exact go_of (fun _ k => XS.aload (g := (mkF m pc Ls S)) X.here hx rfl (hb hby hd) hl hv k) K
theorem w_astoreN (X : Sd l Z n0 y bytes maxL ret R p e s m args below T h cells slots) {k : Fin 4} {v : Value} {l' : Array Slot} (hd : decode bytes pc = .ok (.astore_n k, 1)) (hv : v.isRef = true) (hl : storeLocals Ls k.val v = some l') (hp : pc' = pc + 1) (K : Go p e below G (T.setTop (mkF m pc' l' S))) : Go p e below G (T.setTop (mkF m pc Ls (v :: S))) := by
  obtain ⟨meth, c, locs, X, eT, N, hx, hby, hml, hown, hnm, hret, hlk, hZ, hn⟩ := X; subst hp
  exact go_of (fun _ k => XS.astoreN (g := (mkF m pc Ls (v :: S))) X.here hx rfl (hb hby hd) rfl hv hl k) K
theorem w_astore (X : Sd l Z n0 y bytes maxL ret R p e s m args below T h cells slots) {k : Nat} {v : Value} {l' : Array Slot} (hd : decode bytes pc = .ok (.astore k, 2)) (hv : v.isRef = true) (hl : storeLocals Ls k v = some l') (hp : pc' = pc + 2) (K : Go p e below G (T.setTop (mkF m pc' l' S))) : Go p e below G (T.setTop (mkF m pc Ls (v :: S))) := by
  obtain ⟨meth, c, locs, X, eT, N, hx, hby, hml, hown, hnm, hret, hlk, hZ, hn⟩ := X; subst hp
  exact go_of (fun _ k => XS.astore (g := (mkF m pc Ls (v :: S))) X.here hx rfl (hb hby hd) rfl hv hl k) K
theorem w_iconst (X : Sd l Z n0 y bytes maxL ret R p e s m args below T h cells slots) {i : Int} (z : Int32) (hd : decode bytes pc = .ok (.iconst i, 1)) (hz : Int32.ofInt i = z) (hp : pc' = pc + 1) (K : Go p e below G (T.setTop (mkF m pc' Ls (.int z :: S)))) : Go p e below G (T.setTop (mkF m pc Ls S)) := by
  obtain ⟨meth, c, locs, X, eT, N, hx, hby, hml, hown, hnm, hret, hlk, hZ, hn⟩ := X; subst hp
  exact go_of (fun _ k => XS.iconst (g := mkF m pc Ls S) X.here hx rfl (hb hby hd) (by rw [hz]; exact k)) K
theorem w_bipush (X : Sd l Z n0 y bytes maxL ret R p e s m args below T h cells slots) {i : Int} (z : Int32) (hd : decode bytes pc = .ok (.bipush i, 2)) (hz : (Int8.ofInt i).toInt32 = z) (hp : pc' = pc + 2) (K : Go p e below G (T.setTop (mkF m pc' Ls (.int z :: S)))) : Go p e below G (T.setTop (mkF m pc Ls S)) := by
  obtain ⟨meth, c, locs, X, eT, N, hx, hby, hml, hown, hnm, hret, hlk, hZ, hn⟩ := X; subst hp
  exact go_of (fun _ k => XS.bipush (g := mkF m pc Ls S) X.here hx rfl (hb hby hd) (by rw [hz]; exact k)) K
theorem w_sipush (X : Sd l Z n0 y bytes maxL ret R p e s m args below T h cells slots) {i : Int} (z : Int32) (hd : decode bytes pc = .ok (.sipush i, 3)) (hz : (Int16.ofInt i).toInt32 = z) (hp : pc' = pc + 3) (K : Go p e below G (T.setTop (mkF m pc' Ls (.int z :: S)))) : Go p e below G (T.setTop (mkF m pc Ls S)) := by
  obtain ⟨meth, c, locs, X, eT, N, hx, hby, hml, hown, hnm, hret, hlk, hZ, hn⟩ := X; subst hp
  exact go_of (fun _ k => XS.sipush (g := mkF m pc Ls S) X.here hx rfl (hb hby hd) (by rw [hz]; exact k)) K
theorem w_lconst (X : Sd l Z n0 y bytes maxL ret R p e s m args below T h cells slots) {i : Fin 2} (z : Int64) (hd : decode bytes pc = .ok (.lconst i, 1)) (hz : Int64.ofNat i = z) (hp : pc' = pc + 1) (K : Go p e below G (T.setTop (mkF m pc' Ls (.long z :: S)))) : Go p e below G (T.setTop (mkF m pc Ls S)) := by
  obtain ⟨meth, c, locs, X, eT, N, hx, hby, hml, hown, hnm, hret, hlk, hZ, hn⟩ := X; subst hp
  exact go_of (fun _ k => XS.lconst (g := mkF m pc Ls S) X.here hx rfl (hb hby hd) (by rw [hz]; exact k)) K
theorem w_aconst_null (X : Sd l Z n0 y bytes maxL ret R p e s m args below T h cells slots)  (hd : decode bytes pc = .ok (.aconst_null, 1)) (hp : pc' = pc + 1) (K : Go p e below G (T.setTop (mkF m pc' Ls (.null :: S)))) : Go p e below G (T.setTop (mkF m pc Ls S)) := by
  obtain ⟨meth, c, locs, X, eT, N, hx, hby, hml, hown, hnm, hret, hlk, hZ, hn⟩ := X; subst hp
  exact go_of (fun _ k => XS.aconstNull (g := (mkF m pc Ls S)) X.here hx rfl (hb hby hd)  k) K
theorem w_iadd (X : Sd l Z n0 y bytes maxL ret R p e s m args below T h cells slots) {a b : Int32} (hd : decode bytes pc = .ok (.iadd, 1)) (hp : pc' = pc + 1) (K : Go p e below G (T.setTop (mkF m pc' Ls (.int (a + b) :: S)))) : Go p e below G (T.setTop (mkF m pc Ls (.int b :: .int a :: S))) := by
  obtain ⟨meth, c, locs, X, eT, N, hx, hby, hml, hown, hnm, hret, hlk, hZ, hn⟩ := X; subst hp
  exact go_of (fun _ k => XS.iadd (g := (mkF m pc Ls (.int b :: .int a :: S))) X.here hx rfl (hb hby hd) rfl k) K
theorem w_ladd (X : Sd l Z n0 y bytes maxL ret R p e s m args below T h cells slots) {a b : Int64} (hd : decode bytes pc = .ok (.ladd, 1)) (hp : pc' = pc + 1) (K : Go p e below G (T.setTop (mkF m pc' Ls (.long (a + b) :: S)))) : Go p e below G (T.setTop (mkF m pc Ls (.long b :: .long a :: S))) := by
  obtain ⟨meth, c, locs, X, eT, N, hx, hby, hml, hown, hnm, hret, hlk, hZ, hn⟩ := X; subst hp
  exact go_of (fun _ k => XS.ladd (g := (mkF m pc Ls (.long b :: .long a :: S))) X.here hx rfl (hb hby hd) rfl k) K
theorem w_isub (X : Sd l Z n0 y bytes maxL ret R p e s m args below T h cells slots) {a b : Int32} (hd : decode bytes pc = .ok (.isub, 1)) (hp : pc' = pc + 1) (K : Go p e below G (T.setTop (mkF m pc' Ls (.int (a - b) :: S)))) : Go p e below G (T.setTop (mkF m pc Ls (.int b :: .int a :: S))) := by
  obtain ⟨meth, c, locs, X, eT, N, hx, hby, hml, hown, hnm, hret, hlk, hZ, hn⟩ := X; subst hp
  exact go_of (fun _ k => XS.isub (g := (mkF m pc Ls (.int b :: .int a :: S))) X.here hx rfl (hb hby hd) rfl k) K
theorem w_lsub (X : Sd l Z n0 y bytes maxL ret R p e s m args below T h cells slots) {a b : Int64} (hd : decode bytes pc = .ok (.lsub, 1)) (hp : pc' = pc + 1) (K : Go p e below G (T.setTop (mkF m pc' Ls (.long (a - b) :: S)))) : Go p e below G (T.setTop (mkF m pc Ls (.long b :: .long a :: S))) := by
  obtain ⟨meth, c, locs, X, eT, N, hx, hby, hml, hown, hnm, hret, hlk, hZ, hn⟩ := X; subst hp
  exact go_of (fun _ k => XS.lsub (g := (mkF m pc Ls (.long b :: .long a :: S))) X.here hx rfl (hb hby hd) rfl k) K
theorem w_imul (X : Sd l Z n0 y bytes maxL ret R p e s m args below T h cells slots) {a b : Int32} (hd : decode bytes pc = .ok (.imul, 1)) (hp : pc' = pc + 1) (K : Go p e below G (T.setTop (mkF m pc' Ls (.int (a * b) :: S)))) : Go p e below G (T.setTop (mkF m pc Ls (.int b :: .int a :: S))) := by
  obtain ⟨meth, c, locs, X, eT, N, hx, hby, hml, hown, hnm, hret, hlk, hZ, hn⟩ := X; subst hp
  exact go_of (fun _ k => XS.imul (g := (mkF m pc Ls (.int b :: .int a :: S))) X.here hx rfl (hb hby hd) rfl k) K
theorem w_lmul (X : Sd l Z n0 y bytes maxL ret R p e s m args below T h cells slots) {a b : Int64} (hd : decode bytes pc = .ok (.lmul, 1)) (hp : pc' = pc + 1) (K : Go p e below G (T.setTop (mkF m pc' Ls (.long (a * b) :: S)))) : Go p e below G (T.setTop (mkF m pc Ls (.long b :: .long a :: S))) := by
  obtain ⟨meth, c, locs, X, eT, N, hx, hby, hml, hown, hnm, hret, hlk, hZ, hn⟩ := X; subst hp
  exact go_of (fun _ k => XS.lmul (g := (mkF m pc Ls (.long b :: .long a :: S))) X.here hx rfl (hb hby hd) rfl k) K
theorem w_iand (X : Sd l Z n0 y bytes maxL ret R p e s m args below T h cells slots) {a b : Int32} (hd : decode bytes pc = .ok (.iand, 1)) (hp : pc' = pc + 1) (K : Go p e below G (T.setTop (mkF m pc' Ls (.int (a &&& b) :: S)))) : Go p e below G (T.setTop (mkF m pc Ls (.int b :: .int a :: S))) := by
  obtain ⟨meth, c, locs, X, eT, N, hx, hby, hml, hown, hnm, hret, hlk, hZ, hn⟩ := X; subst hp
  exact go_of (fun _ k => XS.iand (g := (mkF m pc Ls (.int b :: .int a :: S))) X.here hx rfl (hb hby hd) rfl k) K
theorem w_land (X : Sd l Z n0 y bytes maxL ret R p e s m args below T h cells slots) {a b : Int64} (hd : decode bytes pc = .ok (.land, 1)) (hp : pc' = pc + 1) (K : Go p e below G (T.setTop (mkF m pc' Ls (.long (a &&& b) :: S)))) : Go p e below G (T.setTop (mkF m pc Ls (.long b :: .long a :: S))) := by
  obtain ⟨meth, c, locs, X, eT, N, hx, hby, hml, hown, hnm, hret, hlk, hZ, hn⟩ := X; subst hp
  exact go_of (fun _ k => XS.land (g := (mkF m pc Ls (.long b :: .long a :: S))) X.here hx rfl (hb hby hd) rfl k) K
theorem w_ior (X : Sd l Z n0 y bytes maxL ret R p e s m args below T h cells slots) {a b : Int32} (hd : decode bytes pc = .ok (.ior, 1)) (hp : pc' = pc + 1) (K : Go p e below G (T.setTop (mkF m pc' Ls (.int (a ||| b) :: S)))) : Go p e below G (T.setTop (mkF m pc Ls (.int b :: .int a :: S))) := by
  obtain ⟨meth, c, locs, X, eT, N, hx, hby, hml, hown, hnm, hret, hlk, hZ, hn⟩ := X; subst hp
  exact go_of (fun _ k => XS.ior (g := (mkF m pc Ls (.int b :: .int a :: S))) X.here hx rfl (hb hby hd) rfl k) K
theorem w_lor (X : Sd l Z n0 y bytes maxL ret R p e s m args below T h cells slots) {a b : Int64} (hd : decode bytes pc = .ok (.lor, 1)) (hp : pc' = pc + 1) (K : Go p e below G (T.setTop (mkF m pc' Ls (.long (a ||| b) :: S)))) : Go p e below G (T.setTop (mkF m pc Ls (.long b :: .long a :: S))) := by
  obtain ⟨meth, c, locs, X, eT, N, hx, hby, hml, hown, hnm, hret, hlk, hZ, hn⟩ := X; subst hp
  exact go_of (fun _ k => XS.lor (g := (mkF m pc Ls (.long b :: .long a :: S))) X.here hx rfl (hb hby hd) rfl k) K
theorem w_ixor (X : Sd l Z n0 y bytes maxL ret R p e s m args below T h cells slots) {a b : Int32} (hd : decode bytes pc = .ok (.ixor, 1)) (hp : pc' = pc + 1) (K : Go p e below G (T.setTop (mkF m pc' Ls (.int (a ^^^ b) :: S)))) : Go p e below G (T.setTop (mkF m pc Ls (.int b :: .int a :: S))) := by
  obtain ⟨meth, c, locs, X, eT, N, hx, hby, hml, hown, hnm, hret, hlk, hZ, hn⟩ := X; subst hp
  exact go_of (fun _ k => XS.ixor (g := (mkF m pc Ls (.int b :: .int a :: S))) X.here hx rfl (hb hby hd) rfl k) K
theorem w_lxor (X : Sd l Z n0 y bytes maxL ret R p e s m args below T h cells slots) {a b : Int64} (hd : decode bytes pc = .ok (.lxor, 1)) (hp : pc' = pc + 1) (K : Go p e below G (T.setTop (mkF m pc' Ls (.long (a ^^^ b) :: S)))) : Go p e below G (T.setTop (mkF m pc Ls (.long b :: .long a :: S))) := by
  obtain ⟨meth, c, locs, X, eT, N, hx, hby, hml, hown, hnm, hret, hlk, hZ, hn⟩ := X; subst hp
  exact go_of (fun _ k => XS.lxor (g := (mkF m pc Ls (.long b :: .long a :: S))) X.here hx rfl (hb hby hd) rfl k) K
theorem w_ishl (X : Sd l Z n0 y bytes maxL ret R p e s m args below T h cells slots) {a b : Int32} (hd : decode bytes pc = .ok (.ishl, 1)) (hp : pc' = pc + 1) (K : Go p e below G (T.setTop (mkF m pc' Ls (.int (a <<< (b &&& 31)) :: S)))) : Go p e below G (T.setTop (mkF m pc Ls (.int b :: .int a :: S))) := by
  obtain ⟨meth, c, locs, X, eT, N, hx, hby, hml, hown, hnm, hret, hlk, hZ, hn⟩ := X; subst hp
  exact go_of (fun _ k => XS.ishl (g := (mkF m pc Ls (.int b :: .int a :: S))) X.here hx rfl (hb hby hd) rfl k) K
theorem w_ishr (X : Sd l Z n0 y bytes maxL ret R p e s m args below T h cells slots) {a b : Int32} (hd : decode bytes pc = .ok (.ishr, 1)) (hp : pc' = pc + 1) (K : Go p e below G (T.setTop (mkF m pc' Ls (.int (a >>> (b &&& 31)) :: S)))) : Go p e below G (T.setTop (mkF m pc Ls (.int b :: .int a :: S))) := by
  obtain ⟨meth, c, locs, X, eT, N, hx, hby, hml, hown, hnm, hret, hlk, hZ, hn⟩ := X; subst hp
  exact go_of (fun _ k => XS.ishr (g := (mkF m pc Ls (.int b :: .int a :: S))) X.here hx rfl (hb hby hd) rfl k) K
theorem w_iushr (X : Sd l Z n0 y bytes maxL ret R p e s m args below T h cells slots) {a b : Int32} (hd : decode bytes pc = .ok (.iushr, 1)) (hp : pc' = pc + 1) (K : Go p e below G (T.setTop (mkF m pc' Ls (.int ((a.toUInt32 >>> (b &&& 31).toUInt32).toInt32) :: S)))) : Go p e below G (T.setTop (mkF m pc Ls (.int b :: .int a :: S))) := by
  obtain ⟨meth, c, locs, X, eT, N, hx, hby, hml, hown, hnm, hret, hlk, hZ, hn⟩ := X; subst hp
  exact go_of (fun _ k => XS.iushr (g := (mkF m pc Ls (.int b :: .int a :: S))) X.here hx rfl (hb hby hd) rfl k) K
theorem w_lshl (X : Sd l Z n0 y bytes maxL ret R p e s m args below T h cells slots) {a : Int64} {b : Int32} (hd : decode bytes pc = .ok (.lshl, 1)) (hp : pc' = pc + 1) (K : Go p e below G (T.setTop (mkF m pc' Ls (.long (a <<< (b &&& 0x3f).toInt64) :: S)))) : Go p e below G (T.setTop (mkF m pc Ls (.int b :: .long a :: S))) := by
  obtain ⟨meth, c, locs, X, eT, N, hx, hby, hml, hown, hnm, hret, hlk, hZ, hn⟩ := X; subst hp
  exact go_of (fun _ k => XS.lshl (g := (mkF m pc Ls (.int b :: .long a :: S))) X.here hx rfl (hb hby hd) rfl k) K
theorem w_lshr (X : Sd l Z n0 y bytes maxL ret R p e s m args below T h cells slots) {a : Int64} {b : Int32} (hd : decode bytes pc = .ok (.lshr, 1)) (hp : pc' = pc + 1) (K : Go p e below G (T.setTop (mkF m pc' Ls (.long (a >>> (b &&& 0x3f).toInt64) :: S)))) : Go p e below G (T.setTop (mkF m pc Ls (.int b :: .long a :: S))) := by
  obtain ⟨meth, c, locs, X, eT, N, hx, hby, hml, hown, hnm, hret, hlk, hZ, hn⟩ := X; subst hp
  exact go_of (fun _ k => XS.lshr (g := (mkF m pc Ls (.int b :: .long a :: S))) X.here hx rfl (hb hby hd) rfl k) K
theorem w_lushr (X : Sd l Z n0 y bytes maxL ret R p e s m args below T h cells slots) {a : Int64} {b : Int32} (hd : decode bytes pc = .ok (.lushr, 1)) (hp : pc' = pc + 1) (K : Go p e below G (T.setTop (mkF m pc' Ls (.long ((a.toUInt64 >>> (b &&& 0x3f).toInt64.toUInt64).toInt64) :: S)))) : Go p e below G (T.setTop (mkF m pc Ls (.int b :: .long a :: S))) := by
  obtain ⟨meth, c, locs, X, eT, N, hx, hby, hml, hown, hnm, hret, hlk, hZ, hn⟩ := X; subst hp
  exact go_of (fun _ k => XS.lushr (g := (mkF m pc Ls (.int b :: .long a :: S))) X.here hx rfl (hb hby hd) rfl k) K
theorem w_idiv (X : Sd l Z n0 y bytes maxL ret R p e s m args below T h cells slots) {a b : Int32} (hd : decode bytes pc = .ok (.idiv, 1)) (hz : b ≠ 0) (hp : pc' = pc + 1) (K : Go p e below G (T.setTop (mkF m pc' Ls (.int (a / b) :: S)))) : Go p e below G (T.setTop (mkF m pc Ls (.int b :: .int a :: S))) := by
  obtain ⟨meth, c, locs, X, eT, N, hx, hby, hml, hown, hnm, hret, hlk, hZ, hn⟩ := X; subst hp
  exact go_of (fun _ k => XS.idiv (g := (mkF m pc Ls (.int b :: .int a :: S))) X.here hx rfl (hb hby hd) rfl hz k) K
theorem w_ldiv (X : Sd l Z n0 y bytes maxL ret R p e s m args below T h cells slots) {a b : Int64} (hd : decode bytes pc = .ok (.ldiv, 1)) (hz : b ≠ 0) (hp : pc' = pc + 1) (K : Go p e below G (T.setTop (mkF m pc' Ls (.long (a / b) :: S)))) : Go p e below G (T.setTop (mkF m pc Ls (.long b :: .long a :: S))) := by
  obtain ⟨meth, c, locs, X, eT, N, hx, hby, hml, hown, hnm, hret, hlk, hZ, hn⟩ := X; subst hp
  exact go_of (fun _ k => XS.ldiv (g := (mkF m pc Ls (.long b :: .long a :: S))) X.here hx rfl (hb hby hd) rfl hz k) K
theorem w_irem (X : Sd l Z n0 y bytes maxL ret R p e s m args below T h cells slots) {a b : Int32} (hd : decode bytes pc = .ok (.irem, 1)) (hz : b ≠ 0) (hp : pc' = pc + 1) (K : Go p e below G (T.setTop (mkF m pc' Ls (.int (a % b) :: S)))) : Go p e below G (T.setTop (mkF m pc Ls (.int b :: .int a :: S))) := by
  obtain ⟨meth, c, locs, X, eT, N, hx, hby, hml, hown, hnm, hret, hlk, hZ, hn⟩ := X; subst hp
  exact go_of (fun _ k => iremM (g := mkF m pc Ls (.int b :: .int a :: S)) X hx rfl (hb hby hd) rfl hz k) K
theorem w_lrem (X : Sd l Z n0 y bytes maxL ret R p e s m args below T h cells slots) {a b : Int64} (hd : decode bytes pc = .ok (.lrem, 1)) (hz : b ≠ 0) (hp : pc' = pc + 1) (K : Go p e below G (T.setTop (mkF m pc' Ls (.long (a % b) :: S)))) : Go p e below G (T.setTop (mkF m pc Ls (.long b :: .long a :: S))) := by
  obtain ⟨meth, c, locs, X, eT, N, hx, hby, hml, hown, hnm, hret, hlk, hZ, hn⟩ := X; subst hp
  exact go_of (fun _ k => XS.lrem (g := mkF m pc Ls (.long b :: .long a :: S)) X.here hx rfl (hb hby hd) rfl hz (by rw [lrem_mod]; exact k)) K
theorem w_ineg (X : Sd l Z n0 y bytes maxL ret R p e s m args below T h cells slots) {a : Int32} (hd : decode bytes pc = .ok (.ineg, 1)) (hp : pc' = pc + 1) (K : Go p e below G (T.setTop (mkF m pc' Ls (.int (-a) :: S)))) : Go p e below G (T.setTop (mkF m pc Ls (.int a :: S))) := by
  obtain ⟨meth, c, locs, X, eT, N, hx, hby, hml, hown, hnm, hret, hlk, hZ, hn⟩ := X; subst hp
  exact go_of (fun _ k => XS.ineg (g := (mkF m pc Ls (.int a :: S))) X.here hx rfl (hb hby hd) rfl k) K
theorem w_lneg (X : Sd l Z n0 y bytes maxL ret R p e s m args below T h cells slots) {a : Int64} (hd : decode bytes pc = .ok (.lneg, 1)) (hp : pc' = pc + 1) (K : Go p e below G (T.setTop (mkF m pc' Ls (.long (-a) :: S)))) : Go p e below G (T.setTop (mkF m pc Ls (.long a :: S))) := by
  obtain ⟨meth, c, locs, X, eT, N, hx, hby, hml, hown, hnm, hret, hlk, hZ, hn⟩ := X; subst hp
  exact go_of (fun _ k => XS.lneg (g := (mkF m pc Ls (.long a :: S))) X.here hx rfl (hb hby hd) rfl k) K
theorem w_i2l (X : Sd l Z n0 y bytes maxL ret R p e s m args below T h cells slots) {a : Int32} (hd : decode bytes pc = .ok (.i2l, 1)) (hp : pc' = pc + 1) (K : Go p e below G (T.setTop (mkF m pc' Ls (.long (a.toInt64) :: S)))) : Go p e below G (T.setTop (mkF m pc Ls (.int a :: S))) := by
  obtain ⟨meth, c, locs, X, eT, N, hx, hby, hml, hown, hnm, hret, hlk, hZ, hn⟩ := X; subst hp
  exact go_of (fun _ k => XS.i2l (g := (mkF m pc Ls (.int a :: S))) X.here hx rfl (hb hby hd) rfl k) K
theorem w_l2i (X : Sd l Z n0 y bytes maxL ret R p e s m args below T h cells slots) {a : Int64} (hd : decode bytes pc = .ok (.l2i, 1)) (hp : pc' = pc + 1) (K : Go p e below G (T.setTop (mkF m pc' Ls (.int (a.toInt32) :: S)))) : Go p e below G (T.setTop (mkF m pc Ls (.long a :: S))) := by
  obtain ⟨meth, c, locs, X, eT, N, hx, hby, hml, hown, hnm, hret, hlk, hZ, hn⟩ := X; subst hp
  exact go_of (fun _ k => XS.l2i (g := (mkF m pc Ls (.long a :: S))) X.here hx rfl (hb hby hd) rfl k) K
theorem w_i2b (X : Sd l Z n0 y bytes maxL ret R p e s m args below T h cells slots) {a : Int32} (hd : decode bytes pc = .ok (.i2b, 1)) (hp : pc' = pc + 1) (K : Go p e below G (T.setTop (mkF m pc' Ls (.int (a.toInt8.toInt32) :: S)))) : Go p e below G (T.setTop (mkF m pc Ls (.int a :: S))) := by
  obtain ⟨meth, c, locs, X, eT, N, hx, hby, hml, hown, hnm, hret, hlk, hZ, hn⟩ := X; subst hp
  exact go_of (fun _ k => XS.i2b (g := (mkF m pc Ls (.int a :: S))) X.here hx rfl (hb hby hd) rfl k) K
theorem w_i2s (X : Sd l Z n0 y bytes maxL ret R p e s m args below T h cells slots) {a : Int32} (hd : decode bytes pc = .ok (.i2s, 1)) (hp : pc' = pc + 1) (K : Go p e below G (T.setTop (mkF m pc' Ls (.int (a.toInt16.toInt32) :: S)))) : Go p e below G (T.setTop (mkF m pc Ls (.int a :: S))) := by
  obtain ⟨meth, c, locs, X, eT, N, hx, hby, hml, hown, hnm, hret, hlk, hZ, hn⟩ := X; subst hp
  exact go_of (fun _ k => XS.i2s (g := (mkF m pc Ls (.int a :: S))) X.here hx rfl (hb hby hd) rfl k) K
theorem w_i2c (X : Sd l Z n0 y bytes maxL ret R p e s m args below T h cells slots) {a : Int32} (hd : decode bytes pc = .ok (.i2c, 1)) (hp : pc' = pc + 1) (K : Go p e below G (T.setTop (mkF m pc' Ls (.int (a.toUInt32.toUInt16.toUInt32.toInt32) :: S)))) : Go p e below G (T.setTop (mkF m pc Ls (.int a :: S))) := by
  obtain ⟨meth, c, locs, X, eT, N, hx, hby, hml, hown, hnm, hret, hlk, hZ, hn⟩ := X; subst hp
  exact go_of (fun _ k => XS.i2c (g := (mkF m pc Ls (.int a :: S))) X.here hx rfl (hb hby hd) rfl k) K
theorem w_lcmp (X : Sd l Z n0 y bytes maxL ret R p e s m args below T h cells slots) {a b : Int64} (hd : decode bytes pc = .ok (.lcmp, 1)) (hp : pc' = pc + 1) (K : Go p e below G (T.setTop (mkF m pc' Ls (.int (lcmpW a b) :: S)))) : Go p e below G (T.setTop (mkF m pc Ls (.long b :: .long a :: S))) := by
  obtain ⟨meth, c, locs, X, eT, N, hx, hby, hml, hown, hnm, hret, hlk, hZ, hn⟩ := X; subst hp
  exact go_of (fun _ k => XS.lcmp (g := (mkF m pc Ls (.long b :: .long a :: S))) X.here hx rfl (hb hby hd) rfl k) K
theorem w_iinc (X : Sd l Z n0 y bytes maxL ret R p e s m args below T h cells slots) {k : Nat} {i : Int} {v : Int32} {l' : Array Slot} (z : Int32) (hd : decode bytes pc = .ok (.iinc k i, 3)) (hl : Ls[k]? = some (.val (.int v))) (hz : v + Int32.ofInt i = z) (hl' : storeLocals Ls k (.int z) = some l') (hp : pc' = pc + 3) (K : Go p e below G (T.setTop (mkF m pc' l' S))) : Go p e below G (T.setTop (mkF m pc Ls S)) := by
  obtain ⟨meth, c, locs, X, eT, N, hx, hby, hml, hown, hnm, hret, hlk, hZ, hn⟩ := X; subst hp
  exact go_of (fun _ k => XS.iinc (g := mkF m pc Ls S) X.here hx rfl (hb hby hd) hl (by rw [hz]; exact hl') k) K
theorem w_dup (X : Sd l Z n0 y bytes maxL ret R p e s m args below T h cells slots) {v : Value} (hd : decode bytes pc = .ok (.dup, 1)) (hc : v.category = 1) (hp : pc' = pc + 1) (K : Go p e below G (T.setTop (mkF m pc' Ls (v :: v :: S)))) : Go p e below G (T.setTop (mkF m pc Ls (v :: S))) := by
  obtain ⟨meth, c, locs, X, eT, N, hx, hby, hml, hown, hnm, hret, hlk, hZ, hn⟩ := X; subst hp
  exact go_of (fun _ k => XS.dup (g := (mkF m pc Ls (v :: S))) X.here hx rfl (hb hby hd) rfl hc k) K
theorem w_pop (X : Sd l Z n0 y bytes maxL ret R p e s m args below T h cells slots) {v : Value} (hd : decode bytes pc = .ok (.pop, 1)) (hc : v.category = 1) (hp : pc' = pc + 1) (K : Go p e below G (T.setTop (mkF m pc' Ls S))) : Go p e below G (T.setTop (mkF m pc Ls (v :: S))) := by
  obtain ⟨meth, c, locs, X, eT, N, hx, hby, hml, hown, hnm, hret, hlk, hZ, hn⟩ := X; subst hp
  exact go_of (fun _ k => XS.pop (g := (mkF m pc Ls (v :: S))) X.here hx rfl (hb hby hd) rfl hc k) K
theorem w_dup_x1 (X : Sd l Z n0 y bytes maxL ret R p e s m args below T h cells slots) {v w : Value} (hd : decode bytes pc = .ok (.dup_x1, 1)) (hc : v.category = 1) (hc2 : w.category = 1) (hp : pc' = pc + 1) (K : Go p e below G (T.setTop (mkF m pc' Ls (v :: w :: v :: S)))) : Go p e below G (T.setTop (mkF m pc Ls (v :: w :: S))) := by
  obtain ⟨meth, c, locs, X, eT, N, hx, hby, hml, hown, hnm, hret, hlk, hZ, hn⟩ := X; subst hp
  exact go_of (fun _ k => XS.dupX1 (g := (mkF m pc Ls (v :: w :: S))) X.here hx rfl (hb hby hd) rfl hc hc2 k) K
theorem w_dup2 (X : Sd l Z n0 y bytes maxL ret R p e s m args below T h cells slots) {v w : Value} (hd : decode bytes pc = .ok (.dup2, 1)) (hc : v.category = 1) (hc2 : w.category = 1) (hp : pc' = pc + 1) (K : Go p e below G (T.setTop (mkF m pc' Ls (v :: w :: v :: w :: S)))) : Go p e below G (T.setTop (mkF m pc Ls (v :: w :: S))) := by
  obtain ⟨meth, c, locs, X, eT, N, hx, hby, hml, hown, hnm, hret, hlk, hZ, hn⟩ := X; subst hp
  exact go_of (fun _ k => Jvm.Free.XT.dup2 (g := (mkF m pc Ls (v :: w :: S))) X.here hx rfl (hb hby hd) rfl hc hc2 k) K
theorem w_dup2L (X : Sd l Z n0 y bytes maxL ret R p e s m args below T h cells slots) {v : Int64} (hd : decode bytes pc = .ok (.dup2, 1)) (hp : pc' = pc + 1) (K : Go p e below G (T.setTop (mkF m pc' Ls (.long v :: .long v :: S)))) : Go p e below G (T.setTop (mkF m pc Ls (.long v :: S))) := by
  obtain ⟨meth, c, locs, X, eT, N, hx, hby, hml, hown, hnm, hret, hlk, hZ, hn⟩ := X; subst hp
  exact go_of (fun _ k => Jvm.Free.XT.dup2L (g := (mkF m pc Ls (.long v :: S))) X.here hx rfl (hb hby hd) rfl k) K
theorem w_goto (X : Sd l Z n0 y bytes maxL ret R p e s m args below T h cells slots) {i : Int} (hd : decode bytes pc = .ok (.goto i, 3)) (ho : 0 ≤ (pc : Int) + i) (hp : ((pc : Int) + i).toNat = pc') (K : Go p e below G (T.setTop (mkF m pc' Ls S))) : Go p e below G (T.setTop (mkF m pc Ls S)) := by
  obtain ⟨meth, c, locs, X, eT, N, hx, hby, hml, hown, hnm, hret, hlk, hZ, hn⟩ := X
  exact go_of (fun _ k => XS.goto (g := mkF m pc Ls S) X.here hx rfl rfl (hb hby hd) ho hp k) K
theorem w_icmp_eq (X : Sd l Z n0 y bytes maxL ret R p e s m args below T h cells slots) {a b : Int32} {i : Int} (pt pf : Nat) (hd : decode bytes pc = .ok (.if_icmp .eq i, 3)) (ho : 0 ≤ (pc : Int) + i) (ht : ((pc : Int) + i).toNat = pt) (hf : pf = pc + 3) (kt : a = b → Go p e below G (T.setTop (mkF m pt Ls S))) (kf : ¬ a = b → Go p e below G (T.setTop (mkF m pf Ls S))) : Go p e below G (T.setTop (mkF m pc Ls (.int b :: .int a :: S))) := by
  obtain ⟨meth, c, locs, X, eT, N, hx, hby, hml, hown, hnm, hret, hlk, hZ, hn⟩ := X; subst hf
  by_cases q : a = b
  · exact go_of (fun _ k => XS.icmpYes (g := mkF m pc Ls (.int b :: .int a :: S)) X.here hx rfl rfl (hb hby hd) rfl (teq q).1 ho ht k) (kt q)
  · skip
    exact go_of (fun _ k => XS.icmpNo (g := mkF m pc Ls (.int b :: .int a :: S)) X.here hx rfl (hb hby hd) rfl (feq q).1 k) (kf q)
theorem w_if_eq (X : Sd l Z n0 y bytes maxL ret R p e s m args below T h cells slots) {a : Int32} {i : Int} (pt pf : Nat) (hd : decode bytes pc = .ok (.ifCond .eq i, 3)) (ho : 0 ≤ (pc : Int) + i) (ht : ((pc : Int) + i).toNat = pt) (hf : pf = pc + 3) (kt : a = (0 : Int32) → Go p e below G (T.setTop (mkF m pt Ls S))) (kf : ¬ a = (0 : Int32) → Go p e below G (T.setTop (mkF m pf Ls S))) : Go p e below G (T.setTop (mkF m pc Ls (.int a :: S))) := by
  obtain ⟨meth, c, locs, X, eT, N, hx, hby, hml, hown, hnm, hret, hlk, hZ, hn⟩ := X; subst hf
  by_cases q : a = (0 : Int32)
  · exact go_of (fun _ k => XS.ifYes (g := mkF m pc Ls (.int a :: S)) X.here hx rfl rfl (hb hby hd) rfl ((if0 _ _).trans (teq q).1) ho ht k) (kt q)
  · skip
    exact go_of (fun _ k => XS.ifNo (g := mkF m pc Ls (.int a :: S)) X.here hx rfl (hb hby hd) rfl ((if0 _ _).trans (feq q).1) k) (kf q)
theorem w_icmp_ne (X : Sd l Z n0 y bytes maxL ret R p e s m args below T h cells slots) {a b : Int32} {i : Int} (pt pf : Nat) (hd : decode bytes pc = .ok (.if_icmp .ne i, 3)) (ho : 0 ≤ (pc : Int) + i) (ht : ((pc : Int) + i).toNat = pt) (hf : pf = pc + 3) (kt : ¬ a = b → Go p e below G (T.setTop (mkF m pt Ls S))) (kf : a = b → Go p e below G (T.setTop (mkF m pf Ls S))) : Go p e below G (T.setTop (mkF m pc Ls (.int b :: .int a :: S))) := by
  obtain ⟨meth, c, locs, X, eT, N, hx, hby, hml, hown, hnm, hret, hlk, hZ, hn⟩ := X; subst hf
  by_cases q : ¬ a = b
  · exact go_of (fun _ k => XS.icmpYes (g := mkF m pc Ls (.int b :: .int a :: S)) X.here hx rfl rfl (hb hby hd) rfl (feq q).2 ho ht k) (kt q)
  · replace q := Decidable.not_not.mp q
    exact go_of (fun _ k => XS.icmpNo (g := mkF m pc Ls (.int b :: .int a :: S)) X.here hx rfl (hb hby hd) rfl (teq q).2 k) (kf q)
theorem w_if_ne (X : Sd l Z n0 y bytes maxL ret R p e s m args below T h cells slots) {a : Int32} {i : Int} (pt pf : Nat) (hd : decode bytes pc = .ok (.ifCond .ne i, 3)) (ho : 0 ≤ (pc : Int) + i) (ht : ((pc : Int) + i).toNat = pt) (hf : pf = pc + 3) (kt : ¬ a = (0 : Int32) → Go p e below G (T.setTop (mkF m pt Ls S))) (kf : a = (0 : Int32) → Go p e below G (T.setTop (mkF m pf Ls S))) : Go p e below G (T.setTop (mkF m pc Ls (.int a :: S))) := by
  obtain ⟨meth, c, locs, X, eT, N, hx, hby, hml, hown, hnm, hret, hlk, hZ, hn⟩ := X; subst hf
  by_cases q : ¬ a = (0 : Int32)
  · exact go_of (fun _ k => XS.ifYes (g := mkF m pc Ls (.int a :: S)) X.here hx rfl rfl (hb hby hd) rfl ((if0 _ _).trans (feq q).2) ho ht k) (kt q)
  · replace q := Decidable.not_not.mp q
    exact go_of (fun _ k => XS.ifNo (g := mkF m pc Ls (.int a :: S)) X.here hx rfl (hb hby hd) rfl ((if0 _ _).trans (teq q).2) k) (kf q)
theorem w_icmp_lt (X : Sd l Z n0 y bytes maxL ret R p e s m args below T h cells slots) {a b : Int32} {i : Int} (pt pf : Nat) (hd : decode bytes pc = .ok (.if_icmp .lt i, 3)) (ho : 0 ≤ (pc : Int) + i) (ht : ((pc : Int) + i).toNat = pt) (hf : pf = pc + 3) (kt : a < b → Go p e below G (T.setTop (mkF m pt Ls S))) (kf : ¬ a < b → Go p e below G (T.setTop (mkF m pf Ls S))) : Go p e below G (T.setTop (mkF m pc Ls (.int b :: .int a :: S))) := by
  obtain ⟨meth, c, locs, X, eT, N, hx, hby, hml, hown, hnm, hret, hlk, hZ, hn⟩ := X; subst hf
  by_cases q : a < b
  · exact go_of (fun _ k => XS.icmpYes (g := mkF m pc Ls (.int b :: .int a :: S)) X.here hx rfl rfl (hb hby hd) rfl (tlt q).1 ho ht k) (kt q)
  · skip
    exact go_of (fun _ k => XS.icmpNo (g := mkF m pc Ls (.int b :: .int a :: S)) X.here hx rfl (hb hby hd) rfl (flt q).1 k) (kf q)
theorem w_if_lt (X : Sd l Z n0 y bytes maxL ret R p e s m args below T h cells slots) {a : Int32} {i : Int} (pt pf : Nat) (hd : decode bytes pc = .ok (.ifCond .lt i, 3)) (ho : 0 ≤ (pc : Int) + i) (ht : ((pc : Int) + i).toNat = pt) (hf : pf = pc + 3) (kt : a < (0 : Int32) → Go p e below G (T.setTop (mkF m pt Ls S))) (kf : ¬ a < (0 : Int32) → Go p e below G (T.setTop (mkF m pf Ls S))) : Go p e below G (T.setTop (mkF m pc Ls (.int a :: S))) := by
  obtain ⟨meth, c, locs, X, eT, N, hx, hby, hml, hown, hnm, hret, hlk, hZ, hn⟩ := X; subst hf
  by_cases q : a < (0 : Int32)
  · exact go_of (fun _ k => XS.ifYes (g := mkF m pc Ls (.int a :: S)) X.here hx rfl rfl (hb hby hd) rfl ((if0 _ _).trans (tlt q).1) ho ht k) (kt q)
  · skip
    exact go_of (fun _ k => XS.ifNo (g := mkF m pc Ls (.int a :: S)) X.here hx rfl (hb hby hd) rfl ((if0 _ _).trans (flt q).1) k) (kf q)
theorem w_icmp_ge (X : Sd l Z n0 y bytes maxL ret R p e s m args below T h cells slots) {a b : Int32} {i : Int} (pt pf : Nat) (hd : decode bytes pc = .ok (.if_icmp .ge i, 3)) (ho : 0 ≤ (pc : Int) + i) (ht : ((pc : Int) + i).toNat = pt) (hf : pf = pc + 3) (kt : ¬ a < b → Go p e below G (T.setTop (mkF m pt Ls S))) (kf : a < b → Go p e below G (T.setTop (mkF m pf Ls S))) : Go p e below G (T.setTop (mkF m pc Ls (.int b :: .int a :: S))) := by
  obtain ⟨meth, c, locs, X, eT, N, hx, hby, hml, hown, hnm, hret, hlk, hZ, hn⟩ := X; subst hf
  by_cases q : ¬ a < b
  · exact go_of (fun _ k => XS.icmpYes (g := mkF m pc Ls (.int b :: .int a :: S)) X.here hx rfl rfl (hb hby hd) rfl (flt q).2.1 ho ht k) (kt q)
  · replace q := Decidable.not_not.mp q
    exact go_of (fun _ k => XS.icmpNo (g := mkF m pc Ls (.int b :: .int a :: S)) X.here hx rfl (hb hby hd) rfl (tlt q).2.1 k) (kf q)
theorem w_if_ge (X : Sd l Z n0 y bytes maxL ret R p e s m args below T h cells slots) {a : Int32} {i : Int} (pt pf : Nat) (hd : decode bytes pc = .ok (.ifCond .ge i, 3)) (ho : 0 ≤ (pc : Int) + i) (ht : ((pc : Int) + i).toNat = pt) (hf : pf = pc + 3) (kt : ¬ a < (0 : Int32) → Go p e below G (T.setTop (mkF m pt Ls S))) (kf : a < (0 : Int32) → Go p e below G (T.setTop (mkF m pf Ls S))) : Go p e below G (T.setTop (mkF m pc Ls (.int a :: S))) := by
  obtain ⟨meth, c, locs, X, eT, N, hx, hby, hml, hown, hnm, hret, hlk, hZ, hn⟩ := X; subst hf
  by_cases q : ¬ a < (0 : Int32)
  · exact go_of (fun _ k => XS.ifYes (g := mkF m pc Ls (.int a :: S)) X.here hx rfl rfl (hb hby hd) rfl ((if0 _ _).trans (flt q).2.1) ho ht k) (kt q)
  · replace q := Decidable.not_not.mp q
    exact go_of (fun _ k => XS.ifNo (g := mkF m pc Ls (.int a :: S)) X.here hx rfl (hb hby hd) rfl ((if0 _ _).trans (tlt q).2.1) k) (kf q)
theorem w_icmp_gt (X : Sd l Z n0 y bytes maxL ret R p e s m args below T h cells slots) {a b : Int32} {i : Int} (pt pf : Nat) (hd : decode bytes pc = .ok (.if_icmp .gt i, 3)) (ho : 0 ≤ (pc : Int) + i) (ht : ((pc : Int) + i).toNat = pt) (hf : pf = pc + 3) (kt : b < a → Go p e below G (T.setTop (mkF m pt Ls S))) (kf : ¬ b < a → Go p e below G (T.setTop (mkF m pf Ls S))) : Go p e below G (T.setTop (mkF m pc Ls (.int b :: .int a :: S))) := by
  obtain ⟨meth, c, locs, X, eT, N, hx, hby, hml, hown, hnm, hret, hlk, hZ, hn⟩ := X; subst hf
  by_cases q : b < a
  · exact go_of (fun _ k => XS.icmpYes (g := mkF m pc Ls (.int b :: .int a :: S)) X.here hx rfl rfl (hb hby hd) rfl (tlt q).2.2.1 ho ht k) (kt q)
  · skip
    exact go_of (fun _ k => XS.icmpNo (g := mkF m pc Ls (.int b :: .int a :: S)) X.here hx rfl (hb hby hd) rfl (flt q).2.2.1 k) (kf q)
theorem w_if_gt (X : Sd l Z n0 y bytes maxL ret R p e s m args below T h cells slots) {a : Int32} {i : Int} (pt pf : Nat) (hd : decode bytes pc = .ok (.ifCond .gt i, 3)) (ho : 0 ≤ (pc : Int) + i) (ht : ((pc : Int) + i).toNat = pt) (hf : pf = pc + 3) (kt : (0 : Int32) < a → Go p e below G (T.setTop (mkF m pt Ls S))) (kf : ¬ (0 : Int32) < a → Go p e below G (T.setTop (mkF m pf Ls S))) : Go p e below G (T.setTop (mkF m pc Ls (.int a :: S))) := by
  obtain ⟨meth, c, locs, X, eT, N, hx, hby, hml, hown, hnm, hret, hlk, hZ, hn⟩ := X; subst hf
  by_cases q : (0 : Int32) < a
  · exact go_of (fun _ k => XS.ifYes (g := mkF m pc Ls (.int a :: S)) X.here hx rfl rfl (hb hby hd) rfl ((if0 _ _).trans (tlt q).2.2.1) ho ht k) (kt q)
  · skip
    exact go_of (fun _ k => XS.ifNo (g := mkF m pc Ls (.int a :: S)) X.here hx rfl (hb hby hd) rfl ((if0 _ _).trans (flt q).2.2.1) k) (kf q)
theorem w_icmp_le (X : Sd l Z n0 y bytes maxL ret R p e s m args below T h cells slots) {a b : Int32} {i : Int} (pt pf : Nat) (hd : decode bytes pc = .ok (.if_icmp .le i, 3)) (ho : 0 ≤ (pc : Int) + i) (ht : ((pc : Int) + i).toNat = pt) (hf : pf = pc + 3) (kt : ¬ b < a → Go p e below G (T.setTop (mkF m pt Ls S))) (kf : b < a → Go p e below G (T.setTop (mkF m pf Ls S))) : Go p e below G (T.setTop (mkF m pc Ls (.int b :: .int a :: S))) := by
  obtain ⟨meth, c, locs, X, eT, N, hx, hby, hml, hown, hnm, hret, hlk, hZ, hn⟩ := X; subst hf
  by_cases q : ¬ b < a
  · exact go_of (fun _ k => XS.icmpYes (g := mkF m pc Ls (.int b :: .int a :: S)) X.here hx rfl rfl (hb hby hd) rfl (flt q).2.2.2 ho ht k) (kt q)
  · replace q := Decidable.not_not.mp q
    exact go_of (fun _ k => XS.icmpNo (g := mkF m pc Ls (.int b :: .int a :: S)) X.here hx rfl (hb hby hd) rfl (tlt q).2.2.2 k) (kf q)
theorem w_if_le (X : Sd l Z n0 y bytes maxL ret R p e s m args below T h cells slots) {a : Int32} {i : Int} (pt pf : Nat) (hd : decode bytes pc = .ok (.ifCond .le i, 3)) (ho : 0 ≤ (pc : Int) + i) (ht : ((pc : Int) + i).toNat = pt) (hf : pf = pc + 3) (kt : ¬ (0 : Int32) < a → Go p e below G (T.setTop (mkF m pt Ls S))) (kf : (0 : Int32) < a → Go p e below G (T.setTop (mkF m pf Ls S))) : Go p e below G (T.setTop (mkF m pc Ls (.int a :: S))) := by
  obtain ⟨meth, c, locs, X, eT, N, hx, hby, hml, hown, hnm, hret, hlk, hZ, hn⟩ := X; subst hf
  by_cases q : ¬ (0 : Int32) < a
  · exact go_of (fun _ k => XS.ifYes (g := mkF m pc Ls (.int a :: S)) X.here hx rfl rfl (hb hby hd) rfl ((if0 _ _).trans (flt q).2.2.2) ho ht k) (kt q)
  · replace q := Decidable.not_not.mp q
    exact go_of (fun _ k => XS.ifNo (g := mkF m pc Ls (.int a :: S)) X.here hx rfl (hb hby hd) rfl ((if0 _ _).trans (tlt q).2.2.2) k) (kf q)
theorem w_lc_eq (X : Sd l Z n0 y bytes maxL ret R p e s m args below T h cells slots) {a b : Int64} {i : Int} (pt pf : Nat) (hd1 : decode bytes pc = .ok (.lcmp, 1)) (hd : decode bytes (pc + 1) = .ok (.ifCond .eq i, 3)) (ho : 0 ≤ ((pc + 1 : Nat) : Int) + i) (ht : (((pc + 1 : Nat) : Int) + i).toNat = pt) (hf : pf = pc + 4) (kt : a = b → Go p e below G (T.setTop (mkF m pt Ls S))) (kf : ¬ a = b → Go p e below G (T.setTop (mkF m pf Ls S))) : Go p e below G (T.setTop (mkF m pc Ls (.long b :: .long a :: S))) :=
  w_lcmp X hd1 rfl (w_if_eq X pt pf hd ho ht hf (fun q => kt ((lw_eq _ _).mp q)) (fun q => kf (fun z => q ((lw_eq _ _).mpr z))))
theorem w_lc_ne (X : Sd l Z n0 y bytes maxL ret R p e s m args below T h cells slots) {a b : Int64} {i : Int} (pt pf : Nat) (hd1 : decode bytes pc = .ok (.lcmp, 1)) (hd : decode bytes (pc + 1) = .ok (.ifCond .ne i, 3)) (ho : 0 ≤ ((pc + 1 : Nat) : Int) + i) (ht : (((pc + 1 : Nat) : Int) + i).toNat = pt) (hf : pf = pc + 4) (kt : ¬ a = b → Go p e below G (T.setTop (mkF m pt Ls S))) (kf : a = b → Go p e below G (T.setTop (mkF m pf Ls S))) : Go p e below G (T.setTop (mkF m pc Ls (.long b :: .long a :: S))) :=
  w_lcmp X hd1 rfl (w_if_ne X pt pf hd ho ht hf (fun q => kt (fun z => q ((lw_eq _ _).mpr z))) (fun q => kf ((lw_eq _ _).mp q)))
theorem w_lc_lt (X : Sd l Z n0 y bytes maxL ret R p e s m args below T h cells slots) {a b : Int64} {i : Int} (pt pf : Nat) (hd1 : decode bytes pc = .ok (.lcmp, 1)) (hd : decode bytes (pc + 1) = .ok (.ifCond .lt i, 3)) (ho : 0 ≤ ((pc + 1 : Nat) : Int) + i) (ht : (((pc + 1 : Nat) : Int) + i).toNat = pt) (hf : pf = pc + 4) (kt : a < b → Go p e below G (T.setTop (mkF m pt Ls S))) (kf : ¬ a < b → Go p e below G (T.setTop (mkF m pf Ls S))) : Go p e below G (T.setTop (mkF m pc Ls (.long b :: .long a :: S))) :=
  w_lcmp X hd1 rfl (w_if_lt X pt pf hd ho ht hf (fun q => kt ((lw_lt _ _).mp q)) (fun q => kf (fun z => q ((lw_lt _ _).mpr z))))
theorem w_lc_ge (X : Sd l Z n0 y bytes maxL ret R p e s m args below T h cells slots) {a b : Int64} {i : Int} (pt pf : Nat) (hd1 : decode bytes pc = .ok (.lcmp, 1)) (hd : decode bytes (pc + 1) = .ok (.ifCond .ge i, 3)) (ho : 0 ≤ ((pc + 1 : Nat) : Int) + i) (ht : (((pc + 1 : Nat) : Int) + i).toNat = pt) (hf : pf = pc + 4) (kt : ¬ a < b → Go p e below G (T.setTop (mkF m pt Ls S))) (kf : a < b → Go p e below G (T.setTop (mkF m pf Ls S))) : Go p e below G (T.setTop (mkF m pc Ls (.long b :: .long a :: S))) :=
  w_lcmp X hd1 rfl (w_if_ge X pt pf hd ho ht hf (fun q => kt (fun z => q ((lw_lt _ _).mpr z))) (fun q => kf ((lw_lt _ _).mp q)))
theorem w_lc_gt (X : Sd l Z n0 y bytes maxL ret R p e s m args below T h cells slots) {a b : Int64} {i : Int} (pt pf : Nat) (hd1 : decode bytes pc = .ok (.lcmp, 1)) (hd : decode bytes (pc + 1) = .ok (.ifCond .gt i, 3)) (ho : 0 ≤ ((pc + 1 : Nat) : Int) + i) (ht : (((pc + 1 : Nat) : Int) + i).toNat = pt) (hf : pf = pc + 4) (kt : b < a → Go p e below G (T.setTop (mkF m pt Ls S))) (kf : ¬ b < a → Go p e below G (T.setTop (mkF m pf Ls S))) : Go p e below G (T.setTop (mkF m pc Ls (.long b :: .long a :: S))) :=
  w_lcmp X hd1 rfl (w_if_gt X pt pf hd ho ht hf (fun q => kt ((lw_gt _ _).mp q)) (fun q => kf (fun z => q ((lw_gt _ _).mpr z))))
theorem w_lc_le (X : Sd l Z n0 y bytes maxL ret R p e s m args below T h cells slots) {a b : Int64} {i : Int} (pt pf : Nat) (hd1 : decode bytes pc = .ok (.lcmp, 1)) (hd : decode bytes (pc + 1) = .ok (.ifCond .le i, 3)) (ho : 0 ≤ ((pc + 1 : Nat) : Int) + i) (ht : (((pc + 1 : Nat) : Int) + i).toNat = pt) (hf : pf = pc + 4) (kt : ¬ b < a → Go p e below G (T.setTop (mkF m pt Ls S))) (kf : b < a → Go p e below G (T.setTop (mkF m pf Ls S))) : Go p e below G (T.setTop (mkF m pc Ls (.long b :: .long a :: S))) :=
  w_lcmp X hd1 rfl (w_if_le X pt pf hd ho ht hf (fun q => kt (fun z => q ((lw_gt _ _).mpr z))) (fun q => kf ((lw_gt _ _).mp q)))
theorem w_ifnullY (X : Sd l Z n0 y bytes maxL ret R p e s m args below T h cells slots) {i : Int} (hd : decode bytes pc = .ok (.ifnull i, 3)) (ho : 0 ≤ (pc : Int) + i) (hp : ((pc : Int) + i).toNat = pc') (K : Go p e below G (T.setTop (mkF m pc' Ls S))) : Go p e below G (T.setTop (mkF m pc Ls (.null :: S))) := by
  obtain ⟨meth, c, locs, X, eT, N, hx, hby, hml, hown, hnm, hret, hlk, hZ, hn⟩ := X
  exact go_of (fun _ k => XS.ifnullYes (g := mkF m pc Ls (.null :: S)) X.here hx rfl rfl (hb hby hd) rfl ho hp k) K
theorem w_ifnullN (X : Sd l Z n0 y bytes maxL ret R p e s m args below T h cells slots) {b : Addr} {i : Int} (hd : decode bytes pc = .ok (.ifnull i, 3)) (hp : pc' = pc + 3) (K : Go p e below G (T.setTop (mkF m pc' Ls S))) : Go p e below G (T.setTop (mkF m pc Ls (.ref b :: S))) := by
  obtain ⟨meth, c, locs, X, eT, N, hx, hby, hml, hown, hnm, hret, hlk, hZ, hn⟩ := X; subst hp
  exact go_of (fun _ k => XS.ifnullNo (g := mkF m pc Ls (.ref b :: S)) X.here hx rfl (hb hby hd) rfl k) K
theorem w_ifnonnullY (X : Sd l Z n0 y bytes maxL ret R p e s m args below T h cells slots) {b : Addr} {i : Int} (hd : decode bytes pc = .ok (.ifnonnull i, 3)) (ho : 0 ≤ (pc : Int) + i) (hp : ((pc : Int) + i).toNat = pc') (K : Go p e below G (T.setTop (mkF m pc' Ls S))) : Go p e below G (T.setTop (mkF m pc Ls (.ref b :: S))) := by
  obtain ⟨meth, c, locs, X, eT, N, hx, hby, hml, hown, hnm, hret, hlk, hZ, hn⟩ := X
  exact go_of (fun _ k => XS.ifnonnullYes (g := mkF m pc Ls (.ref b :: S)) X.here hx rfl rfl (hb hby hd) rfl ho hp k) K
theorem w_ifnonnullN (X : Sd l Z n0 y bytes maxL ret R p e s m args below T h cells slots) {i : Int} (hd : decode bytes pc = .ok (.ifnonnull i, 3)) (hp : pc' = pc + 3) (K : Go p e below G (T.setTop (mkF m pc' Ls S))) : Go p e below G (T.setTop (mkF m pc Ls (.null :: S))) := by
  obtain ⟨meth, c, locs, X, eT, N, hx, hby, hml, hown, hnm, hret, hlk, hZ, hn⟩ := X; subst hp
  exact go_of (fun _ k => XS.ifnonnullNo (g := mkF m pc Ls (.null :: S)) X.here hx rfl (hb hby hd) rfl k) K
theorem w_acmp_eq (X : Sd l Z n0 y bytes maxL ret R p e s m args below T h cells slots) {v w : Value} (hv : v.isRef = true) (hw : w.isRef = true) {i : Int} (pt pf : Nat) (hd : decode bytes pc = .ok (.if_acmp .eq i, 3)) (ho : 0 ≤ (pc : Int) + i) (ht : ((pc : Int) + i).toNat = pt) (hf : pf = pc + 3) (kt : v = w → Go p e below G (T.setTop (mkF m pt Ls S))) (kf : ¬ v = w → Go p e below G (T.setTop (mkF m pf Ls S))) : Go p e below G (T.setTop (mkF m pc Ls (w :: v :: S))) := by
  obtain ⟨meth, c, locs, X, eT, N, hx, hby, hml, hown, hnm, hret, hlk, hZ, hn⟩ := X; subst hf ht
  by_cases q : v = w
  · exact go_of (fun _ k => Jvm.RoadKit.acmp (g := mkF m pc Ls (w :: v :: S)) X hx rfl hv hw (same := true) rfl (hb hby hd) rfl (decide_eq_true q) ho rfl k) (kt q)
  · exact go_of (fun _ k => Jvm.RoadKit.acmp (g := mkF m pc Ls (w :: v :: S)) X hx rfl hv hw (same := false) rfl (hb hby hd) rfl (decide_eq_false q) ho rfl k) (kf q)
theorem w_acmp_ne (X : Sd l Z n0 y bytes maxL ret R p e s m args below T h cells slots) {v w : Value} (hv : v.isRef = true) (hw : w.isRef = true) {i : Int} (pt pf : Nat) (hd : decode bytes pc = .ok (.if_acmp .ne i, 3)) (ho : 0 ≤ (pc : Int) + i) (ht : ((pc : Int) + i).toNat = pt) (hf : pf = pc + 3) (kt : ¬ v = w → Go p e below G (T.setTop (mkF m pt Ls S))) (kf : v = w → Go p e below G (T.setTop (mkF m pf Ls S))) : Go p e below G (T.setTop (mkF m pc Ls (w :: v :: S))) := by
  obtain ⟨meth, c, locs, X, eT, N, hx, hby, hml, hown, hnm, hret, hlk, hZ, hn⟩ := X; subst hf ht
  by_cases q : v = w
  · exact go_of (fun _ k => Jvm.RoadKit.acmp (g := mkF m pc Ls (w :: v :: S)) X hx rfl hv hw (same := true) rfl (hb hby hd) rfl (decide_eq_true q) ho rfl k) (kf q)
  · exact go_of (fun _ k => Jvm.RoadKit.acmp (g := mkF m pc Ls (w :: v :: S)) X hx rfl hv hw (same := false) rfl (hb hby hd) rfl (decide_eq_false q) ho rfl k) (kt q)
theorem w_ldc (X : Sd l Z n0 y bytes maxL ret R p e s m args below T h cells slots) {i : Nat} {v : Int32} (hd : decode bytes pc = .ok (.ldc i, 2)) (w : (Jvm.Cond.constant y.cls i v).before a0 Z = true) (hp : pc' = pc + 2) (K : Go p e below G (T.setTop (mkF m pc' Ls (.int v :: S)))) : Go p e below G (T.setTop (mkF m pc Ls S)) := by
  obtain ⟨meth, c, locs, X, eT, N, hx, hby, hml, hown, hnm, hret, hlk, hZ, hn⟩ := X; subst hp
  exact go_of (X.ldcInt hx hown (mvT hZ w) (g := mkF m pc Ls S) rfl (hb hby hd)) K
theorem w_ldc2 (X : Sd l Z n0 y bytes maxL ret R p e s m args below T h cells slots) {i : Nat} {v : Int64} (hd : decode bytes pc = .ok (.ldc2_w i, 3)) (w : (Jvm.Cond.constantLong y.cls i v).before a0 Z = true) (hp : pc' = pc + 3) (K : Go p e below G (T.setTop (mkF m pc' Ls (.long v :: S)))) : Go p e below G (T.setTop (mkF m pc Ls S)) := by
  obtain ⟨meth, c, locs, X, eT, N, hx, hby, hml, hown, hnm, hret, hlk, hZ, hn⟩ := X; subst hp
  exact go_of (X.ldc2Long hx hown (mvT hZ w) (g := mkF m pc Ls S) rfl (hb hby hd)) K
theorem w_getfield (X : Sd l Z n0 y bytes maxL ret R p e s m args below T h cells slots) {i : Nat} {R0 O n d : String} {a : Addr} {v : Value} (hd : decode bytes pc = .ok (.getfield i, 3)) {host : String} (w : (Jvm.Cond.fieldLink y.cls i R0 n d).before a0 Z = true ∨ (Jvm.Cond.fieldLinkNest y.cls i R0 n d host).before a0 Z = true) (via : Via Z R0 O n d) (F : Fld Z h a O n d v) (hp : pc' = pc + 3) (K : ∀ T', Sd l Z n0 y bytes maxL ret R p e s m args below T' h cells slots → Go p e below G (T'.setTop (mkF m (pc') Ls (v :: S)))) : Go p e below G (T.setTop (mkF m pc Ls (.ref a :: S))) := by
  obtain ⟨meth, c, locs, X, eT, N, hx, hby, hml, hown, hnm, hret, hlk, hZ, hn⟩ := X; subst hp
  obtain ⟨T', X', e', st⟩ := getF X hx hZ hown w via eT F (g := mkF m pc Ls (.ref a :: S)) rfl rfl (hb hby hd)
  exact go_of st (K T' ⟨meth, c, _, X', e', N, hx, hby, hml, hown, hnm, hret, hlk, hZ, hn⟩)
theorem w_getstatic (X : Sd l Z n0 y bytes maxL ret R p e s m args below T h cells slots) {i : Nat} {R0 O n d : String} {v : Value} (hd : decode bytes pc = .ok (.getstatic i, 3)) {host : String} (w : (Jvm.Cond.fieldLink y.cls i R0 n d).before a0 Z = true ∨ (Jvm.Cond.fieldLinkNest y.cls i R0 n d host).before a0 Z = true) (via : Via Z R0 O n d) (F : Sta Z h O n d v) (hp : pc' = pc + 3) (K : ∀ T', Sd l Z n0 y bytes maxL ret R p e s m args below T' h cells slots → Go p e below G (T'.setTop (mkF m (pc') Ls (v :: S)))) : Go p e below G (T.setTop (mkF m pc Ls S)) := by
  obtain ⟨meth, c, locs, X, eT, N, hx, hby, hml, hown, hnm, hret, hlk, hZ, hn⟩ := X; subst hp
  obtain ⟨T', X', e', st⟩ := getS2 X hx hZ hown w via eT F (g := mkF m pc Ls S) rfl (hb hby hd)
  exact go_of st (K T' ⟨meth, c, _, X', e', N, hx, hby, hml, hown, hnm, hret, hlk, hZ, hn⟩)
theorem w_putfield (X : Sd l Z n0 y bytes maxL ret R p e s m args below T h cells slots) {i kk : Nat} {R0 O n d C : String} {ty : FieldType} {a : Addr} {v old : Value} (hd : decode bytes pc = .ok (.putfield i, 3)) {host : String} (w : (Jvm.Cond.fieldLink y.cls i R0 n d).before a0 Z = true ∨ (Jvm.Cond.fieldLinkNest y.cls i R0 n d host).before a0 Z = true) (via : Via Z R0 O n d) (F : Fld Z h a O n d old) (E : Exa Z h a C) (L : (Jvm.Cond.lays C O n d).before a0 Z = true ∨ ((Jvm.Cond.laysFinal C O n d).before a0 Z = true ∧ y.cls = O ∧ y.name = "<init>")) (wi : (Jvm.Cond.instantiable C kk).before a0 Z = true) (hty : parseFieldDescriptor d = some ty) (hna : narrow ty v = v) (hfi : fits ty v = true) (hg : n0 ≤ a) (hp : pc' = pc + 3) (K : ∀ T' h', Sd l Z n0 y bytes maxL ret R p e s m args below T' h' cells slots → Wr h h' a (Jvm.RoadKit.slotOf Z O n d) v → Fld Z h' a O n d v → Go p e below G (T'.setTop (mkF m (pc') Ls S))) : Go p e below G (T.setTop (mkF m pc Ls (v :: .ref a :: S))) := by
  obtain ⟨meth, c, locs, X, eT, N, hx, hby, hml, hown, hnm, hret, hlk, hZ, hn⟩ := X; subst hp
  obtain ⟨T', h', X', e', W, st⟩ := putF X hx hZ hown w via eT F E (L.imp id fun q => ⟨q.1, q.2.1, hnm.trans q.2.2⟩) wi hty hna hfi (g := mkF m pc Ls (v :: .ref a :: S)) rfl rfl (hb hby hd)
  exact go_of st (K T' h' ⟨meth, c, _, X', e', Fr.snoc X' N hg, hx, hby, hml, hown, hnm, hret, hlk, hZ, hn⟩ W (F.same W))
theorem w_putfieldN (X : Sd l Z n0 y bytes maxL ret R p e s m args below T h cells slots) {i kk : Nat} {R0 O n d C : String} {ty : FieldType} {a : Addr} {v v' old : Value} (hd : decode bytes pc = .ok (.putfield i, 3)) (w : (Jvm.Cond.fieldLink y.cls i R0 n d).before a0 Z = true) (via : Via Z R0 O n d) (F : Fld Z h a O n d old) (E : Exa Z h a C) (L : (Jvm.Cond.lays C O n d).before a0 Z = true ∨ ((Jvm.Cond.laysFinal C O n d).before a0 Z = true ∧ y.cls = O ∧ y.name = "<init>")) (wi : (Jvm.Cond.instantiable C kk).before a0 Z = true) (hty : parseFieldDescriptor d = some ty) (hna : narrow ty v = v') (hfi : fits ty v' = true) (hg : n0 ≤ a) (hp : pc' = pc + 3) (K : ∀ T' h', Sd l Z n0 y bytes maxL ret R p e s m args below T' h' cells slots → Wr h h' a (Jvm.RoadKit.slotOf Z O n d) v' → Fld Z h' a O n d v' → Go p e below G (T'.setTop (mkF m (pc') Ls S))) : Go p e below G (T.setTop (mkF m pc Ls (v :: .ref a :: S))) := by
  obtain ⟨meth, c, locs, X, eT, N, hx, hby, hml, hown, hnm, hret, hlk, hZ, hn⟩ := X; subst hp
  obtain ⟨T', h', X', e', W, st⟩ := putFN X hx hZ hown w via eT F E (L.imp id fun q => ⟨q.1, q.2.1, hnm.trans q.2.2⟩) wi hty hna hfi (g := mkF m pc Ls (v :: .ref a :: S)) rfl rfl (hb hby hd)
  exact go_of st (K T' h' ⟨meth, c, _, X', e', Fr.snoc X' N hg, hx, hby, hml, hown, hnm, hret, hlk, hZ, hn⟩ W (F.same W))
theorem w_new (X : Sd l Z n0 y bytes maxL ret R p e s m args below T h cells slots) {i n : Nat} {C : String} (hd : decode bytes pc = .ok (.new i, 3)) (w : (Jvm.Cond.classLink y.cls i C).before a0 Z = true) (wi : (Jvm.Cond.instantiable C n).before a0 Z = true) (wz : (Jvm.Cond.initialized C).before a0 Z = true) (hc : cells + 1 ≤ R.cells) (hl : slots + n ≤ R.slots) (hp : pc' = pc + 3)
    (K : ∀ T' h' b, b = h.size → n0 ≤ b → Sd l Z n0 y bytes maxL ret R p e s m args below T' h' (cells + 1) (slots + n) → Ext h h' → Exa Z h' b C → (∀ {O nm d : String} {ty : FieldType}, Laid Z a0 C O nm d → parseFieldDescriptor d = some ty → Fld Z h' b O nm d (defaultValue ty)) → Go p e below G (T'.setTop (mkF m (pc') Ls (.ref b :: S)))) : Go p e below G (T.setTop (mkF m pc Ls S)) := by
  have hsz := sd_size X
  obtain ⟨meth, c, locs, X, eT, N, hx, hby, hml, hown, hnm, hret, hlk, hZ, hn⟩ := X; subst hp
  obtain ⟨T', h', X', e', E', A', D', -, st⟩ := newO X hx hZ hown w wi wz eT (g := mkF m pc Ls S) rfl (hb hby hd) hc hl
  exact go_of st (K T' h' _ rfl hsz ⟨meth, c, _, X', e', N, hx, hby, hml, hown, hnm, hret, hlk, hZ, hn⟩ E' A' D')
/-- an array of n places, the i-th holding f i -/
def Ary (Z : State) (h : Heap) (a : Addr) (ty : FieldType) (n : Nat) (f : Nat → Value) : Prop := ∃ c : Cell, Arr Z h a c ty ∧ c.slots.size = n ∧ n < 2 ^ 31 ∧ ∀ i, i < n → c.slots[i]? = some (f i)
def upd (f : Nat → Value) (i : Nat) (v : Value) : Nat → Value := fun j => if j = i then v else f j
theorem upd_same (f : Nat → Value) (i : Nat) (v : Value) : upd f i v i = v := if_pos rfl
theorem upd_other (f : Nat → Value) {i j : Nat} (v : Value) (q : j ≠ i) : upd f i v j = f j := if_neg q
theorem Ary.lt {a : Addr} {ty : FieldType} {n : Nat} {f : Nat → Value} (A : Ary Z h a ty n f) : a < h.size := by obtain ⟨c, A, -⟩ := A; exact A.lt
theorem Ary.ext {h' : Heap} {a : Addr} {ty : FieldType} {n : Nat} {f : Nat → Value} (A : Ary Z h a ty n f) (E : Ext h h') : Ary Z h' a ty n f := by obtain ⟨c, A, r⟩ := A; exact ⟨c, A.ext E, r⟩
theorem Ary.keep {h' : Heap} {a : Addr} {ty : FieldType} {n : Nat} {f : Nat → Value} {ws : List Addr} (A : Ary Z h a ty n f) (K : Keep h h' ws) (q : a ∉ ws) : Ary Z h' a ty n f := by obtain ⟨c, A, r⟩ := A; exact ⟨c, ⟨K.2.1 a c A.1 q, A.2⟩, r⟩
theorem Ary.other {h' : Heap} {a b : Addr} {sl : Nat} {v : Value} {ty : FieldType} {n : Nat} {f : Nat → Value} (A : Ary Z h a ty n f) (W : Wr h h' b sl v) (q : a ≠ b) : Ary Z h' a ty n f := by obtain ⟨c, A, r⟩ := A; exact ⟨c, A.other W q, r⟩
theorem Ary.congr {a : Addr} {ty : FieldType} {n : Nat} {f g : Nat → Value} (A : Ary Z h a ty n f) (q : ∀ i, i < n → f i = g i) : Ary Z h a ty n g := by obtain ⟨c, A, r1, r2, r3⟩ := A; exact ⟨c, A, r1, r2, fun i hi => by rw [r3 i hi, q i hi]⟩
theorem Ary.set {h' : Heap} {a : Addr} {ty : FieldType} {n i : Nat} {v : Value} {f : Nat → Value} (A : Ary Z h a ty n f) (W : Wr h h' a i v) (hi : i < n) : Ary Z h' a ty n (upd f i v) := by
  obtain ⟨c, A, rfl, r2, r3⟩ := A
  refine ⟨c.setSlot i v, A.same W, sz_set _ _ _, r2, fun j hj => ?_⟩
  by_cases q : j = i
  · subst q; simp [Cell.setSlot, hj, upd]
  · rw [upd_other f v q, ← r3 j hj]; exact Array.getElem?_setIfInBounds_ne (Ne.symm q)
theorem nat_at {j : Int32} {i : Nat} (hj : j.toInt = (i : Int)) : j.toNatClampNeg = i ∧ ¬ j < 0 := by
  constructor
  · simp only [Int32.toNatClampNeg, hj]; omega
  · simp only [Int32.lt_iff_toInt_lt, Int32.reduceToInt, hj]; omega
theorem in_at {j : Int32} {i n : Nat} {c : Cell} (hj : j.toInt = (i : Int)) (hn : c.slots.size = n) (hi : i < n) : ¬ (j < 0 ∨ c.slots.size ≤ j.toNatClampNeg) := by
  obtain ⟨q1, q2⟩ := nat_at hj
  rw [q1]; rintro (q | q)
  · exact q2 q
  · omega
theorem w_arraylength (X : Sd l Z n0 y bytes maxL ret R p e s m args below T h cells slots) {a : Addr} {ty : FieldType} {n : Nat} {f : Nat → Value} (z : Int32) (hd : decode bytes pc = .ok (.arraylength, 1)) (A : Ary Z h a ty n f) (hz : z.toInt = (n : Int)) (hp : pc' = pc + 1) (K : Go p e below G (T.setTop (mkF m pc' Ls (.int z :: S)))) : Go p e below G (T.setTop (mkF m pc Ls (.ref a :: S))) := by
  obtain ⟨meth, c, locs, X, eT, N, hx, hby, hml, hown, hnm, hret, hlk, hZ, hn⟩ := X; subst hp
  obtain ⟨cl, A, r1, r2, -⟩ := A
  have ez : cl.slots.size.toInt32 = z := Int32.toInt_inj.mp (by rw [r1, len_toInt r2, hz])
  exact go_of (fun t k => X.arraylength hx (by rw [eT]; exact A.1) (State.isArrayOf_alike hZ.alike A.2.1) (g := mkF m pc Ls (.ref a :: S)) rfl rfl (hb hby hd) t (by rw [ez]; exact k)) K
theorem w_iaload (X : Sd l Z n0 y bytes maxL ret R p e s m args below T h cells slots) {a : Addr} {n : Nat} {f : Nat → Value} {j : Int32} (i : Nat) {v : Value} (hd : decode bytes pc = .ok (.iaload, 1)) (A : Ary Z h a .int n f) (hj : j.toInt = (i : Int)) (hi : i < n) (hv : f i = v) (hp : pc' = pc + 1) (K : Go p e below G (T.setTop (mkF m pc' Ls (v :: S)))) : Go p e below G (T.setTop (mkF m pc Ls (.int j :: .ref a :: S))) := by
  obtain ⟨meth, c, locs, X, eT, N, hx, hby, hml, hown, hnm, hret, hlk, hZ, hn⟩ := X; subst hp
  obtain ⟨cl, A, r1, r2, r3⟩ := A
  exact go_of (fun t k => X.iaload hx (j := j) (v := v) (by rw [eT]; exact A.1) (State.isArrayOf_alike hZ.alike A.2.1) A.2.2 (in_at hj r1 hi) (by rw [(nat_at hj).1, r3 i hi, hv]) (g := mkF m pc Ls (.int j :: .ref a :: S)) rfl rfl (hb hby hd) t k) K
theorem w_laload (X : Sd l Z n0 y bytes maxL ret R p e s m args below T h cells slots) {a : Addr} {n : Nat} {f : Nat → Value} {j : Int32} (i : Nat) {v : Value} (hd : decode bytes pc = .ok (.laload, 1)) (A : Ary Z h a .long n f) (hj : j.toInt = (i : Int)) (hi : i < n) (hv : f i = v) (hp : pc' = pc + 1) (K : Go p e below G (T.setTop (mkF m pc' Ls (v :: S)))) : Go p e below G (T.setTop (mkF m pc Ls (.int j :: .ref a :: S))) := by
  obtain ⟨meth, c, locs, X, eT, N, hx, hby, hml, hown, hnm, hret, hlk, hZ, hn⟩ := X; subst hp
  obtain ⟨cl, A, r1, r2, r3⟩ := A
  exact go_of (fun t k => X.laload hx (j := j) (v := v) (by rw [eT]; exact A.1) (State.isArrayOf_alike hZ.alike A.2.1) A.2.2 (in_at hj r1 hi) (by rw [(nat_at hj).1, r3 i hi, hv]) (g := mkF m pc Ls (.int j :: .ref a :: S)) rfl rfl (hb hby hd) t k) K
theorem w_caload (X : Sd l Z n0 y bytes maxL ret R p e s m args below T h cells slots) {a : Addr} {n : Nat} {f : Nat → Value} {j : Int32} (i : Nat) {v : Value} (hd : decode bytes pc = .ok (.caload, 1)) (A : Ary Z h a .char n f) (hj : j.toInt = (i : Int)) (hi : i < n) (hv : f i = v) (hp : pc' = pc + 1) (K : Go p e below G (T.setTop (mkF m pc' Ls (v :: S)))) : Go p e below G (T.setTop (mkF m pc Ls (.int j :: .ref a :: S))) := by
  obtain ⟨meth, c, locs, X, eT, N, hx, hby, hml, hown, hnm, hret, hlk, hZ, hn⟩ := X; subst hp
  obtain ⟨cl, A, r1, r2, r3⟩ := A
  exact go_of (fun t k => X.caload hx (j := j) (v := v) (by rw [eT]; exact A.1) (State.isArrayOf_alike hZ.alike A.2.1) A.2.2 (in_at hj r1 hi) (by rw [(nat_at hj).1, r3 i hi, hv]) (g := mkF m pc Ls (.int j :: .ref a :: S)) rfl rfl (hb hby hd) t k) K
theorem w_baload (X : Sd l Z n0 y bytes maxL ret R p e s m args below T h cells slots) {a : Addr} {n : Nat} {f : Nat → Value} {j : Int32} (i : Nat) {v : Value} (hd : decode bytes pc = .ok (.baload, 1)) (A : Ary Z h a .byte n f) (hj : j.toInt = (i : Int)) (hi : i < n) (hv : f i = v) (hp : pc' = pc + 1) (K : Go p e below G (T.setTop (mkF m pc' Ls (v :: S)))) : Go p e below G (T.setTop (mkF m pc Ls (.int j :: .ref a :: S))) := by
  obtain ⟨meth, c, locs, X, eT, N, hx, hby, hml, hown, hnm, hret, hlk, hZ, hn⟩ := X; subst hp
  obtain ⟨cl, A, r1, r2, r3⟩ := A
  exact go_of (fun t k => X.baloadBytes hx (j := j) (v := v) (by rw [eT]; exact A.1) (State.isArrayOf_alike hZ.alike A.2.1) A.2.2 (in_at hj r1 hi) (by rw [(nat_at hj).1, r3 i hi, hv]) (g := mkF m pc Ls (.int j :: .ref a :: S)) rfl rfl (hb hby hd) t k) K
theorem w_aaload (X : Sd l Z n0 y bytes maxL ret R p e s m args below T h cells slots) {a : Addr} {ty : FieldType} {n : Nat} {f : Nat → Value} {j : Int32} (i : Nat) {v : Value} (hd : decode bytes pc = .ok (.aaload, 1)) (A : Ary Z h a ty n f) (hty : ty.isReference = true) (hj : j.toInt = (i : Int)) (hi : i < n) (hv : f i = v) (hp : pc' = pc + 1) (K : Go p e below G (T.setTop (mkF m pc' Ls (v :: S)))) : Go p e below G (T.setTop (mkF m pc Ls (.int j :: .ref a :: S))) := by
  obtain ⟨meth, c, locs, X, eT, N, hx, hby, hml, hown, hnm, hret, hlk, hZ, hn⟩ := X; subst hp
  obtain ⟨cl, A, r1, r2, r3⟩ := A
  exact go_of (fun t k => X.aaload hx (j := j) (v := v) (by rw [eT]; exact A.1) (State.isArrayOf_alike hZ.alike A.2.1) hty A.2.2 (in_at hj r1 hi) (by rw [(nat_at hj).1, r3 i hi, hv]) (g := mkF m pc Ls (.int j :: .ref a :: S)) rfl rfl (hb hby hd) t k) K
theorem w_iastore (X : Sd l Z n0 y bytes maxL ret R p e s m args below T h cells slots) {a : Addr} {n : Nat} {f : Nat → Value} {j : Int32} (i : Nat) {v : Int32} (hd : decode bytes pc = .ok (.iastore, 1)) (A : Ary Z h a .int n f) (hj : j.toInt = (i : Int)) (hi : i < n) (hg : n0 ≤ a) (hp : pc' = pc + 1) (K : ∀ T' h', Sd l Z n0 y bytes maxL ret R p e s m args below T' h' cells slots → Wr h h' a i (.int v) → Ary Z h' a .int n (upd f i (.int v)) → Go p e below G (T'.setTop (mkF m (pc') Ls S))) : Go p e below G (T.setTop (mkF m pc Ls (.int v :: .int j :: .ref a :: S))) := by
  obtain ⟨meth, c, locs, X, eT, N, hx, hby, hml, hown, hnm, hret, hlk, hZ, hn⟩ := X; subst hp
  have A0 := A
  obtain ⟨cl, A, r1, r2, r3⟩ := A
  obtain ⟨T', h', X', e', W, st⟩ := stI X hx hZ eT A (j := j) (in_at hj r1 hi) (g := mkF m pc Ls (.int v :: .int j :: .ref a :: S)) rfl rfl (hb hby hd)
  rw [(nat_at hj).1] at W X'
  exact go_of st (K T' h' ⟨meth, c, _, X', e', Fr.snoc X' N hg, hx, hby, hml, hown, hnm, hret, hlk, hZ, hn⟩ W (A0.set W hi))
theorem w_lastore (X : Sd l Z n0 y bytes maxL ret R p e s m args below T h cells slots) {a : Addr} {n : Nat} {f : Nat → Value} {j : Int32} (i : Nat) {v : Int64} (hd : decode bytes pc = .ok (.lastore, 1)) (A : Ary Z h a .long n f) (hj : j.toInt = (i : Int)) (hi : i < n) (hg : n0 ≤ a) (hp : pc' = pc + 1) (K : ∀ T' h', Sd l Z n0 y bytes maxL ret R p e s m args below T' h' cells slots → Wr h h' a i (.long v) → Ary Z h' a .long n (upd f i (.long v)) → Go p e below G (T'.setTop (mkF m (pc') Ls S))) : Go p e below G (T.setTop (mkF m pc Ls (.long v :: .int j :: .ref a :: S))) := by
  obtain ⟨meth, c, locs, X, eT, N, hx, hby, hml, hown, hnm, hret, hlk, hZ, hn⟩ := X; subst hp
  have A0 := A
  obtain ⟨cl, A, r1, r2, r3⟩ := A
  obtain ⟨T', h', X', e', W, st⟩ := stJ X hx hZ eT A (j := j) (in_at hj r1 hi) (g := mkF m pc Ls (.long v :: .int j :: .ref a :: S)) rfl rfl (hb hby hd)
  rw [(nat_at hj).1] at W X'
  exact go_of st (K T' h' ⟨meth, c, _, X', e', Fr.snoc X' N hg, hx, hby, hml, hown, hnm, hret, hlk, hZ, hn⟩ W (A0.set W hi))
theorem w_castore (X : Sd l Z n0 y bytes maxL ret R p e s m args below T h cells slots) {a : Addr} {n : Nat} {f : Nat → Value} {j : Int32} (i : Nat) {v : Int32} (hd : decode bytes pc = .ok (.castore, 1)) (A : Ary Z h a .char n f) (hj : j.toInt = (i : Int)) (hi : i < n) (hg : n0 ≤ a) (hp : pc' = pc + 1) (K : ∀ T' h', Sd l Z n0 y bytes maxL ret R p e s m args below T' h' cells slots → Wr h h' a i (.int (nar .char v)) → Ary Z h' a .char n (upd f i (.int (nar .char v))) → Go p e below G (T'.setTop (mkF m (pc') Ls S))) : Go p e below G (T.setTop (mkF m pc Ls (.int v :: .int j :: .ref a :: S))) := by
  obtain ⟨meth, c, locs, X, eT, N, hx, hby, hml, hown, hnm, hret, hlk, hZ, hn⟩ := X; subst hp
  have A0 := A
  obtain ⟨cl, A, r1, r2, r3⟩ := A
  obtain ⟨T', h', X', e', W, st⟩ := stC X hx hZ eT A (j := j) (in_at hj r1 hi) (g := mkF m pc Ls (.int v :: .int j :: .ref a :: S)) rfl rfl (hb hby hd)
  rw [(nat_at hj).1] at W X'
  exact go_of st (K T' h' ⟨meth, c, _, X', e', Fr.snoc X' N hg, hx, hby, hml, hown, hnm, hret, hlk, hZ, hn⟩ W (A0.set W hi))
theorem w_bastore (X : Sd l Z n0 y bytes maxL ret R p e s m args below T h cells slots) {a : Addr} {n : Nat} {f : Nat → Value} {j : Int32} (i : Nat) {v : Int32} (hd : decode bytes pc = .ok (.bastore, 1)) (A : Ary Z h a .byte n f) (hj : j.toInt = (i : Int)) (hi : i < n) (hg : n0 ≤ a) (hp : pc' = pc + 1) (K : ∀ T' h', Sd l Z n0 y bytes maxL ret R p e s m args below T' h' cells slots → Wr h h' a i (.int (nar .byte v)) → Ary Z h' a .byte n (upd f i (.int (nar .byte v))) → Go p e below G (T'.setTop (mkF m (pc') Ls S))) : Go p e below G (T.setTop (mkF m pc Ls (.int v :: .int j :: .ref a :: S))) := by
  obtain ⟨meth, c, locs, X, eT, N, hx, hby, hml, hown, hnm, hret, hlk, hZ, hn⟩ := X; subst hp
  have A0 := A
  obtain ⟨cl, A, r1, r2, r3⟩ := A
  obtain ⟨T', h', X', e', W, st⟩ := stB X hx hZ eT A (j := j) (in_at hj r1 hi) (g := mkF m pc Ls (.int v :: .int j :: .ref a :: S)) rfl rfl (hb hby hd)
  rw [(nat_at hj).1] at W X'
  exact go_of st (K T' h' ⟨meth, c, _, X', e', Fr.snoc X' N hg, hx, hby, hml, hown, hnm, hret, hlk, hZ, hn⟩ W (A0.set W hi))
theorem w_zastore (X : Sd l Z n0 y bytes maxL ret R p e s m args below T h cells slots) {a : Addr} {n : Nat} {f : Nat → Value} {j : Int32} (i : Nat) {v : Int32} (hd : decode bytes pc = .ok (.bastore, 1)) (A : Ary Z h a .boolean n f) (hj : j.toInt = (i : Int)) (hi : i < n) (hg : n0 ≤ a) (hp : pc' = pc + 1) (K : ∀ T' h', Sd l Z n0 y bytes maxL ret R p e s m args below T' h' cells slots → Wr h h' a i (.int (nar .boolean v)) → Ary Z h' a .boolean n (upd f i (.int (nar .boolean v))) → Go p e below G (T'.setTop (mkF m (pc') Ls S))) : Go p e below G (T.setTop (mkF m pc Ls (.int v :: .int j :: .ref a :: S))) := by
  obtain ⟨meth, c, locs, X, eT, N, hx, hby, hml, hown, hnm, hret, hlk, hZ, hn⟩ := X; subst hp
  have A0 := A
  obtain ⟨cl, A, r1, r2, r3⟩ := A
  obtain ⟨T', h', X', e', W, st⟩ := stZ X hx hZ eT A (j := j) (in_at hj r1 hi) (g := mkF m pc Ls (.int v :: .int j :: .ref a :: S)) rfl rfl (hb hby hd)
  rw [(nat_at hj).1] at W X'
  exact go_of st (K T' h' ⟨meth, c, _, X', e', Fr.snoc X' N hg, hx, hby, hml, hown, hnm, hret, hlk, hZ, hn⟩ W (A0.set W hi))
theorem w_aastore (X : Sd l Z n0 y bytes maxL ret R p e s m args below T h cells slots) {a : Addr} {ty : FieldType} {n : Nat} {f : Nat → Value} {j : Int32} (i : Nat) {v : Value} (hd : decode bytes pc = .ok (.aastore, 1)) (A : Ary Z h a ty n f) (hty : ty.isReference = true) (F : Sto Z h a v) (hj : j.toInt = (i : Int)) (hi : i < n) (hg : n0 ≤ a) (hp : pc' = pc + 1) (K : ∀ T' h', Sd l Z n0 y bytes maxL ret R p e s m args below T' h' cells slots → Wr h h' a i v → Ary Z h' a ty n (upd f i v) → Go p e below G (T'.setTop (mkF m (pc') Ls S))) : Go p e below G (T.setTop (mkF m pc Ls (v :: .int j :: .ref a :: S))) := by
  obtain ⟨meth, c, locs, X, eT, N, hx, hby, hml, hown, hnm, hret, hlk, hZ, hn⟩ := X; subst hp
  have A0 := A
  obtain ⟨cl, A, r1, r2, r3⟩ := A
  obtain ⟨T', h', X', e', W, st⟩ := stR X hx hZ eT A (j := j) (in_at hj r1 hi) hty F (g := mkF m pc Ls (v :: .int j :: .ref a :: S)) rfl rfl (hb hby hd)
  rw [(nat_at hj).1] at W X'
  exact go_of st (K T' h' ⟨meth, c, _, X', e', Fr.snoc X' N hg, hx, hby, hml, hown, hnm, hret, hlk, hZ, hn⟩ W (A0.set W hi))
theorem w_newarray (X : Sd l Z n0 y bytes maxL ret R p e s m args below T h cells slots) {aty : ArrayType} {z : Int32} (n cap : Nat) (hd : decode bytes pc = .ok (.newarray aty, 2)) (w : (Jvm.Cond.arrayClass (newarray.typeOf aty)).before a0 Z = true) (hz : z.toInt = (n : Int)) (hcap : n ≤ cap) (hb8 : cap * 8 ≤ 536870912) (hc : cells + 1 ≤ R.cells) (hl : slots + cap ≤ R.slots) (hp : pc' = pc + 2)
    (K : ∀ T' h' b, b = h.size → n0 ≤ b → Sd l Z n0 y bytes maxL ret R p e s m args below T' h' (cells + 1) (slots + cap) → Ext h h' → Ary Z h' b (newarray.typeOf aty) n (fun _ => defaultValue (newarray.typeOf aty)) → Go p e below G (T'.setTop (mkF m (pc') Ls (.ref b :: S)))) : Go p e below G (T.setTop (mkF m pc Ls (.int z :: S))) := by
  have hsz := sd_size X
  obtain ⟨meth, c, locs, X, eT, N, hx, hby, hml, hown, hnm, hret, hlk, hZ, hn⟩ := X; subst hp
  obtain ⟨q1, q2⟩ := nat_at hz
  obtain ⟨T', h', cA, X', e', E', A', st⟩ := newP X hx hZ w eT (g := mkF m pc Ls (.int z :: S)) rfl (hb hby hd) rfl q2 (cap := cap) (by rw [q1]; exact hcap) hb8 hc hl
  refine go_of st (K T' h' _ rfl hsz ⟨meth, c, _, X', e', N, hx, hby, hml, hown, hnm, hret, hlk, hZ, hn⟩ E' ⟨_, A', (sz_new _ _ _).trans q1, by rw [← q1]; exact (back32 q2).2, fun i hi => ?_⟩)
  simp [newA, q1, hi]
theorem w_anewarray (X : Sd l Z n0 y bytes maxL ret R p e s m args below T h cells slots) {i : Nat} {C : String} {z : Int32} (n cap : Nat) (hd : decode bytes pc = .ok (.anewarray i, 3)) (w1 : (Jvm.Cond.classLink y.cls i C).before a0 Z = true) (w2 : (Jvm.Cond.arrayOver (.object C)).before a0 Z = true) (hz : z.toInt = (n : Int)) (hcap : n ≤ cap) (hb8 : cap * 8 ≤ 536870912) (hc : cells + 1 ≤ R.cells) (hl : slots + cap ≤ R.slots) (hp : pc' = pc + 3)
    (K : ∀ T' h' b, b = h.size → n0 ≤ b → Sd l Z n0 y bytes maxL ret R p e s m args below T' h' (cells + 1) (slots + cap) → Ext h h' → (∃ cl, Arr Z h' b cl (.object C) ∧ Ovr Z cl.cls C) → Ary Z h' b (.object C) n (fun _ => .null) → Go p e below G (T'.setTop (mkF m (pc') Ls (.ref b :: S)))) : Go p e below G (T.setTop (mkF m pc Ls (.int z :: S))) := by
  have hsz := sd_size X
  obtain ⟨meth, c, locs, X, eT, N, hx, hby, hml, hown, hnm, hret, hlk, hZ, hn⟩ := X; subst hp
  obtain ⟨q1, q2⟩ := nat_at hz
  obtain ⟨T', h', cA, X', e', E', A', O', st⟩ := newR X hx hZ hown w1 w2 eT (g := mkF m pc Ls (.int z :: S)) rfl (hb hby hd) rfl q2 (cap := cap) (by rw [q1]; exact hcap) hb8 hc hl
  refine go_of st (K T' h' _ rfl hsz ⟨meth, c, _, X', e', N, hx, hby, hml, hown, hnm, hret, hlk, hZ, hn⟩ E' ⟨_, A', O'⟩ ⟨_, A', (sz_new _ _ _).trans q1, by rw [← q1]; exact (back32 q2).2, fun i hi => ?_⟩)
  simp [newA, q1, hi, defaultValue]
theorem w_join {p : Program} {e : Env} {below : List Frame} {G : State → Prop} {t : State} {α : Type} (P : α → Prop) (st : α → State) (J : ∀ x, P x → Go p e below G (st x)) (K : (∀ x, P x → Go p e below G (st x)) → Go p e below G t) : Go p e below G t := K J
theorem w_staticV (X : Sd l Z n0 y bytes maxL ret R p e s m args below T h cells slots) {i : Nat} {y' : MethodName} {bytes' : ByteArray} {maxL' : Nat} {ret' : Option FieldType} {rm : Room} {as' : Array Value} {Q : Value → Heap → Prop} (hd : decode bytes pc = .ok (.invokestatic i, 3)) (hM : Con l Z n0 y' bytes' maxL' ret' rm as' h (Val Q)) (w1 : (Jvm.Cond.methodLink y.cls i y').before a0 Z = true) (w2 : (Jvm.Cond.static y').before a0 Z = true) (w3 : (Jvm.Cond.initialized y'.cls).before a0 Z = true) (w4 : (Jvm.Cond.code y' bytes' maxL' ret').before a0 Z = true) (hy : y'.cls ≠ "java/lang/invoke/MethodHandle" ∧ y'.cls ≠ "java/lang/invoke/VarHandle") (argsL rest : List Value) {ps : List FieldType} {r' : Option FieldType} (hlen : parseMethodDescriptor y'.desc = some ⟨ps, r'⟩) (hl : argsL.length = ps.length) (has : argsL.toArray = as') (hst : S = argsL.reverse ++ rest) (hsz : Ls.size = maxL) (W : Nat) (hW : (rest.map fun v => v.category).sum ≤ W) (hf : rm.frames + 1 ≤ R.frames) (hlo : W + (maxL' + 11) + rm.locals ≤ R.locals) (hc : cells + rm.cells ≤ R.cells) (hs : slots + rm.slots ≤ R.slots) (hp : pc' = pc + 3)
    (K : ∀ T' h' v, Sd l Z n0 y bytes maxL ret R p e s m args below T' h' (cells + rm.cells) (slots + rm.slots) → Q v h' → Go p e below G (T'.setTop (mkF m (pc') Ls (v :: rest)))) : Go p e below G (T.setTop (mkF m pc Ls S)) := by
  obtain ⟨meth, c, locs, X, eT, N, hx, hby, hml, hown, hnm, hret, hlk, hZ, hn⟩ := X; subst hp hst has
  obtain ⟨v, _, ⟨T', L', k', n'⟩, -, X', ⟨Lc, ⟨N', hQ⟩, lq, yq, zq⟩, st⟩ := Jvm.LawKit.callS X hx (y := y') hown (mvT hZ w1) (mvT hZ w2) (mvT hZ w3) (mvT hZ w4) hy (backOf (W := W) (Q := fun v h L => Fr n0 L ∧ Val Q v h) (hM []) hZ w4 w3 hf hlo) (g := mkF m pc Ls (argsL.reverse ++ rest)) rfl (by rw [hml]; exact hsz) (argsL := argsL) (rest := rest) (lenOf hlen hl) rfl (by show 2 * 0 + _ ≤ _; omega) (hb hby hd) (fun _ _ => ⟨rfl, eT, hc, hs⟩)
  dsimp only [Pt.U, Pt.locs, Pt.cells, Pt.slots] at X' lq yq zq st hQ
  subst lq yq zq
  obtain ⟨v, rfl, hQ⟩ := hQ
  exact go_of st (K T' _ v ⟨meth, c, _, X', rfl, Fr.app N N', hx, hby, hml, hown, hnm, hret, hlk, hZ, hn⟩ hQ)
theorem w_staticN (X : Sd l Z n0 y bytes maxL ret R p e s m args below T h cells slots) {i : Nat} {y' : MethodName} {bytes' : ByteArray} {maxL' : Nat} {ret' : Option FieldType} {rm : Room} {as' : Array Value} {Q : Heap → Prop} (hd : decode bytes pc = .ok (.invokestatic i, 3)) (hM : Con l Z n0 y' bytes' maxL' ret' rm as' h (Non Q)) (w1 : (Jvm.Cond.methodLink y.cls i y').before a0 Z = true) (w2 : (Jvm.Cond.static y').before a0 Z = true) (w3 : (Jvm.Cond.initialized y'.cls).before a0 Z = true) (w4 : (Jvm.Cond.code y' bytes' maxL' ret').before a0 Z = true) (hy : y'.cls ≠ "java/lang/invoke/MethodHandle" ∧ y'.cls ≠ "java/lang/invoke/VarHandle") (argsL rest : List Value) {ps : List FieldType} {r' : Option FieldType} (hlen : parseMethodDescriptor y'.desc = some ⟨ps, r'⟩) (hl : argsL.length = ps.length) (has : argsL.toArray = as') (hst : S = argsL.reverse ++ rest) (hsz : Ls.size = maxL) (W : Nat) (hW : (rest.map fun v => v.category).sum ≤ W) (hf : rm.frames + 1 ≤ R.frames) (hlo : W + (maxL' + 11) + rm.locals ≤ R.locals) (hc : cells + rm.cells ≤ R.cells) (hs : slots + rm.slots ≤ R.slots) (hp : pc' = pc + 3)
    (K : ∀ T' h', Sd l Z n0 y bytes maxL ret R p e s m args below T' h' (cells + rm.cells) (slots + rm.slots) → Q h' → Go p e below G (T'.setTop (mkF m (pc') Ls rest))) : Go p e below G (T.setTop (mkF m pc Ls S)) := by
  obtain ⟨meth, c, locs, X, eT, N, hx, hby, hml, hown, hnm, hret, hlk, hZ, hn⟩ := X; subst hp hst has
  obtain ⟨v, _, ⟨T', L', k', n'⟩, -, X', ⟨Lc, ⟨N', hQ⟩, lq, yq, zq⟩, st⟩ := Jvm.LawKit.callS X hx (y := y') hown (mvT hZ w1) (mvT hZ w2) (mvT hZ w3) (mvT hZ w4) hy (backOf (W := W) (Q := fun v h L => Fr n0 L ∧ Non Q v h) (hM []) hZ w4 w3 hf hlo) (g := mkF m pc Ls (argsL.reverse ++ rest)) rfl (by rw [hml]; exact hsz) (argsL := argsL) (rest := rest) (lenOf hlen hl) rfl (by show 2 * 0 + _ ≤ _; omega) (hb hby hd) (fun _ _ => ⟨rfl, eT, hc, hs⟩)
  dsimp only [Pt.U, Pt.locs, Pt.cells, Pt.slots] at X' lq yq zq st hQ
  subst lq yq zq
  obtain ⟨rfl, hQ⟩ := hQ
  exact go_of st (K T' _ ⟨meth, c, _, X', rfl, Fr.app N N', hx, hby, hml, hown, hnm, hret, hlk, hZ, hn⟩ hQ)
theorem w_specialN (X : Sd l Z n0 y bytes maxL ret R p e s m args below T h cells slots) {i : Nat} {y' : MethodName} {bytes' : ByteArray} {maxL' : Nat} {rm : Room} {as' : Array Value} {Q : Heap → Prop} {a : Addr} (hd : decode bytes pc = .ok (.invokespecial i, 3)) (hM : Con l Z n0 y' bytes' maxL' none rm as' h (Non Q)) (w1 : (Jvm.Cond.methodLink y.cls i y').before a0 Z = true) (w2 : (Jvm.Cond.instanceMethod y').before a0 Z = true) (w3 : (Jvm.Cond.initialized y'.cls).before a0 Z = true) (w4 : (Jvm.Cond.code y' bytes' maxL' none).before a0 Z = true) (hin : y'.name = "<init>") (hy : y'.cls ≠ "java/lang/invoke/MethodHandle" ∧ y'.cls ≠ "java/lang/invoke/VarHandle") (argsL rest : List Value) {ps : List FieldType} {r' : Option FieldType} (hlen : parseMethodDescriptor y'.desc = some ⟨ps, r'⟩) (hl : argsL.length = ps.length) (has : (.ref a :: argsL).toArray = as') (hst : S = argsL.reverse ++ .ref a :: rest) (hsz : Ls.size = maxL) (W : Nat) (hW : (rest.map fun v => v.category).sum ≤ W) (hf : rm.frames + 1 ≤ R.frames) (hlo : W + (maxL' + 11) + rm.locals ≤ R.locals) (hc : cells + rm.cells ≤ R.cells) (hs : slots + rm.slots ≤ R.slots) (hp : pc' = pc + 3)
    (K : ∀ T' h', Sd l Z n0 y bytes maxL ret R p e s m args below T' h' (cells + rm.cells) (slots + rm.slots) → Q h' → Go p e below G (T'.setTop (mkF m (pc') Ls rest))) : Go p e below G (T.setTop (mkF m pc Ls S)) := by
  obtain ⟨meth, c, locs, X, eT, N, hx, hby, hml, hown, hnm, hret, hlk, hZ, hn⟩ := X; subst hp hst has
  obtain ⟨v, _, ⟨T', L', k', n'⟩, -, X', ⟨Lc, ⟨N', hQ⟩, lq, yq, zq⟩, st⟩ := X.specialBack hx (y := y') hin hown (mvT hZ w1) (mvT hZ w2) (mvT hZ w4) hy (backOf (W := W) (Q := fun v h L => Fr n0 L ∧ Non Q v h) (hM []) hZ w4 w3 hf hlo) (g := mkF m pc Ls (argsL.reverse ++ .ref a :: rest)) rfl (by rw [hml]; exact hsz) (Steps.refl _) (a := a) (argsL := argsL) (rest := rest) (lenOf hlen hl) rfl (by show 2 * 0 + _ ≤ _; omega) (hb hby hd) (fun _ _ => ⟨rfl, eT, hc, hs⟩)
  dsimp only [Pt.U, Pt.locs, Pt.cells, Pt.slots] at X' lq yq zq st hQ
  subst lq yq zq
  obtain ⟨rfl, hQ⟩ := hQ
  exact go_of (fun _ k => st.trans k) (K T' _ ⟨meth, c, _, X', rfl, Fr.app N N', hx, hby, hml, hown, hnm, hret, hlk, hZ, hn⟩ hQ)
theorem w_virtualV (X : Sd l Z n0 y bytes maxL ret R p e s m args below T h cells slots) {i : Nat} {y' : MethodName} {bytes' : ByteArray} {maxL' : Nat} {ret' : Option FieldType} {rm : Room} {as' : Array Value} {Q : Value → Heap → Prop} {a : Addr} {C : String} (hd : decode bytes pc = .ok (.invokevirtual i, 3)) (hM : Con l Z n0 y' bytes' maxL' ret' rm as' h (Val Q)) (w1 : (Jvm.Cond.methodLink y.cls i y').before a0 Z = true) (w2 : (Jvm.Cond.declares y').before a0 Z = true) (w5 : (Jvm.Cond.selects C y' y').before a0 Z = true) (w6 : (Jvm.Cond.instanceMethod y').before a0 Z = true) (w3 : (Jvm.Cond.initialized y'.cls).before a0 Z = true) (w4 : (Jvm.Cond.code y' bytes' maxL' ret').before a0 Z = true) (Er : Exa Z h a C) (hy : y'.cls ≠ "java/lang/invoke/MethodHandle" ∧ y'.cls ≠ "java/lang/invoke/VarHandle") (argsL rest : List Value) {ps : List FieldType} {r' : Option FieldType} (hlen : parseMethodDescriptor y'.desc = some ⟨ps, r'⟩) (hl : argsL.length = ps.length) (has : (.ref a :: argsL).toArray = as') (hst : S = argsL.reverse ++ .ref a :: rest) (hsz : Ls.size = maxL) (W : Nat) (hW : (rest.map fun v => v.category).sum ≤ W) (hf : rm.frames + 1 ≤ R.frames) (hlo : W + (maxL' + 11) + rm.locals ≤ R.locals) (hc : cells + rm.cells ≤ R.cells) (hs : slots + rm.slots ≤ R.slots) (hp : pc' = pc + 3)
    (K : ∀ T' h' v, Sd l Z n0 y bytes maxL ret R p e s m args below T' h' (cells + rm.cells) (slots + rm.slots) → Q v h' → Go p e below G (T'.setTop (mkF m (pc') Ls (v :: rest)))) : Go p e below G (T.setTop (mkF m pc Ls S)) := by
  obtain ⟨meth, c, locs, X, eT, N, hx, hby, hml, hown, hnm, hret, hlk, hZ, hn⟩ := X; subst hp hst has
  obtain ⟨cq, kq, qa, qb, qc⟩ := isOf hZ eT Er
  obtain ⟨v, _, ⟨T', L', k', n'⟩, -, X', ⟨Lc, ⟨N', hQ⟩, lq, yq, zq⟩, st⟩ := X.virtualBack hx (y := y') (z := y') hown (mvT hZ w1) (mvT hZ w2) (notFace_of_selects (args := #[]) (mvT hZ w5)) (mvT hZ w5) (mvT hZ w6) hy (backOf (W := W) (Q := fun v h L => Fr n0 L ∧ Val Q v h) (hM []) hZ w4 w3 hf hlo) qa qc (g := mkF m pc Ls (argsL.reverse ++ .ref a :: rest)) rfl (by rw [hml]; exact hsz) (Steps.refl _) (argsL := argsL) (rest := rest) (lenOf hlen hl) rfl (by show 2 * 0 + _ ≤ _; omega) (hb hby hd) (fun _ _ => ⟨rfl, eT, hc, hs⟩)
  dsimp only [Pt.U, Pt.locs, Pt.cells, Pt.slots] at X' lq yq zq st hQ
  subst lq yq zq
  obtain ⟨v, rfl, hQ⟩ := hQ
  exact go_of (fun _ k => st.trans k) (K T' _ v ⟨meth, c, _, X', rfl, Fr.app N N', hx, hby, hml, hown, hnm, hret, hlk, hZ, hn⟩ hQ)
theorem w_virtualN (X : Sd l Z n0 y bytes maxL ret R p e s m args below T h cells slots) {i : Nat} {y' : MethodName} {bytes' : ByteArray} {maxL' : Nat} {ret' : Option FieldType} {rm : Room} {as' : Array Value} {Q : Heap → Prop} {a : Addr} {C : String} (hd : decode bytes pc = .ok (.invokevirtual i, 3)) (hM : Con l Z n0 y' bytes' maxL' ret' rm as' h (Non Q)) (w1 : (Jvm.Cond.methodLink y.cls i y').before a0 Z = true) (w2 : (Jvm.Cond.declares y').before a0 Z = true) (w5 : (Jvm.Cond.selects C y' y').before a0 Z = true) (w6 : (Jvm.Cond.instanceMethod y').before a0 Z = true) (w3 : (Jvm.Cond.initialized y'.cls).before a0 Z = true) (w4 : (Jvm.Cond.code y' bytes' maxL' ret').before a0 Z = true) (Er : Exa Z h a C) (hy : y'.cls ≠ "java/lang/invoke/MethodHandle" ∧ y'.cls ≠ "java/lang/invoke/VarHandle") (argsL rest : List Value) {ps : List FieldType} {r' : Option FieldType} (hlen : parseMethodDescriptor y'.desc = some ⟨ps, r'⟩) (hl : argsL.length = ps.length) (has : (.ref a :: argsL).toArray = as') (hst : S = argsL.reverse ++ .ref a :: rest) (hsz : Ls.size = maxL) (W : Nat) (hW : (rest.map fun v => v.category).sum ≤ W) (hf : rm.frames + 1 ≤ R.frames) (hlo : W + (maxL' + 11) + rm.locals ≤ R.locals) (hc : cells + rm.cells ≤ R.cells) (hs : slots + rm.slots ≤ R.slots) (hp : pc' = pc + 3)
    (K : ∀ T' h', Sd l Z n0 y bytes maxL ret R p e s m args below T' h' (cells + rm.cells) (slots + rm.slots) → Q h' → Go p e below G (T'.setTop (mkF m (pc') Ls rest))) : Go p e below G (T.setTop (mkF m pc Ls S)) := by
  obtain ⟨meth, c, locs, X, eT, N, hx, hby, hml, hown, hnm, hret, hlk, hZ, hn⟩ := X; subst hp hst has
  obtain ⟨cq, kq, qa, qb, qc⟩ := isOf hZ eT Er
  obtain ⟨v, _, ⟨T', L', k', n'⟩, -, X', ⟨Lc, ⟨N', hQ⟩, lq, yq, zq⟩, st⟩ := X.virtualBack hx (y := y') (z := y') hown (mvT hZ w1) (mvT hZ w2) (notFace_of_selects (args := #[]) (mvT hZ w5)) (mvT hZ w5) (mvT hZ w6) hy (backOf (W := W) (Q := fun v h L => Fr n0 L ∧ Non Q v h) (hM []) hZ w4 w3 hf hlo) qa qc (g := mkF m pc Ls (argsL.reverse ++ .ref a :: rest)) rfl (by rw [hml]; exact hsz) (Steps.refl _) (argsL := argsL) (rest := rest) (lenOf hlen hl) rfl (by show 2 * 0 + _ ≤ _; omega) (hb hby hd) (fun _ _ => ⟨rfl, eT, hc, hs⟩)
  dsimp only [Pt.U, Pt.locs, Pt.cells, Pt.slots] at X' lq yq zq st hQ
  subst lq yq zq
  obtain ⟨rfl, hQ⟩ := hQ
  exact go_of (fun _ k => st.trans k) (K T' _ ⟨meth, c, _, X', rfl, Fr.app N N', hx, hby, hml, hown, hnm, hret, hlk, hZ, hn⟩ hQ)
theorem w_ireturn {z : Int32} (X : Sd l Z n0 y bytes maxL (some .int) R p e s m args below T h cells slots) {Q : Value → Heap → Prop} (hd : decode bytes pc = .ok (.ireturn, 1)) (hq : Q (.int z) h) (hc : cells ≤ R.cells) (hs : slots ≤ R.slots) : Go p e below (Done below s n0 (Val Q) R.cells R.slots) (T.setTop (mkF m pc Ls (.int z :: S))) := by
  obtain ⟨meth, c, locs, X, eT, N, hx, hby, hml, hown, hnm, hret, hlk, hZ, hn⟩ := X
  obtain ⟨fs, hr, hrun, hended, hW, hsame⟩ := X.leave (v := some (.int z)) (fun h => by rw [hret] at h; cases h) hlk
  refine ⟨_, ?_, _, hrun, hended, _, _, rfl, ⟨N, _, rfl, by rw [← eT] at hq; exact hq⟩, ⟨_, rfl⟩, hW, hsame.mono hc hs⟩
  · exact retOut X hx (t := .int) hret rfl (Or.inl ⟨rfl, Or.inl rfl, z, rfl⟩) (hb hby hd) hr
theorem w_zreturn {z : Int32} (X : Sd l Z n0 y bytes maxL (some .boolean) R p e s m args below T h cells slots) {Q : Value → Heap → Prop} (hd : decode bytes pc = .ok (.ireturn, 1)) (hq : Q (.int (nar .boolean z)) h) (hc : cells ≤ R.cells) (hs : slots ≤ R.slots) : Go p e below (Done below s n0 (Val Q) R.cells R.slots) (T.setTop (mkF m pc Ls (.int z :: S))) := by
  obtain ⟨meth, c, locs, X, eT, N, hx, hby, hml, hown, hnm, hret, hlk, hZ, hn⟩ := X
  obtain ⟨fs, hr, hrun, hended, hW, hsame⟩ := X.leave (v := some (.int (nar .boolean z))) (fun h => by rw [hret] at h; cases h) hlk
  refine ⟨_, ?_, _, hrun, hended, _, _, rfl, ⟨N, _, rfl, by rw [← eT] at hq; exact hq⟩, ⟨_, rfl⟩, hW, hsame.mono hc hs⟩
  · exact retN X hx (t := .boolean) hret (by simp) (hb hby hd) hr
theorem w_breturn {z : Int32} (X : Sd l Z n0 y bytes maxL (some .byte) R p e s m args below T h cells slots) {Q : Value → Heap → Prop} (hd : decode bytes pc = .ok (.ireturn, 1)) (hq : Q (.int (nar .byte z)) h) (hc : cells ≤ R.cells) (hs : slots ≤ R.slots) : Go p e below (Done below s n0 (Val Q) R.cells R.slots) (T.setTop (mkF m pc Ls (.int z :: S))) := by
  obtain ⟨meth, c, locs, X, eT, N, hx, hby, hml, hown, hnm, hret, hlk, hZ, hn⟩ := X
  obtain ⟨fs, hr, hrun, hended, hW, hsame⟩ := X.leave (v := some (.int (nar .byte z))) (fun h => by rw [hret] at h; cases h) hlk
  refine ⟨_, ?_, _, hrun, hended, _, _, rfl, ⟨N, _, rfl, by rw [← eT] at hq; exact hq⟩, ⟨_, rfl⟩, hW, hsame.mono hc hs⟩
  · exact retN X hx (t := .byte) hret (by simp) (hb hby hd) hr
theorem w_creturn {z : Int32} (X : Sd l Z n0 y bytes maxL (some .char) R p e s m args below T h cells slots) {Q : Value → Heap → Prop} (hd : decode bytes pc = .ok (.ireturn, 1)) (hq : Q (.int (nar .char z)) h) (hc : cells ≤ R.cells) (hs : slots ≤ R.slots) : Go p e below (Done below s n0 (Val Q) R.cells R.slots) (T.setTop (mkF m pc Ls (.int z :: S))) := by
  obtain ⟨meth, c, locs, X, eT, N, hx, hby, hml, hown, hnm, hret, hlk, hZ, hn⟩ := X
  obtain ⟨fs, hr, hrun, hended, hW, hsame⟩ := X.leave (v := some (.int (nar .char z))) (fun h => by rw [hret] at h; cases h) hlk
  refine ⟨_, ?_, _, hrun, hended, _, _, rfl, ⟨N, _, rfl, by rw [← eT] at hq; exact hq⟩, ⟨_, rfl⟩, hW, hsame.mono hc hs⟩
  · exact retN X hx (t := .char) hret (by simp) (hb hby hd) hr
theorem w_sreturn {z : Int32} (X : Sd l Z n0 y bytes maxL (some .short) R p e s m args below T h cells slots) {Q : Value → Heap → Prop} (hd : decode bytes pc = .ok (.ireturn, 1)) (hq : Q (.int (nar .short z)) h) (hc : cells ≤ R.cells) (hs : slots ≤ R.slots) : Go p e below (Done below s n0 (Val Q) R.cells R.slots) (T.setTop (mkF m pc Ls (.int z :: S))) := by
  obtain ⟨meth, c, locs, X, eT, N, hx, hby, hml, hown, hnm, hret, hlk, hZ, hn⟩ := X
  obtain ⟨fs, hr, hrun, hended, hW, hsame⟩ := X.leave (v := some (.int (nar .short z))) (fun h => by rw [hret] at h; cases h) hlk
  refine ⟨_, ?_, _, hrun, hended, _, _, rfl, ⟨N, _, rfl, by rw [← eT] at hq; exact hq⟩, ⟨_, rfl⟩, hW, hsame.mono hc hs⟩
  · exact retN X hx (t := .short) hret (by simp) (hb hby hd) hr
theorem w_lreturn {z : Int64} (X : Sd l Z n0 y bytes maxL (some .long) R p e s m args below T h cells slots) {Q : Value → Heap → Prop} (hd : decode bytes pc = .ok (.lreturn, 1)) (hq : Q (.long z) h) (hc : cells ≤ R.cells) (hs : slots ≤ R.slots) : Go p e below (Done below s n0 (Val Q) R.cells R.slots) (T.setTop (mkF m pc Ls (.long z :: S))) := by
  obtain ⟨meth, c, locs, X, eT, N, hx, hby, hml, hown, hnm, hret, hlk, hZ, hn⟩ := X
  obtain ⟨fs, hr, hrun, hended, hW, hsame⟩ := X.leave (v := some (.long z)) (fun h => by rw [hret] at h; cases h) hlk
  refine ⟨_, ?_, _, hrun, hended, _, _, rfl, ⟨N, _, rfl, by rw [← eT] at hq; exact hq⟩, ⟨_, rfl⟩, hW, hsame.mono hc hs⟩
  · exact retOut X hx (t := .long) hret rfl (Or.inr (Or.inl ⟨rfl, rfl, z, rfl⟩)) (hb hby hd) hr
theorem w_areturn {t : FieldType} {v : Value} (X : Sd l Z n0 y bytes maxL (some t) R p e s m args below T h cells slots) {Q : Value → Heap → Prop} (hd : decode bytes pc = .ok (.areturn, 1)) (ht : t.isReference = true) (hv : v.isRef = true) (hna : narrow t v = v) (hq : Q v h) (hc : cells ≤ R.cells) (hs : slots ≤ R.slots) : Go p e below (Done below s n0 (Val Q) R.cells R.slots) (T.setTop (mkF m pc Ls (v :: S))) := by
  obtain ⟨meth, c, locs, X, eT, N, hx, hby, hml, hown, hnm, hret, hlk, hZ, hn⟩ := X
  obtain ⟨fs, hr, hrun, hended, hW, hsame⟩ := X.leave (v := some v) (fun h => by rw [hret] at h; cases h) hlk
  refine ⟨_, ?_, _, hrun, hended, _, _, rfl, ⟨N, _, rfl, by rw [← eT] at hq; exact hq⟩, ⟨_, rfl⟩, hW, hsame.mono hc hs⟩
  · exact retOut X hx (t := t) hret hna (Or.inr (Or.inr (Or.inr (Or.inr ⟨rfl, ht, hv⟩)))) (hb hby hd) hr
theorem w_return  (X : Sd l Z n0 y bytes maxL none R p e s m args below T h cells slots) {Q : Heap → Prop} (hd : decode bytes pc = .ok (.return_, 1)) (hq : Q h) (hc : cells ≤ R.cells) (hs : slots ≤ R.slots) : Go p e below (Done below s n0 (Non Q) R.cells R.slots) (T.setTop (mkF m pc Ls [])) := by
  obtain ⟨meth, c, locs, X, eT, N, hx, hby, hml, hown, hnm, hret, hlk, hZ, hn⟩ := X
  obtain ⟨fs, hr, hrun, hended, hW, hsame⟩ := X.leave (v := none) (fun _ => rfl) hlk
  refine ⟨_, ?_, _, hrun, hended, _, _, rfl, ⟨N, rfl, by rw [← eT] at hq; exact hq⟩, ⟨_, rfl⟩, hW, hsame.mono hc hs⟩
  · exact X.returnOut hx hret (hb hby hd) hr
theorem ne_new {a b : Addr} (g : b = h.size) (q : a < h.size) : a ≠ b := by subst g; exact Nat.ne_of_lt q
theorem sz_fresh {h0 : Heap} {b : Addr} {ws : List Addr} (g : b = h.size) (K : Keep h0 h ws) : h0.size ≤ b := by subst g; exact K.1
def Oar (Z : State) (h : Heap) (a : Addr) (C : String) : Prop := ∃ cl, Arr Z h a cl (.object C) ∧ Ovr Z cl.cls C
theorem Oar.lt {a : Addr} {C : String} (O : Oar Z h a C) : a < h.size := by obtain ⟨cl, A, -⟩ := O; exact A.lt
theorem Oar.ext {h' : Heap} {a : Addr} {C : String} (O : Oar Z h a C) (E : Ext h h') : Oar Z h' a C := by obtain ⟨cl, A, r⟩ := O; exact ⟨cl, A.ext E, r⟩
theorem Oar.wr {h' : Heap} {a b : Addr} {sl : Nat} {v : Value} {C : String} (O : Oar Z h a C) (W : Wr h h' b sl v) : Oar Z h' a C := by
  obtain ⟨cl, A, r⟩ := O
  by_cases q : a = b
  · subst q; exact ⟨_, A.same W, r⟩
  · exact ⟨cl, A.other W q, r⟩
theorem Oar.keep {h' : Heap} {a : Addr} {C : String} {ws : List Addr} (O : Oar Z h a C) (K : Keep h h' ws) : Oar Z h' a C := by
  obtain ⟨cl, A, r⟩ := O
  obtain ⟨c', h1, h2, h3, h4⟩ := K.2.2 a cl A.1
  refine ⟨c', ⟨h1, ?_, by rw [h3]; exact A.2.2⟩, by rw [h2]; exact r⟩
  have := A.2.1; unfold State.isArrayOf at this ⊢; rw [h2, h3]; exact this
theorem Oar.sto {a b : Addr} {C : String} (O : Oar Z h a C) (I : Ins Z h b C true) : Sto Z h a (.ref b) := by obtain ⟨cl, A, r⟩ := O; exact Sto.of A r I
end Walk
section Walk0
variable {l : Launch} {Z : State} {n0 : Nat} {y : MethodName} {bytes : ByteArray} {maxL : Nat} {ret : Option FieldType} {R : Room} {p : Program} {e : Env} {s : State} {m : MethodId} {args : Array Value} {below : List Frame} {T : State} {h : Heap} {cells slots : Nat} {G : State → Prop} {a0 : Array Value} {pc pc' : Nat} {Ls : Array Slot} {S : List Value}
theorem w_initO (X : Sd l Z n0 y bytes maxL ret R p e s m args below T h cells slots) {i : Nat} {a : Addr} (hd : decode bytes pc = .ok (.invokespecial i, 3)) (w1 : (Jvm.Cond.methodLink y.cls i Lib.objectInit).before a0 Z = true) (w2 : (Jvm.Cond.instanceMethod Lib.objectInit).before a0 Z = true) (w3 : (Jvm.Cond.code Lib.objectInit object_method_1_code 1 none).before a0 Z = true) (hsz : Ls.size = maxL) (hf : 1 ≤ R.frames) (W : Nat) (hW : (S.map fun v => v.category).sum ≤ W) (hl : W + 12 ≤ R.locals) (hp : pc' = pc + 3) (K : ∀ T', Sd l Z n0 y bytes maxL ret R p e s m args below T' h cells slots → Go p e below G (T'.setTop (mkF m (pc') Ls S))) : Go p e below G (T.setTop (mkF m pc Ls (.ref a :: S))) := by
  obtain ⟨meth, c, locs, X, eT, N, hx, hby, hml, hown, hnm, hret, hlk, hZ, hn⟩ := X; subst hp
  obtain ⟨T', X', e', st⟩ := initO X hx hZ hown w1 w2 w3 eT (g := mkF m pc Ls (.ref a :: S)) rfl (by rw [hml]; exact hsz) rfl (hb hby hd) hf (W := W) (by show 2 * 0 + _ ≤ _; omega) hl
  exact go_of st (K T' ⟨meth, c, _, X', e', N, hx, hby, hml, hown, hnm, hret, hlk, hZ, hn⟩)
end Walk0
def own_max (a b : Int64) : Int64 := if a < b then b else a
def own_pass (a b : Int64) : Int32 := if b < a then 0 else 1
theorem own_mx {a b : Int64} : own_max a b = b ↔ ¬ b < a := by
  unfold own_max
  constructor
  · intro q r
    rw [if_neg (by rw [Int64.lt_iff_toInt_lt] at *; omega)] at q
    rw [q, Int64.lt_iff_toInt_lt] at r; omega
  · intro q
    by_cases r : a < b
    · rw [if_pos r]
    · rw [if_neg r]; apply Int64.toInt_inj.mp; rw [Int64.lt_iff_toInt_lt] at *; omega
theorem d2_0 : decode jdk_30_method_1_code 0 = .ok (.aload_n 0, 1) := by decide +kernel
theorem d2_1 : decode jdk_30_method_1_code 1 = .ok (.invokespecial 1, 3) := by decide +kernel
theorem d2_4 : decode jdk_30_method_1_code 4 = .ok (.return_, 1) := by decide +kernel
theorem pn_2 : plainFor (⟨"java/lang/Record", "<init>", "()V"⟩ : MethodName) = true := plainFor_of_name (by first | (simp [plainName, overriddenIn]; done) | decide +kernel)
theorem pd_2 : parseMethodDescriptor "()V" = some ⟨[], none⟩ := by decide +kernel
set_option maxRecDepth 65536 in
set_option maxHeartbeats 40000000 in
theorem rm2 {l : Launch} {Z : State} {a0 : Array Value} (hw : ∀ d ∈ tables_1, d.before a0 Z = true) {n0 : Nat} {h0 : Heap} (Z0 : n0 ≤ h0.size) (a1 : Addr)  :
    Con l Z n0 (⟨"java/lang/Record", "<init>", "()V"⟩ : MethodName) jdk_30_method_1_code 1 none ({ frames := 1, cells := 0, slots := 0, locals := 12 } : Room) #[(.ref a1)] h0 (Non (fun h => h0 = h)) := by
  refine con_intro pn_2 Z0 (fr := fun m => mkF m 0 #[.val (.ref a1)] []) (fun m => by first | (simp [entryFrame, mkF, argsToLocals, Value.category]; done) | rfl) ?_
  intro p e s m below s₁ hs0 X0
  refine w_aloadN X0 (pc' := 1) d2_0 rfl rfl rfl ?_
  refine w_initO X0 (pc' := 4) d2_1 (hw _ (List.mem_of_getElem? (i := 12) rfl)) (hw _ (List.mem_of_getElem? (i := 13) rfl)) (hw _ (List.mem_of_getElem? (i := 14) rfl)) rfl (by decide) 0 (Nat.le_refl _) (by decide) rfl fun T1 X1 => ?_
  exact w_return X1 d2_4 rfl (by decide) (by decide)
theorem d1_0 : decode prog_52_method_1_code 0 = .ok (.aload_n 0, 1) := by decide +kernel
theorem d1_1 : decode prog_52_method_1_code 1 = .ok (.invokespecial 1, 3) := by decide +kernel
theorem d1_4 : decode prog_52_method_1_code 4 = .ok (.aload_n 0, 1) := by decide +kernel
theorem d1_5 : decode prog_52_method_1_code 5 = .ok (.lload_n 1, 1) := by decide +kernel
theorem d1_6 : decode prog_52_method_1_code 6 = .ok (.putfield 7, 3) := by decide +kernel
theorem d1_9 : decode prog_52_method_1_code 9 = .ok (.aload_n 0, 1) := by decide +kernel
theorem d1_10 : decode prog_52_method_1_code 10 = .ok (.lload_n 3, 1) := by decide +kernel
theorem d1_11 : decode prog_52_method_1_code 11 = .ok (.putfield 13, 3) := by decide +kernel
theorem d1_14 : decode prog_52_method_1_code 14 = .ok (.aload_n 0, 1) := by decide +kernel
theorem d1_15 : decode prog_52_method_1_code 15 = .ok (.lload 5, 2) := by decide +kernel
theorem d1_17 : decode prog_52_method_1_code 17 = .ok (.putfield 16, 3) := by decide +kernel
theorem d1_20 : decode prog_52_method_1_code 20 = .ok (.aload_n 0, 1) := by decide +kernel
theorem d1_21 : decode prog_52_method_1_code 21 = .ok (.lload 7, 2) := by decide +kernel
theorem d1_23 : decode prog_52_method_1_code 23 = .ok (.putfield 19, 3) := by decide +kernel
theorem d1_26 : decode prog_52_method_1_code 26 = .ok (.aload_n 0, 1) := by decide +kernel
theorem d1_27 : decode prog_52_method_1_code 27 = .ok (.aload 9, 2) := by decide +kernel
theorem d1_29 : decode prog_52_method_1_code 29 = .ok (.putfield 22, 3) := by decide +kernel
theorem d1_32 : decode prog_52_method_1_code 32 = .ok (.return_, 1) := by decide +kernel
theorem pn_1 : plainFor (⟨"com/example/vestwright/vestwright/Nondiscrimination$Outcome", "<init>", "(JJJJ[J)V"⟩ : MethodName) = true := plainFor_of_name (by first | (simp [plainName, overriddenIn]; done) | decide +kernel)
theorem pd_1 : parseMethodDescriptor "(JJJJ[J)V" = some ⟨[.long, .long, .long, .long, (.array .long)], none⟩ := by decide +kernel
set_option maxRecDepth 65536 in
set_option maxHeartbeats 40000000 in
theorem rm1 {l : Launch} {Z : State} {a0 : Array Value} (hw : ∀ d ∈ tables_1, d.before a0 Z = true) {n0 : Nat} {h0 : Heap} (Z0 : n0 ≤ h0.size) (a1 : Addr) (q2 q3 q4 q5 : Int64) (a6 : Addr) (E_a1 : Exa Z h0 a1 "com/example/vestwright/vestwright/Nondiscrimination$Outcome") (g_a1 : n0 ≤ a1) {u0 : Value} (F0_a1 : Fld Z h0 a1 "com/example/vestwright/vestwright/Nondiscrimination$Outcome" "nhceAverage" "J" u0) {u1 : Value} (F1_a1 : Fld Z h0 a1 "com/example/vestwright/vestwright/Nondiscrimination$Outcome" "hceAverage" "J" u1) {u2 : Value} (F2_a1 : Fld Z h0 a1 "com/example/vestwright/vestwright/Nondiscrimination$Outcome" "limit" "J" u2) {u3 : Value} (F3_a1 : Fld Z h0 a1 "com/example/vestwright/vestwright/Nondiscrimination$Outcome" "excessTotalCents" "J" u3) {u4 : Value} (F4_a1 : Fld Z h0 a1 "com/example/vestwright/vestwright/Nondiscrimination$Outcome" "excessCents" "[J" u4) :
    Con l Z n0 (⟨"com/example/vestwright/vestwright/Nondiscrimination$Outcome", "<init>", "(JJJJ[J)V"⟩ : MethodName) prog_52_method_1_code 10 none ({ frames := 2, cells := 0, slots := 0, locals := 24 } : Room) #[(.ref a1), (.long q2), (.long q3), (.long q4), (.long q5), (.ref a6)] h0 (Non (fun h => Keep h0 h [a1] ∧ Fld Z h a1 "com/example/vestwright/vestwright/Nondiscrimination$Outcome" "hceAverage" "J" (.long q3) ∧ Fld Z h a1 "com/example/vestwright/vestwright/Nondiscrimination$Outcome" "limit" "J" (.long q4))) := by
  refine con_intro pn_1 Z0 (fr := fun m => mkF m 0 #[.val (.ref a1), .val (.long q2), .second, .val (.long q3), .second, .val (.long q4), .second, .val (.long q5), .second, .val (.ref a6)] []) (fun m => by first | (simp [entryFrame, mkF, argsToLocals, Value.category]; done) | rfl) ?_
  intro p e s m below s₁ hs0 X0
  refine w_aloadN X0 (pc' := 1) d1_0 rfl rfl rfl ?_
  refine w_specialN X0 (pc' := 4) d1_1 (rm2 hw (h0 := h0) (sd_size X0) a1) (hw _ (List.mem_of_getElem? (i := 7) rfl)) (hw _ (List.mem_of_getElem? (i := 8) rfl)) (hw _ (List.mem_of_getElem? (i := 10) rfl)) (hw _ (List.mem_of_getElem? (i := 11) rfl)) rfl (by decide) [] [] pd_2 rfl rfl rfl rfl 0 (Nat.le_refl _) (by decide) (by decide) (by decide) (by decide) rfl fun T1 h1 X1 q1 => ?_
  obtain rfl := q1
  refine w_aloadN X1 (pc' := 5) d1_4 rfl rfl rfl ?_
  refine w_lloadN X1 (pc' := 6) d1_5 rfl rfl ?_
  refine w_putfield X1 (pc' := 9) d1_6 (host := "") (Or.inl (hw _ (List.mem_of_getElem? (i := 15) rfl))) Via.refl F0_a1 E_a1 (Or.inr ⟨(hw _ (List.mem_of_getElem? (i := 16) rfl)), rfl, rfl⟩) (hw _ (List.mem_of_getElem? (i := 2) rfl)) (ty := .long) (by decide) rfl rfl g_a1 rfl fun T2 h2 X2 W2 F2 => ?_
  have F1_a1_3 := Fld.other W2 F1_a1 (Or.inr (slot_ne (C := "com/example/vestwright/vestwright/Nondiscrimination$Outcome") (Or.inr (hw _ (List.mem_of_getElem? (i := 18) rfl))) (Or.inr (hw _ (List.mem_of_getElem? (i := 16) rfl))) (by decide) (t := .long) (t' := .long) (by decide) (by decide)))
  have F2_a1_3 := Fld.other W2 F2_a1 (Or.inr (slot_ne (C := "com/example/vestwright/vestwright/Nondiscrimination$Outcome") (Or.inr (hw _ (List.mem_of_getElem? (i := 20) rfl))) (Or.inr (hw _ (List.mem_of_getElem? (i := 16) rfl))) (by decide) (t := .long) (t' := .long) (by decide) (by decide)))
  have F3_a1_3 := Fld.other W2 F3_a1 (Or.inr (slot_ne (C := "com/example/vestwright/vestwright/Nondiscrimination$Outcome") (Or.inr (hw _ (List.mem_of_getElem? (i := 22) rfl))) (Or.inr (hw _ (List.mem_of_getElem? (i := 16) rfl))) (by decide) (t := .long) (t' := .long) (by decide) (by decide)))
  have F4_a1_3 := Fld.other W2 F4_a1 (Or.inr (slot_ne (C := "com/example/vestwright/vestwright/Nondiscrimination$Outcome") (Or.inr (hw _ (List.mem_of_getElem? (i := 24) rfl))) (Or.inr (hw _ (List.mem_of_getElem? (i := 16) rfl))) (by decide) (t := (.array .long)) (t' := .long) (by decide) (by decide)))
  have E_a1_3 := Exa.wr W2 E_a1
  have K_4r : Keep h0 _ [a1] := (Keep.refl h0 [a1])
  have K_4 : Keep h0 h2 [a1] := K_4r.wr W2 (Or.inl (List.mem_of_getElem? (i := 0) rfl))
  refine w_aloadN X2 (pc' := 10) d1_9 rfl rfl rfl ?_
  refine w_lloadN X2 (pc' := 11) d1_10 rfl rfl ?_
  refine w_putfield X2 (pc' := 14) d1_11 (host := "") (Or.inl (hw _ (List.mem_of_getElem? (i := 17) rfl))) Via.refl F1_a1_3 E_a1_3 (Or.inr ⟨(hw _ (List.mem_of_getElem? (i := 18) rfl)), rfl, rfl⟩) (hw _ (List.mem_of_getElem? (i := 2) rfl)) (ty := .long) (by decide) rfl rfl g_a1 rfl fun T5 h5 X5 W5 F5 => ?_
  have F2_a1_6 := Fld.other W5 F2_a1_3 (Or.inr (slot_ne (C := "com/example/vestwright/vestwright/Nondiscrimination$Outcome") (Or.inr (hw _ (List.mem_of_getElem? (i := 20) rfl))) (Or.inr (hw _ (List.mem_of_getElem? (i := 18) rfl))) (by decide) (t := .long) (t' := .long) (by decide) (by decide)))
  have F3_a1_6 := Fld.other W5 F3_a1_3 (Or.inr (slot_ne (C := "com/example/vestwright/vestwright/Nondiscrimination$Outcome") (Or.inr (hw _ (List.mem_of_getElem? (i := 22) rfl))) (Or.inr (hw _ (List.mem_of_getElem? (i := 18) rfl))) (by decide) (t := .long) (t' := .long) (by decide) (by decide)))
  have F4_a1_6 := Fld.other W5 F4_a1_3 (Or.inr (slot_ne (C := "com/example/vestwright/vestwright/Nondiscrimination$Outcome") (Or.inr (hw _ (List.mem_of_getElem? (i := 24) rfl))) (Or.inr (hw _ (List.mem_of_getElem? (i := 18) rfl))) (by decide) (t := (.array .long)) (t' := .long) (by decide) (by decide)))
  have F2_6 := Fld.other W5 F2 (Or.inr (slot_ne (C := "com/example/vestwright/vestwright/Nondiscrimination$Outcome") (Or.inr (hw _ (List.mem_of_getElem? (i := 16) rfl))) (Or.inr (hw _ (List.mem_of_getElem? (i := 18) rfl))) (by decide) (t := .long) (t' := .long) (by decide) (by decide)))
  have E_a1_6 := Exa.wr W5 E_a1_3
  have K_7 : Keep h0 h5 [a1] := K_4.wr W5 (Or.inl (List.mem_of_getElem? (i := 0) rfl))
  refine w_aloadN X5 (pc' := 15) d1_14 rfl rfl rfl ?_
  refine w_lload X5 (pc' := 17) d1_15 rfl rfl ?_
  refine w_putfield X5 (pc' := 20) d1_17 (host := "") (Or.inl (hw _ (List.mem_of_getElem? (i := 19) rfl))) Via.refl F2_a1_6 E_a1_6 (Or.inr ⟨(hw _ (List.mem_of_getElem? (i := 20) rfl)), rfl, rfl⟩) (hw _ (List.mem_of_getElem? (i := 2) rfl)) (ty := .long) (by decide) rfl rfl g_a1 rfl fun T8 h8 X8 W8 F8 => ?_
  have F3_a1_9 := Fld.other W8 F3_a1_6 (Or.inr (slot_ne (C := "com/example/vestwright/vestwright/Nondiscrimination$Outcome") (Or.inr (hw _ (List.mem_of_getElem? (i := 22) rfl))) (Or.inr (hw _ (List.mem_of_getElem? (i := 20) rfl))) (by decide) (t := .long) (t' := .long) (by decide) (by decide)))
  have F4_a1_9 := Fld.other W8 F4_a1_6 (Or.inr (slot_ne (C := "com/example/vestwright/vestwright/Nondiscrimination$Outcome") (Or.inr (hw _ (List.mem_of_getElem? (i := 24) rfl))) (Or.inr (hw _ (List.mem_of_getElem? (i := 20) rfl))) (by decide) (t := (.array .long)) (t' := .long) (by decide) (by decide)))
  have F2_9 := Fld.other W8 F2_6 (Or.inr (slot_ne (C := "com/example/vestwright/vestwright/Nondiscrimination$Outcome") (Or.inr (hw _ (List.mem_of_getElem? (i := 16) rfl))) (Or.inr (hw _ (List.mem_of_getElem? (i := 20) rfl))) (by decide) (t := .long) (t' := .long) (by decide) (by decide)))
  have F5_9 := Fld.other W8 F5 (Or.inr (slot_ne (C := "com/example/vestwright/vestwright/Nondiscrimination$Outcome") (Or.inr (hw _ (List.mem_of_getElem? (i := 18) rfl))) (Or.inr (hw _ (List.mem_of_getElem? (i := 20) rfl))) (by decide) (t := .long) (t' := .long) (by decide) (by decide)))
  have E_a1_9 := Exa.wr W8 E_a1_6
  have K_10 : Keep h0 h8 [a1] := K_7.wr W8 (Or.inl (List.mem_of_getElem? (i := 0) rfl))
  refine w_aloadN X8 (pc' := 21) d1_20 rfl rfl rfl ?_
  refine w_lload X8 (pc' := 23) d1_21 rfl rfl ?_
  refine w_putfield X8 (pc' := 26) d1_23 (host := "") (Or.inl (hw _ (List.mem_of_getElem? (i := 21) rfl))) Via.refl F3_a1_9 E_a1_9 (Or.inr ⟨(hw _ (List.mem_of_getElem? (i := 22) rfl)), rfl, rfl⟩) (hw _ (List.mem_of_getElem? (i := 2) rfl)) (ty := .long) (by decide) rfl rfl g_a1 rfl fun T11 h11 X11 W11 F11 => ?_
  have F4_a1_12 := Fld.other W11 F4_a1_9 (Or.inr (slot_ne (C := "com/example/vestwright/vestwright/Nondiscrimination$Outcome") (Or.inr (hw _ (List.mem_of_getElem? (i := 24) rfl))) (Or.inr (hw _ (List.mem_of_getElem? (i := 22) rfl))) (by decide) (t := (.array .long)) (t' := .long) (by decide) (by decide)))
  have F2_12 := Fld.other W11 F2_9 (Or.inr (slot_ne (C := "com/example/vestwright/vestwright/Nondiscrimination$Outcome") (Or.inr (hw _ (List.mem_of_getElem? (i := 16) rfl))) (Or.inr (hw _ (List.mem_of_getElem? (i := 22) rfl))) (by decide) (t := .long) (t' := .long) (by decide) (by decide)))
  have F5_12 := Fld.other W11 F5_9 (Or.inr (slot_ne (C := "com/example/vestwright/vestwright/Nondiscrimination$Outcome") (Or.inr (hw _ (List.mem_of_getElem? (i := 18) rfl))) (Or.inr (hw _ (List.mem_of_getElem? (i := 22) rfl))) (by decide) (t := .long) (t' := .long) (by decide) (by decide)))
  have F8_12 := Fld.other W11 F8 (Or.inr (slot_ne (C := "com/example/vestwright/vestwright/Nondiscrimination$Outcome") (Or.inr (hw _ (List.mem_of_getElem? (i := 20) rfl))) (Or.inr (hw _ (List.mem_of_getElem? (i := 22) rfl))) (by decide) (t := .long) (t' := .long) (by decide) (by decide)))
  have E_a1_12 := Exa.wr W11 E_a1_9
  have K_13 : Keep h0 h11 [a1] := K_10.wr W11 (Or.inl (List.mem_of_getElem? (i := 0) rfl))
  refine w_aloadN X11 (pc' := 27) d1_26 rfl rfl rfl ?_
  refine w_aload X11 (pc' := 29) d1_27 rfl rfl rfl ?_
  refine w_putfield X11 (pc' := 32) d1_29 (host := "") (Or.inl (hw _ (List.mem_of_getElem? (i := 23) rfl))) Via.refl F4_a1_12 E_a1_12 (Or.inr ⟨(hw _ (List.mem_of_getElem? (i := 24) rfl)), rfl, rfl⟩) (hw _ (List.mem_of_getElem? (i := 2) rfl)) (ty := (.array .long)) (by decide) rfl rfl g_a1 rfl fun T14 h14 X14 W14 F14 => ?_
  have F2_15 := Fld.other W14 F2_12 (Or.inr (slot_ne (C := "com/example/vestwright/vestwright/Nondiscrimination$Outcome") (Or.inr (hw _ (List.mem_of_getElem? (i := 16) rfl))) (Or.inr (hw _ (List.mem_of_getElem? (i := 24) rfl))) (by decide) (t := .long) (t' := (.array .long)) (by decide) (by decide)))
  have F5_15 := Fld.other W14 F5_12 (Or.inr (slot_ne (C := "com/example/vestwright/vestwright/Nondiscrimination$Outcome") (Or.inr (hw _ (List.mem_of_getElem? (i := 18) rfl))) (Or.inr (hw _ (List.mem_of_getElem? (i := 24) rfl))) (by decide) (t := .long) (t' := (.array .long)) (by decide) (by decide)))
  have F8_15 := Fld.other W14 F8_12 (Or.inr (slot_ne (C := "com/example/vestwright/vestwright/Nondiscrimination$Outcome") (Or.inr (hw _ (List.mem_of_getElem? (i := 20) rfl))) (Or.inr (hw _ (List.mem_of_getElem? (i := 24) rfl))) (by decide) (t := .long) (t' := (.array .long)) (by decide) (by decide)))
  have F11_15 := Fld.other W14 F11 (Or.inr (slot_ne (C := "com/example/vestwright/vestwright/Nondiscrimination$Outcome") (Or.inr (hw _ (List.mem_of_getElem? (i := 22) rfl))) (Or.inr (hw _ (List.mem_of_getElem? (i := 24) rfl))) (by decide) (t := .long) (t' := (.array .long)) (by decide) (by decide)))
  have E_a1_15 := Exa.wr W14 E_a1_12
  have K_16 : Keep h0 h14 [a1] := K_13.wr W14 (Or.inl (List.mem_of_getElem? (i := 0) rfl))
  exact w_return X14 d1_32 ⟨K_16, F5_15, F8_15⟩ (by decide) (by decide)
theorem d4_0 : decode jdk_29_method_66_code 0 = .ok (.lload_n 0, 1) := by decide +kernel
theorem d4_1 : decode jdk_29_method_66_code 1 = .ok (.lload_n 2, 1) := by decide +kernel
theorem d4_2 : decode jdk_29_method_66_code 2 = .ok (.lcmp, 1) := by decide +kernel
theorem d4_3 : decode jdk_29_method_66_code 3 = .ok (.ifCond .lt 7, 3) := by decide +kernel
theorem d4_6 : decode jdk_29_method_66_code 6 = .ok (.lload_n 0, 1) := by decide +kernel
theorem d4_7 : decode jdk_29_method_66_code 7 = .ok (.goto 4, 3) := by decide +kernel
theorem d4_10 : decode jdk_29_method_66_code 10 = .ok (.lload_n 2, 1) := by decide +kernel
theorem d4_11 : decode jdk_29_method_66_code 11 = .ok (.lreturn, 1) := by decide +kernel
theorem pn_4 : plainFor (⟨"java/lang/Math", "max", "(JJ)J"⟩ : MethodName) = true := Jvm.Free.JP.mathPlain rfl (by decide +kernel)
theorem pd_4 : parseMethodDescriptor "(JJ)J" = some ⟨[.long, .long], some .long⟩ := by decide +kernel
set_option maxRecDepth 65536 in
set_option maxHeartbeats 40000000 in
theorem rm4 {l : Launch} {Z : State} {a0 : Array Value} (hw : ∀ d ∈ tables_1, d.before a0 Z = true) {n0 : Nat} {h0 : Heap} (Z0 : n0 ≤ h0.size) (q1 q2 : Int64)  :
    Con l Z n0 (⟨"java/lang/Math", "max", "(JJ)J"⟩ : MethodName) jdk_29_method_66_code 4 (some .long) ({ frames := 0, cells := 0, slots := 0, locals := 0 } : Room) #[(.long q1), (.long q2)] h0 (Val (fun v h => v = .long (own_max q1 q2) ∧ h0 = h)) := by
  refine con_intro pn_4 Z0 (fr := fun m => mkF m 0 #[.val (.long q1), .second, .val (.long q2), .second] []) (fun m => by first | (simp [entryFrame, mkF, argsToLocals, Value.category]; done) | rfl) ?_
  intro p e s m below s₁ hs0 X0
  refine w_lloadN X0 (pc' := 1) d4_0 rfl rfl ?_
  refine w_lloadN X0 (pc' := 2) d4_1 rfl rfl ?_
  refine w_lc_lt X0 10 6 d4_2 d4_3 (by decide) rfl rfl (fun hc2 => ?_) (fun hc2 => ?_)
  · skip
    refine w_lloadN X0 (pc' := 11) d4_10 rfl rfl ?_
    exact w_lreturn X0 d4_11 ⟨by rw [own_max, if_pos hc2], rfl⟩ (by decide) (by decide)
  · skip
    refine w_lloadN X0 (pc' := 7) d4_6 rfl rfl ?_
    refine w_goto X0 (pc' := 11) d4_7 (by decide) rfl ?_
    exact w_lreturn X0 d4_11 ⟨by rw [own_max, if_neg hc2], rfl⟩ (by decide) (by decide)
theorem d5_0 : decode prog_52_method_2_code 0 = .ok (.aload_n 0, 1) := by decide +kernel
theorem d5_1 : decode prog_52_method_2_code 1 = .ok (.getfield 13, 3) := by decide +kernel
theorem d5_4 : decode prog_52_method_2_code 4 = .ok (.aload_n 0, 1) := by decide +kernel
theorem d5_5 : decode prog_52_method_2_code 5 = .ok (.getfield 16, 3) := by decide +kernel
theorem d5_8 : decode prog_52_method_2_code 8 = .ok (.lcmp, 1) := by decide +kernel
theorem d5_9 : decode prog_52_method_2_code 9 = .ok (.ifCond .gt 7, 3) := by decide +kernel
theorem d5_12 : decode prog_52_method_2_code 12 = .ok (.iconst 1, 1) := by decide +kernel
theorem d5_13 : decode prog_52_method_2_code 13 = .ok (.goto 4, 3) := by decide +kernel
theorem d5_16 : decode prog_52_method_2_code 16 = .ok (.iconst 0, 1) := by decide +kernel
theorem d5_17 : decode prog_52_method_2_code 17 = .ok (.ireturn, 1) := by decide +kernel
theorem pn_5 : plainFor (⟨"com/example/vestwright/vestwright/Nondiscrimination$Outcome", "passed", "()Z"⟩ : MethodName) = true := plainFor_of_name (by first | (simp [plainName, overriddenIn]; done) | decide +kernel)
theorem pd_5 : parseMethodDescriptor "()Z" = some ⟨[], some .boolean⟩ := by decide +kernel
set_option maxRecDepth 65536 in
set_option maxHeartbeats 40000000 in
theorem rm5 {l : Launch} {Z : State} {a0 : Array Value} (hw : ∀ d ∈ tables_1, d.before a0 Z = true) {n0 : Nat} {h0 : Heap} (Z0 : n0 ≤ h0.size) (a1 : Addr) {q1 q2 : Int64} (F1 : Fld Z h0 a1 "com/example/vestwright/vestwright/Nondiscrimination$Outcome" "hceAverage" "J" (.long q1)) (F2 : Fld Z h0 a1 "com/example/vestwright/vestwright/Nondiscrimination$Outcome" "limit" "J" (.long q2)) :
    Con l Z n0 (⟨"com/example/vestwright/vestwright/Nondiscrimination$Outcome", "passed", "()Z"⟩ : MethodName) prog_52_method_2_code 1 (some .boolean) ({ frames := 0, cells := 0, slots := 0, locals := 0 } : Room) #[(.ref a1)] h0 (Val (fun v h => v = .int (own_pass q1 q2) ∧ h0 = h)) := by
  refine con_intro pn_5 Z0 (fr := fun m => mkF m 0 #[.val (.ref a1)] []) (fun m => by first | (simp [entryFrame, mkF, argsToLocals, Value.category]; done) | rfl) ?_
  intro p e s m below s₁ hs0 X0
  refine w_aloadN X0 (pc' := 1) d5_0 rfl rfl rfl ?_
  refine w_getfield X0 (pc' := 4) d5_1 (host := "") (Or.inl (hw _ (List.mem_of_getElem? (i := 17) rfl))) Via.refl F1 rfl fun T1 X1 => ?_
  refine w_aloadN X1 (pc' := 5) d5_4 rfl rfl rfl ?_
  refine w_getfield X1 (pc' := 8) d5_5 (host := "") (Or.inl (hw _ (List.mem_of_getElem? (i := 19) rfl))) Via.refl F2 rfl fun T2 X2 => ?_
  refine w_lc_gt X2 16 12 d5_8 d5_9 (by decide) rfl rfl (fun hc8 => ?_) (fun hc8 => ?_)
  · skip
    refine w_iconst X2 (pc' := 17) (0 : Int32) d5_16 rfl rfl ?_
    exact w_zreturn X2 d5_17 ⟨by rw [own_pass, if_pos hc8]; rfl, rfl⟩ (by decide) (by decide)
  · skip
    refine w_iconst X2 (pc' := 13) (1 : Int32) d5_12 rfl rfl ?_
    refine w_goto X2 (pc' := 17) d5_13 (by decide) rfl ?_
    exact w_zreturn X2 d5_17 ⟨by rw [own_pass, if_neg hc8]; rfl, rfl⟩ (by decide) (by decide)
theorem pn_0 : plainFor (⟨"com/example/vestwright/vestwright/OutcomePassedPinLaw", "law", "(JJJJI)Z"⟩ : MethodName) = true := plainFor_of_name (by first | (simp [plainName, overriddenIn]; done) | decide +kernel)
theorem pd_0 : parseMethodDescriptor "(JJJJI)Z" = some ⟨[.long, .long, .long, .long, .int], some .boolean⟩ := by decide +kernel
set_option maxRecDepth 65536 in
set_option maxHeartbeats 40000000 in
theorem rm0 {l : Launch} {Z : State} {a0 : Array Value} (hw : ∀ d ∈ tables_1, d.before a0 Z = true) {n0 : Nat} {h0 : Heap} (Z0 : n0 ≤ h0.size) (q1 q2 q3 q4 : Int64) (p5 : Int32)  :
    Con l Z n0 x code maxLocals ret room_1 #[(.long q1), (.long q2), (.long q3), (.long q4), (.int p5)] h0 (Val (fun v _ => v = .int 1)) := by
  refine con_intro pn_0 Z0 (fr := fun m => mkF m 0 #[.val (.long q1), .second, .val (.long q2), .second, .val (.long q3), .second, .val (.long q4), .second, .val (.int p5), .unset, .unset, .unset, .unset, .unset, .unset, .unset] []) (fun m => by first | (simp [entryFrame, mkF, argsToLocals, Value.category, maxLocals]; done) | rfl) ?_
  intro p e s m below s₁ hs0 X0
  refine w_iload X0 (pc' := 2) at_0 rfl rfl ?_
  refine w_iconst X0 (pc' := 3) (1 : Int32) at_2 rfl rfl ?_
  refine w_iushr X0 (pc' := 4) at_3 rfl ?_
  refine w_iconst X0 (pc' := 5) (3 : Int32) at_4 rfl rfl ?_
  refine w_irem X0 (pc' := 6) at_5 (by decide) rfl ?_
  refine w_i2l X0 (pc' := 7) at_6 rfl ?_
  refine w_lconst X0 (pc' := 8) (1 : Int64) at_7 rfl rfl ?_
  refine w_lsub X0 (pc' := 9) at_8 rfl ?_
  refine w_lstore X0 (pc' := 11) (l' := #[.val (.long q1), .second, .val (.long q2), .second, .val (.long q3), .second, .val (.long q4), .second, .val (.int p5), .val (.long (((((p5.toUInt32 >>> ((1 : Int32) &&& 31).toUInt32).toInt32) % (3 : Int32)).toInt64) - (1 : Int64))), .second, .unset, .unset, .unset, .unset, .unset]) at_9 rfl rfl ?_
  refine w_iload X0 (pc' := 13) at_11 rfl rfl ?_
  refine w_iconst X0 (pc' := 14) (1 : Int32) at_13 rfl rfl ?_
  refine w_iand X0 (pc' := 15) at_14 rfl ?_
  refine w_if_eq X0 26 18 at_15 (by decide) rfl rfl (fun hc15 => ?_) (fun hc15 => ?_)
  · skip
    refine w_lloadN X0 (pc' := 27) at_26 rfl rfl ?_
    refine w_lstore X0 (pc' := 29) (l' := #[.val (.long q1), .second, .val (.long q2), .second, .val (.long q3), .second, .val (.long q4), .second, .val (.int p5), .val (.long (((((p5.toUInt32 >>> ((1 : Int32) &&& 31).toUInt32).toInt32) % (3 : Int32)).toInt64) - (1 : Int64))), .second, .val (.long q2), .second, .unset, .unset, .unset]) at_27 rfl rfl ?_
    refine w_iconst X0 (pc' := 30) (2 : Int32) at_29 rfl rfl ?_
    refine w_newarray X0 (pc' := 32) 2 2 at_30 (hw _ (List.mem_of_getElem? (i := 0) rfl)) (by decide) (by decide) (by decide) (by decide) (by decide) rfl fun T1 h1 b1 g1 gn1 X1 E1 A1 => ?_
    replace A1 : Ary Z h1 b1 .long 2 (fun _ => (.long (0 : Int64))) := A1
    refine w_dup X1 (pc' := 33) at_32 rfl rfl ?_
    refine w_iconst X1 (pc' := 34) (0 : Int32) at_33 rfl rfl ?_
    refine w_lload X1 (pc' := 36) at_34 rfl rfl ?_
    refine w_lastore X1 (pc' := 37) 0 at_36 A1 (by decide) (by decide) gn1 rfl fun T3 h3 X3 W3 A3 => ?_
    refine w_dup X3 (pc' := 38) at_37 rfl rfl ?_
    refine w_iconst X3 (pc' := 39) (1 : Int32) at_38 rfl rfl ?_
    refine w_lloadN X3 (pc' := 40) at_39 rfl rfl ?_
    refine w_lastore X3 (pc' := 41) 1 at_40 A3 (by decide) (by decide) gn1 rfl fun T5 h5 X5 W5 A5 => ?_
    refine w_astore X5 (pc' := 43) (l' := #[.val (.long q1), .second, .val (.long q2), .second, .val (.long q3), .second, .val (.long q4), .second, .val (.int p5), .val (.long (((((p5.toUInt32 >>> ((1 : Int32) &&& 31).toUInt32).toInt32) % (3 : Int32)).toInt64) - (1 : Int64))), .second, .val (.long q2), .second, .val (.ref b1), .unset, .unset]) at_41 rfl rfl rfl ?_
    refine w_new X5 (pc' := 46) at_43 (hw _ (List.mem_of_getElem? (i := 1) rfl)) (hw _ (List.mem_of_getElem? (i := 2) rfl)) (hw _ (List.mem_of_getElem? (i := 3) rfl)) (by decide) (by decide) rfl fun T7 h7 b7 g7 gn7 X7 E7 A7 D7 => ?_
    have ne_b1_b7 : b1 ≠ b7 := ne_new g7 A5.lt
    have A5_8 := A5.ext E7
    have FnhceAverage_7 : Fld Z h7 b7 "com/example/vestwright/vestwright/Nondiscrimination$Outcome" "nhceAverage" "J" (.long (0 : Int64)) := D7 (Or.inr (hw _ (List.mem_of_getElem? (i := 16) rfl))) (ty := .long) (by decide)
    have FhceAverage_7 : Fld Z h7 b7 "com/example/vestwright/vestwright/Nondiscrimination$Outcome" "hceAverage" "J" (.long (0 : Int64)) := D7 (Or.inr (hw _ (List.mem_of_getElem? (i := 18) rfl))) (ty := .long) (by decide)
    have Flimit_7 : Fld Z h7 b7 "com/example/vestwright/vestwright/Nondiscrimination$Outcome" "limit" "J" (.long (0 : Int64)) := D7 (Or.inr (hw _ (List.mem_of_getElem? (i := 20) rfl))) (ty := .long) (by decide)
    have FexcessTotalCents_7 : Fld Z h7 b7 "com/example/vestwright/vestwright/Nondiscrimination$Outcome" "excessTotalCents" "J" (.long (0 : Int64)) := D7 (Or.inr (hw _ (List.mem_of_getElem? (i := 22) rfl))) (ty := .long) (by decide)
    have FexcessCents_7 : Fld Z h7 b7 "com/example/vestwright/vestwright/Nondiscrimination$Outcome" "excessCents" "[J" .null := D7 (Or.inr (hw _ (List.mem_of_getElem? (i := 24) rfl))) (ty := (.array .long)) (by decide)
    refine w_dup X7 (pc' := 47) at_46 rfl rfl ?_
    refine w_lloadN X7 (pc' := 48) at_47 rfl rfl ?_
    refine w_lload X7 (pc' := 50) at_48 rfl rfl ?_
    refine w_lload X7 (pc' := 52) at_50 rfl rfl ?_
    refine w_lload X7 (pc' := 54) at_52 rfl rfl ?_
    refine w_aload X7 (pc' := 56) at_54 rfl rfl rfl ?_
    refine w_specialN X7 (pc' := 59) at_56 (rm1 hw (h0 := h7) (sd_size X7) b7 q1 q2 q3 q4 b1 A7 gn7 FnhceAverage_7 FhceAverage_7 Flimit_7 FexcessTotalCents_7 FexcessCents_7) (hw _ (List.mem_of_getElem? (i := 4) rfl)) (hw _ (List.mem_of_getElem? (i := 5) rfl)) (hw _ (List.mem_of_getElem? (i := 3) rfl)) (hw _ (List.mem_of_getElem? (i := 6) rfl)) rfl (by decide) [(.long q1), (.long q2), (.long q3), (.long q4), (.ref b1)] [(.ref b7)] pd_1 rfl rfl rfl rfl 1 (Nat.le_refl _) (by decide) (by decide) (by decide) (by decide) rfl fun T9 h9 X9 q9 => ?_
    obtain ⟨K9, Fh9, Fl9⟩ := q9
    have A7_10 := A7.keep K9
    have A5_10 := A5_8.keep K9 (ninS ne_b1_b7 nin0)
    refine w_astore X9 (pc' := 61) (l' := #[.val (.long q1), .second, .val (.long q2), .second, .val (.long q3), .second, .val (.long q4), .second, .val (.int p5), .val (.long (((((p5.toUInt32 >>> ((1 : Int32) &&& 31).toUInt32).toInt32) % (3 : Int32)).toInt64) - (1 : Int64))), .second, .val (.long q2), .second, .val (.ref b1), .val (.ref b7), .unset]) at_59 rfl rfl rfl ?_
    refine w_lload X9 (pc' := 63) at_61 rfl rfl ?_
    refine w_lload X9 (pc' := 65) at_63 rfl rfl ?_
    refine w_staticV X9 (pc' := 68) at_65 (rm4 hw (h0 := h9) (sd_size X9) q2 q3) (hw _ (List.mem_of_getElem? (i := 25) rfl)) (hw _ (List.mem_of_getElem? (i := 26) rfl)) (hw _ (List.mem_of_getElem? (i := 27) rfl)) (hw _ (List.mem_of_getElem? (i := 28) rfl)) (by decide) [(.long q2), (.long q3)] [] pd_4 rfl rfl rfl rfl 0 (Nat.le_refl _) (by decide) (by decide) (by decide) (by decide) rfl fun T11 h11 v11 X11 q11 => ?_
    obtain ⟨rfl, rfl⟩ := q11
    refine w_lload X11 (pc' := 70) at_68 rfl rfl ?_
    refine w_lc_ne X11 78 74 at_70 at_71 (by decide) rfl rfl (fun hc70 => ?_) (fun hc70 => ?_)
    · skip
      refine w_iconst X11 (pc' := 79) (0 : Int32) at_78 rfl rfl ?_
      refine w_istore X11 (pc' := 81) (l' := #[.val (.long q1), .second, .val (.long q2), .second, .val (.long q3), .second, .val (.long q4), .second, .val (.int p5), .val (.long (((((p5.toUInt32 >>> ((1 : Int32) &&& 31).toUInt32).toInt32) % (3 : Int32)).toInt64) - (1 : Int64))), .second, .val (.long q2), .second, .val (.ref b1), .val (.ref b7), .val (.int (0 : Int32))]) at_79 rfl rfl ?_
      refine w_aload X11 (pc' := 83) at_81 rfl rfl rfl ?_
      refine w_virtualV X11 (pc' := 86) at_83 (rm5 hw (h0 := h9) (sd_size X11) b7 Fh9 Fl9) (hw _ (List.mem_of_getElem? (i := 29) rfl)) (hw _ (List.mem_of_getElem? (i := 30) rfl)) (hw _ (List.mem_of_getElem? (i := 32) rfl)) (hw _ (List.mem_of_getElem? (i := 31) rfl)) (hw _ (List.mem_of_getElem? (i := 3) rfl)) (hw _ (List.mem_of_getElem? (i := 33) rfl)) A7_10 (by decide) [] [] pd_5 rfl rfl rfl rfl 0 (Nat.le_refl _) (by decide) (by decide) (by decide) (by decide) rfl fun T12 h12 v12 X12 q12 => ?_
      obtain ⟨rfl, rfl⟩ := q12
      refine w_iload X12 (pc' := 88) at_86 rfl rfl ?_
      refine w_icmp_ne X12 95 91 at_88 (by decide) rfl rfl (fun hc88 => by exfalso; exact hc88 (by rw [own_pass, if_pos (Decidable.not_not.mp fun z => hc70 (own_mx.mpr z))])) (fun hc88 => ?_)
      refine w_iconst X12 (pc' := 92) (1 : Int32) at_91 rfl rfl ?_
      refine w_goto X12 (pc' := 96) at_92 (by decide) rfl ?_
      exact w_zreturn X12 at_96 rfl (by decide) (by decide)
    · skip
      refine w_iconst X11 (pc' := 75) (1 : Int32) at_74 rfl rfl ?_
      refine w_goto X11 (pc' := 79) at_75 (by decide) rfl ?_
      refine w_istore X11 (pc' := 81) (l' := #[.val (.long q1), .second, .val (.long q2), .second, .val (.long q3), .second, .val (.long q4), .second, .val (.int p5), .val (.long (((((p5.toUInt32 >>> ((1 : Int32) &&& 31).toUInt32).toInt32) % (3 : Int32)).toInt64) - (1 : Int64))), .second, .val (.long q2), .second, .val (.ref b1), .val (.ref b7), .val (.int (1 : Int32))]) at_79 rfl rfl ?_
      refine w_aload X11 (pc' := 83) at_81 rfl rfl rfl ?_
      refine w_virtualV X11 (pc' := 86) at_83 (rm5 hw (h0 := h9) (sd_size X11) b7 Fh9 Fl9) (hw _ (List.mem_of_getElem? (i := 29) rfl)) (hw _ (List.mem_of_getElem? (i := 30) rfl)) (hw _ (List.mem_of_getElem? (i := 32) rfl)) (hw _ (List.mem_of_getElem? (i := 31) rfl)) (hw _ (List.mem_of_getElem? (i := 3) rfl)) (hw _ (List.mem_of_getElem? (i := 33) rfl)) A7_10 (by decide) [] [] pd_5 rfl rfl rfl rfl 0 (Nat.le_refl _) (by decide) (by decide) (by decide) (by decide) rfl fun T13 h13 v13 X13 q13 => ?_
      obtain ⟨rfl, rfl⟩ := q13
      refine w_iload X13 (pc' := 88) at_86 rfl rfl ?_
      refine w_icmp_ne X13 95 91 at_88 (by decide) rfl rfl (fun hc88 => by exfalso; exact hc88 (by rw [own_pass, if_neg (own_mx.mp hc70)])) (fun hc88 => ?_)
      refine w_iconst X13 (pc' := 92) (1 : Int32) at_91 rfl rfl ?_
      refine w_goto X13 (pc' := 96) at_92 (by decide) rfl ?_
      exact w_zreturn X13 at_96 rfl (by decide) (by decide)
  · skip
    refine w_lload X0 (pc' := 20) at_18 rfl rfl ?_
    refine w_lload X0 (pc' := 22) at_20 rfl rfl ?_
    refine w_ladd X0 (pc' := 23) at_22 rfl ?_
    refine w_goto X0 (pc' := 27) at_23 (by decide) rfl ?_
    refine w_lstore X0 (pc' := 29) (l' := #[.val (.long q1), .second, .val (.long q2), .second, .val (.long q3), .second, .val (.long q4), .second, .val (.int p5), .val (.long (((((p5.toUInt32 >>> ((1 : Int32) &&& 31).toUInt32).toInt32) % (3 : Int32)).toInt64) - (1 : Int64))), .second, .val (.long (q3 + (((((p5.toUInt32 >>> ((1 : Int32) &&& 31).toUInt32).toInt32) % (3 : Int32)).toInt64) - (1 : Int64)))), .second, .unset, .unset, .unset]) at_27 rfl rfl ?_
    refine w_iconst X0 (pc' := 30) (2 : Int32) at_29 rfl rfl ?_
    refine w_newarray X0 (pc' := 32) 2 2 at_30 (hw _ (List.mem_of_getElem? (i := 0) rfl)) (by decide) (by decide) (by decide) (by decide) (by decide) rfl fun T14 h14 b14 g14 gn14 X14 E14 A14 => ?_
    replace A14 : Ary Z h14 b14 .long 2 (fun _ => (.long (0 : Int64))) := A14
    refine w_dup X14 (pc' := 33) at_32 rfl rfl ?_
    refine w_iconst X14 (pc' := 34) (0 : Int32) at_33 rfl rfl ?_
    refine w_lload X14 (pc' := 36) at_34 rfl rfl ?_
    refine w_lastore X14 (pc' := 37) 0 at_36 A14 (by decide) (by decide) gn14 rfl fun T16 h16 X16 W16 A16 => ?_
    refine w_dup X16 (pc' := 38) at_37 rfl rfl ?_
    refine w_iconst X16 (pc' := 39) (1 : Int32) at_38 rfl rfl ?_
    refine w_lloadN X16 (pc' := 40) at_39 rfl rfl ?_
    refine w_lastore X16 (pc' := 41) 1 at_40 A16 (by decide) (by decide) gn14 rfl fun T18 h18 X18 W18 A18 => ?_
    refine w_astore X18 (pc' := 43) (l' := #[.val (.long q1), .second, .val (.long q2), .second, .val (.long q3), .second, .val (.long q4), .second, .val (.int p5), .val (.long (((((p5.toUInt32 >>> ((1 : Int32) &&& 31).toUInt32).toInt32) % (3 : Int32)).toInt64) - (1 : Int64))), .second, .val (.long (q3 + (((((p5.toUInt32 >>> ((1 : Int32) &&& 31).toUInt32).toInt32) % (3 : Int32)).toInt64) - (1 : Int64)))), .second, .val (.ref b14), .unset, .unset]) at_41 rfl rfl rfl ?_
    refine w_new X18 (pc' := 46) at_43 (hw _ (List.mem_of_getElem? (i := 1) rfl)) (hw _ (List.mem_of_getElem? (i := 2) rfl)) (hw _ (List.mem_of_getElem? (i := 3) rfl)) (by decide) (by decide) rfl fun T20 h20 b20 g20 gn20 X20 E20 A20 D20 => ?_
    have ne_b14_b20 : b14 ≠ b20 := ne_new g20 A18.lt
    have A18_21 := A18.ext E20
    have FnhceAverage_20 : Fld Z h20 b20 "com/example/vestwright/vestwright/Nondiscrimination$Outcome" "nhceAverage" "J" (.long (0 : Int64)) := D20 (Or.inr (hw _ (List.mem_of_getElem? (i := 16) rfl))) (ty := .long) (by decide)
    have FhceAverage_20 : Fld Z h20 b20 "com/example/vestwright/vestwright/Nondiscrimination$Outcome" "hceAverage" "J" (.long (0 : Int64)) := D20 (Or.inr (hw _ (List.mem_of_getElem? (i := 18) rfl))) (ty := .long) (by decide)
    have Flimit_20 : Fld Z h20 b20 "com/example/vestwright/vestwright/Nondiscrimination$Outcome" "limit" "J" (.long (0 : Int64)) := D20 (Or.inr (hw _ (List.mem_of_getElem? (i := 20) rfl))) (ty := .long) (by decide)
    have FexcessTotalCents_20 : Fld Z h20 b20 "com/example/vestwright/vestwright/Nondiscrimination$Outcome" "excessTotalCents" "J" (.long (0 : Int64)) := D20 (Or.inr (hw _ (List.mem_of_getElem? (i := 22) rfl))) (ty := .long) (by decide)
    have FexcessCents_20 : Fld Z h20 b20 "com/example/vestwright/vestwright/Nondiscrimination$Outcome" "excessCents" "[J" .null := D20 (Or.inr (hw _ (List.mem_of_getElem? (i := 24) rfl))) (ty := (.array .long)) (by decide)
    refine w_dup X20 (pc' := 47) at_46 rfl rfl ?_
    refine w_lloadN X20 (pc' := 48) at_47 rfl rfl ?_
    refine w_lload X20 (pc' := 50) at_48 rfl rfl ?_
    refine w_lload X20 (pc' := 52) at_50 rfl rfl ?_
    refine w_lload X20 (pc' := 54) at_52 rfl rfl ?_
    refine w_aload X20 (pc' := 56) at_54 rfl rfl rfl ?_
    refine w_specialN X20 (pc' := 59) at_56 (rm1 hw (h0 := h20) (sd_size X20) b20 q1 (q3 + (((((p5.toUInt32 >>> ((1 : Int32) &&& 31).toUInt32).toInt32) % (3 : Int32)).toInt64) - (1 : Int64))) q3 q4 b14 A20 gn20 FnhceAverage_20 FhceAverage_20 Flimit_20 FexcessTotalCents_20 FexcessCents_20) (hw _ (List.mem_of_getElem? (i := 4) rfl)) (hw _ (List.mem_of_getElem? (i := 5) rfl)) (hw _ (List.mem_of_getElem? (i := 3) rfl)) (hw _ (List.mem_of_getElem? (i := 6) rfl)) rfl (by decide) [(.long q1), (.long (q3 + (((((p5.toUInt32 >>> ((1 : Int32) &&& 31).toUInt32).toInt32) % (3 : Int32)).toInt64) - (1 : Int64)))), (.long q3), (.long q4), (.ref b14)] [(.ref b20)] pd_1 rfl rfl rfl rfl 1 (Nat.le_refl _) (by decide) (by decide) (by decide) (by decide) rfl fun T22 h22 X22 q22 => ?_
    obtain ⟨K22, Fh22, Fl22⟩ := q22
    have A20_23 := A20.keep K22
    have A18_23 := A18_21.keep K22 (ninS ne_b14_b20 nin0)
    refine w_astore X22 (pc' := 61) (l' := #[.val (.long q1), .second, .val (.long q2), .second, .val (.long q3), .second, .val (.long q4), .second, .val (.int p5), .val (.long (((((p5.toUInt32 >>> ((1 : Int32) &&& 31).toUInt32).toInt32) % (3 : Int32)).toInt64) - (1 : Int64))), .second, .val (.long (q3 + (((((p5.toUInt32 >>> ((1 : Int32) &&& 31).toUInt32).toInt32) % (3 : Int32)).toInt64) - (1 : Int64)))), .second, .val (.ref b14), .val (.ref b20), .unset]) at_59 rfl rfl rfl ?_
    refine w_lload X22 (pc' := 63) at_61 rfl rfl ?_
    refine w_lload X22 (pc' := 65) at_63 rfl rfl ?_
    refine w_staticV X22 (pc' := 68) at_65 (rm4 hw (h0 := h22) (sd_size X22) (q3 + (((((p5.toUInt32 >>> ((1 : Int32) &&& 31).toUInt32).toInt32) % (3 : Int32)).toInt64) - (1 : Int64))) q3) (hw _ (List.mem_of_getElem? (i := 25) rfl)) (hw _ (List.mem_of_getElem? (i := 26) rfl)) (hw _ (List.mem_of_getElem? (i := 27) rfl)) (hw _ (List.mem_of_getElem? (i := 28) rfl)) (by decide) [(.long (q3 + (((((p5.toUInt32 >>> ((1 : Int32) &&& 31).toUInt32).toInt32) % (3 : Int32)).toInt64) - (1 : Int64)))), (.long q3)] [] pd_4 rfl rfl rfl rfl 0 (Nat.le_refl _) (by decide) (by decide) (by decide) (by decide) rfl fun T24 h24 v24 X24 q24 => ?_
    obtain ⟨rfl, rfl⟩ := q24
    refine w_lload X24 (pc' := 70) at_68 rfl rfl ?_
    refine w_lc_ne X24 78 74 at_70 at_71 (by decide) rfl rfl (fun hc70 => ?_) (fun hc70 => ?_)
    · skip
      refine w_iconst X24 (pc' := 79) (0 : Int32) at_78 rfl rfl ?_
      refine w_istore X24 (pc' := 81) (l' := #[.val (.long q1), .second, .val (.long q2), .second, .val (.long q3), .second, .val (.long q4), .second, .val (.int p5), .val (.long (((((p5.toUInt32 >>> ((1 : Int32) &&& 31).toUInt32).toInt32) % (3 : Int32)).toInt64) - (1 : Int64))), .second, .val (.long (q3 + (((((p5.toUInt32 >>> ((1 : Int32) &&& 31).toUInt32).toInt32) % (3 : Int32)).toInt64) - (1 : Int64)))), .second, .val (.ref b14), .val (.ref b20), .val (.int (0 : Int32))]) at_79 rfl rfl ?_
      refine w_aload X24 (pc' := 83) at_81 rfl rfl rfl ?_
      refine w_virtualV X24 (pc' := 86) at_83 (rm5 hw (h0 := h22) (sd_size X24) b20 Fh22 Fl22) (hw _ (List.mem_of_getElem? (i := 29) rfl)) (hw _ (List.mem_of_getElem? (i := 30) rfl)) (hw _ (List.mem_of_getElem? (i := 32) rfl)) (hw _ (List.mem_of_getElem? (i := 31) rfl)) (hw _ (List.mem_of_getElem? (i := 3) rfl)) (hw _ (List.mem_of_getElem? (i := 33) rfl)) A20_23 (by decide) [] [] pd_5 rfl rfl rfl rfl 0 (Nat.le_refl _) (by decide) (by decide) (by decide) (by decide) rfl fun T25 h25 v25 X25 q25 => ?_
      obtain ⟨rfl, rfl⟩ := q25
      refine w_iload X25 (pc' := 88) at_86 rfl rfl ?_
      refine w_icmp_ne X25 95 91 at_88 (by decide) rfl rfl (fun hc88 => by exfalso; exact hc88 (by rw [own_pass, if_pos (Decidable.not_not.mp fun z => hc70 (own_mx.mpr z))])) (fun hc88 => ?_)
      refine w_iconst X25 (pc' := 92) (1 : Int32) at_91 rfl rfl ?_
      refine w_goto X25 (pc' := 96) at_92 (by decide) rfl ?_
      exact w_zreturn X25 at_96 rfl (by decide) (by decide)
    · skip
      refine w_iconst X24 (pc' := 75) (1 : Int32) at_74 rfl rfl ?_
      refine w_goto X24 (pc' := 79) at_75 (by decide) rfl ?_
      refine w_istore X24 (pc' := 81) (l' := #[.val (.long q1), .second, .val (.long q2), .second, .val (.long q3), .second, .val (.long q4), .second, .val (.int p5), .val (.long (((((p5.toUInt32 >>> ((1 : Int32) &&& 31).toUInt32).toInt32) % (3 : Int32)).toInt64) - (1 : Int64))), .second, .val (.long (q3 + (((((p5.toUInt32 >>> ((1 : Int32) &&& 31).toUInt32).toInt32) % (3 : Int32)).toInt64) - (1 : Int64)))), .second, .val (.ref b14), .val (.ref b20), .val (.int (1 : Int32))]) at_79 rfl rfl ?_
      refine w_aload X24 (pc' := 83) at_81 rfl rfl rfl ?_
      refine w_virtualV X24 (pc' := 86) at_83 (rm5 hw (h0 := h22) (sd_size X24) b20 Fh22 Fl22) (hw _ (List.mem_of_getElem? (i := 29) rfl)) (hw _ (List.mem_of_getElem? (i := 30) rfl)) (hw _ (List.mem_of_getElem? (i := 32) rfl)) (hw _ (List.mem_of_getElem? (i := 31) rfl)) (hw _ (List.mem_of_getElem? (i := 3) rfl)) (hw _ (List.mem_of_getElem? (i := 33) rfl)) A20_23 (by decide) [] [] pd_5 rfl rfl rfl rfl 0 (Nat.le_refl _) (by decide) (by decide) (by decide) (by decide) rfl fun T26 h26 v26 X26 q26 => ?_
      obtain ⟨rfl, rfl⟩ := q26
      refine w_iload X26 (pc' := 88) at_86 rfl rfl ?_
      refine w_icmp_ne X26 95 91 at_88 (by decide) rfl rfl (fun hc88 => by exfalso; exact hc88 (by rw [own_pass, if_neg (own_mx.mp hc70)])) (fun hc88 => ?_)
      refine w_iconst X26 (pc' := 92) (1 : Int32) at_91 rfl rfl ?_
      refine w_goto X26 (pc' := 96) at_92 (by decide) rfl ?_
      exact w_zreturn X26 at_96 rfl (by decide) (by decide)
set_option maxRecDepth 65536 in
set_option maxHeartbeats 40000000 in
theorem comes_1 {Post : Tables → Env → Array Value → State → Outcome → State → Prop} (hpost : ∀ tb e args s v u, (limb_1_1.after args s (.returned v) u = true ∧ limb_1_2.after args s (.returned v) u = true ∧ True) → FrameEnd s (.returned v) u (Jvm.fieldLocs frame_1_writes args s ++ Jvm.arrayLocs frame_1_arrays args s ++ Jvm.staticLocs frame_1_statics s) 16 128 → Post tb e args s (.returned v) u) :
    ArmFor flags0 classFile x code maxLocals ret World_1 tables_1 room_1 Calls_1 rest_1 Pre_1 Post := by
  intro l hfl _ _ p e ha hc hk s m args below hf hA hF happ hP
  obtain ⟨hcalls, hrest, hpre⟩ := hP
  obtain ⟨-, -, -, hnamed, -, -, -, hat⟩ := (Spec.applies_iff hf).mp happ
  obtain ⟨hg, hn⟩ := and_e (Cond.before_iff.mp (show (Jvm.Cond.and given_1 narrow_1).before args s = true from hpre))
  obtain ⟨hcount, k0⟩ := and_e hg
  obtain ⟨ka0, k1⟩ := and_e k0
  obtain ⟨ka1, k2⟩ := and_e k1
  obtain ⟨ka2, k3⟩ := and_e k2
  obtain ⟨ka3, k4⟩ := and_e k3
  obtain ⟨w0, w1, w2, w3, w4, rfl⟩ : ∃ w0 w1 w2 w3 w4 : Value, args = #[w0, w1, w2, w3, w4] := by
    have hs : args.size = 5 := by simpa [Cond.value, given_1] using hcount
    obtain ⟨L⟩ := args
    match L, hs with
    | [w0, w1, w2, w3, w4], _ => exact ⟨w0, w1, w2, w3, w4, rfl⟩
  have hw := fun d (hd : d ∈ tables_1) => atoms_spec (ws := Jvm.Cond.code x code maxLocals ret :: tables_1) hat d (List.mem_cons_of_mem _ hd)
  have hfit : Fit s := fun {y c} hc i hi => by
    obtain ⟨ha, rfl⟩ := Array.getElem?_eq_some_iff.mp hc
    have q := List.all_eq_true.mp ((Array.all_eq_true_iff_forall_mem.mp hF) _ (Array.getElem_mem ha)) i (List.mem_range.mpr hi)
    simpa [Array.getElem?_eq_getElem hi] using q
  obtain ⟨i0, ei0⟩ := isL_v ka0
  obtain rfl : w0 = (.long i0) := Option.some.inj ei0
  obtain ⟨i1, ei1⟩ := isL_v ka1
  obtain rfl : w1 = (.long i1) := Option.some.inj ei1
  obtain ⟨i2, ei2⟩ := isL_v ka2
  obtain rfl : w2 = (.long i2) := Option.some.inj ei2
  obtain ⟨i3, ei3⟩ := isL_v ka3
  obtain rfl : w3 = (.long i3) := Option.some.inj ei3
  obtain ⟨i4, ei4⟩ := is_v k4
  obtain rfl : w4 = (.int i4) := Option.some.inj ei4
  obtain ⟨n, o, h1, h2, h3, _, L, rfl, ⟨N, _, rfl, rfl⟩, hq⟩ := rm0 (l := l) hw (Nat.le_refl s.heap.size) i0 i1 i2 i3 i4  tables_1 p e ha hc hk s m _ below hf ((Spec.applies_iff_loose hf).mp happ).1 ⟨rfl, State.Warmed39.refl s, rfl⟩ trivial
  exact ⟨n, _, h1, h2, h3, hpost _ _ _ _ _ _ ⟨Cond.after_iff.mpr rfl, Cond.after_iff.mpr (eq_i res_at (Term.int_eval (1)) rfl), trivial⟩ ⟨hq.1, hq.2.1, (hq.2.2.sift fun y hy => Or.inr (N y hy)).mono (by decide) (by decide)⟩⟩
theorem main_1_1 : Claimed_1_1 := comes_1 fun _ _ _ _ _ _ h hF => ⟨h.1, hF⟩
theorem main_1_2 : Claimed_1_2 := comes_1 fun _ _ _ _ _ _ h hF => ⟨h.2.1, hF⟩
end Jvm.Pilot.@@N@@
namespace Jvm.Pilot.@@N@@
open Jvm Jvm.ClassFile Sem Op Lib Jvm.Free Jvm.Stand Jvm.Pilot.@@N@@.Jvm.D
/-! MADE BY PROGRAM (witnessworld.py) out of the Statement's table words and the real class files: 13 classes; the members and pool entries that the words name. The judged class is class 1, her method 1. -/
namespace start1
open Jvm.ClassFile
def u (s : String) : CpInfo := .utf8 (stringToUtf16 s)
/-- a pool by its gaps: so many unusable entries, then the entry; so many at the end -/
def gap : Nat → List CpInfo → List CpInfo
  | 0, r => r
  | n + 1, r => .unusable :: gap n r
def poolList (es : List (Nat × CpInfo)) (last : Nat) : List CpInfo := es.foldr (fun e r => gap e.1 (e.2 :: r)) (gap last [])
def pool (es : List (Nat × CpInfo)) (last : Nat) : Array CpInfo := ⟨poolList es last⟩
def fileOf (pool : Array CpInfo) (this : Nat) (attrs : Array Attribute := #[]) (ms : Array MethodInfo := #[]) (fl : Nat := 33) (sup : Nat := 0) (ifs : Array Nat := #[]) (fds : Array FieldInfo := #[]) : ClassFile where
  minorVersion := 0
  majorVersion := 65
  constantPool := pool
  accessFlags := fl
  thisClass := this
  superClass := sup
  interfaces := ifs
  fields := fds
  methods := ms
  attributes := attrs
def plain (name : String) (sup : Option ClassId) : Class where
  name := name
  kind := .ordinary
  loader := none
  accessFlags := 33
  super := sup
  interfaces := #[]
  cf := none
  fields := #[]
  methods := #[]
  instanceTypes := #[]
  staticTypes := #[]
  resolved := #[]
  callSites := []
  init := .initialized
  statics := none
  mirror := none

def pool0 : Array CpInfo := pool [(5, u "<init>"), (0, u "()V"), (1, .class_ 10), (1, u "java/lang/Object")] 113

def k0c0 : Code := { maxStack := 0, maxLocals := 1, code := object_method_1_code, exceptionTable := #[], attributes := #[] }
def k0m0 : Method := { name := "<init>", desc := "()V", sig := { parameters := [], returnType := none }, accessFlags := 1, code := some k0c0 }
/-- java/lang/Object -/
def k0 : Class := { plain "java/lang/Object" none with
  accessFlags := 33
  interfaces := #[]
  cf := some (fileOf pool0 8 #[] #[{ accessFlags := 1, nameIndex := 5, descriptorIndex := 6, attributes := #[] }] 33 0 #[] #[])
  fields := #[]
  methods := #[k0m0]
  instanceTypes := #[]
  staticTypes := #[]
  resolved := Array.replicate 124 none
  statics := none }

def pool1 : Array CpInfo := pool [(2, .class_ 4), (1, u "java/lang/Object"), (0, u "<init>"), (0, u "()V"), (0, .class_ 8), (0, u "com/example/vestwright/vestwright/Nondiscrimination$Outcome"), (0, .methodref 7 10), (0, .nameAndType 5 11), (0, u "(JJJJ[J)V"), (0, .methodref 13 14), (0, .class_ 15), (0, .nameAndType 16 17), (0, u "java/lang/Math"), (0, u "max"), (0, u "(JJ)J"), (0, .methodref 7 19), (0, .nameAndType 20 21), (0, u "passed"), (0, u "()Z"), (0, .class_ 23), (0, u "com/example/vestwright/vestwright/OutcomePassedPinLaw"), (2, u "law"), (0, u "(JJJJI)Z")] 9

def k1m0 : Method := { name := "<init>", desc := "()V", sig := { parameters := [], returnType := none }, accessFlags := 2, code := none }
def k1c1 : Code := { maxStack := 11, maxLocals := 16, code := code, exceptionTable := #[], attributes := #[] }
def k1m1 : Method := { name := "law", desc := "(JJJJI)Z", sig := { parameters := [.long, .long, .long, .long, .int], returnType := some .boolean }, accessFlags := 9, code := some k1c1 }
/-- com/example/vestwright/vestwright/OutcomePassedPinLaw -/
def k1 : Class := { plain "com/example/vestwright/vestwright/OutcomePassedPinLaw" (some 0) with
  accessFlags := 49
  interfaces := #[]
  cf := some (fileOf pool1 22 #[] #[{ accessFlags := 2, nameIndex := 5, descriptorIndex := 6, attributes := #[] }, { accessFlags := 9, nameIndex := 26, descriptorIndex := 27, attributes := #[] }] 49 2 #[] #[])
  fields := #[]
  methods := #[k1m0, k1m1]
  instanceTypes := #[]
  staticTypes := #[]
  resolved := Array.replicate 37 none
  statics := none }

def pool2 : Array CpInfo := pool [(1, .methodref 2 3), (0, .class_ 4), (0, .nameAndType 5 6), (0, u "java/lang/Object"), (0, u "<init>"), (0, u "()V"), (0, .class_ 8), (0, u "java/lang/Record")] 13

def k2c0 : Code := { maxStack := 1, maxLocals := 1, code := jdk_30_method_1_code, exceptionTable := #[], attributes := #[] }
def k2m0 : Method := { name := "<init>", desc := "()V", sig := { parameters := [], returnType := none }, accessFlags := 4, code := some k2c0 }
/-- java/lang/Record -/
def k2 : Class := { plain "java/lang/Record" (some 0) with
  accessFlags := 1057
  interfaces := #[]
  cf := some (fileOf pool2 7 #[] #[{ accessFlags := 4, nameIndex := 5, descriptorIndex := 6, attributes := #[] }] 1057 2 #[] #[])
  fields := #[]
  methods := #[k2m0]
  instanceTypes := #[]
  staticTypes := #[]
  resolved := Array.replicate 22 none
  statics := none }

def pool3 : Array CpInfo := pool [(1, .methodref 2 3), (0, .class_ 4), (0, .nameAndType 5 6), (0, u "java/lang/Record"), (0, u "<init>"), (0, u "()V"), (0, .fieldref 8 9), (0, .class_ 10), (0, .nameAndType 11 12), (0, u "com/example/vestwright/vestwright/Nondiscrimination$Outcome"), (0, u "nhceAverage"), (0, u "J"), (0, .fieldref 8 14), (0, .nameAndType 15 12), (0, u "hceAverage"), (0, .fieldref 8 17), (0, .nameAndType 18 12), (0, u "limit"), (0, .fieldref 8 20), (0, .nameAndType 21 12), (0, u "excessTotalCents"), (0, .fieldref 8 23), (0, .nameAndType 24 25), (0, u "excessCents"), (0, u "[J"), (12, u "(JJJJ[J)V"), (3, u "passed"), (0, u "()Z"), (9, .class_ 54), (0, u "com/example/vestwright/vestwright/Nondiscrimination")] 23

def k3c0 : Code := { maxStack := 3, maxLocals := 10, code := prog_52_method_1_code, exceptionTable := #[], attributes := #[] }
def k3m0 : Method := { name := "<init>", desc := "(JJJJ[J)V", sig := { parameters := [.long, .long, .long, .long, (.array .long)], returnType := none }, accessFlags := 0, code := some k3c0 }
def k3c1 : Code := { maxStack := 4, maxLocals := 1, code := prog_52_method_2_code, exceptionTable := #[], attributes := #[] }
def k3m1 : Method := { name := "passed", desc := "()Z", sig := { parameters := [], returnType := some .boolean }, accessFlags := 0, code := some k3c1 }
/-- com/example/vestwright/vestwright/Nondiscrimination$Outcome -/
def k3 : Class := { plain "com/example/vestwright/vestwright/Nondiscrimination$Outcome" (some 2) with
  accessFlags := 48
  interfaces := #[]
  cf := some (fileOf pool3 8 #[.nestHost 53] #[{ accessFlags := 0, nameIndex := 5, descriptorIndex := 38, attributes := #[] }, { accessFlags := 0, nameIndex := 42, descriptorIndex := 43, attributes := #[] }] 48 2 #[] #[{ accessFlags := 18, nameIndex := 11, descriptorIndex := 12, attributes := #[] }, { accessFlags := 18, nameIndex := 15, descriptorIndex := 12, attributes := #[] }, { accessFlags := 18, nameIndex := 18, descriptorIndex := 12, attributes := #[] }, { accessFlags := 18, nameIndex := 21, descriptorIndex := 12, attributes := #[] }, { accessFlags := 18, nameIndex := 24, descriptorIndex := 25, attributes := #[] }])
  fields := #[{ name := "nhceAverage", type := .long, accessFlags := 18, slot := 0, constantValue := 0 }, { name := "hceAverage", type := .long, accessFlags := 18, slot := 1, constantValue := 0 }, { name := "limit", type := .long, accessFlags := 18, slot := 2, constantValue := 0 }, { name := "excessTotalCents", type := .long, accessFlags := 18, slot := 3, constantValue := 0 }, { name := "excessCents", type := (.array .long), accessFlags := 18, slot := 4, constantValue := 0 }]
  methods := #[k3m0, k3m1]
  instanceTypes := #[.long, .long, .long, .long, (.array .long)]
  staticTypes := #[]
  resolved := Array.replicate 78 none
  statics := none }

def pool4 : Array CpInfo := pool [(1, .class_ 2), (0, u "java/lang/Math"), (1, .class_ 6), (1, u "java/lang/Object"), (0, u "<init>"), (0, u "()V"), (89, .class_ 100), (1, u "java/lang/Math$RandomNumberGeneratorHolder"), (20, u "(JJ)J"), (50, u "negativeZeroFloatBits"), (0, u "J"), (2, u "negativeZeroDoubleBits"), (21, u "max"), (46, u "$assertionsDisabled"), (0, u "Z"), (91, u "twoToTheDoubleScaleDown"), (0, u "D"), (4, u "twoToTheDoubleScaleUp"), (9, u "E"), (3, u "PI"), (2, u "TAU"), (2, u "DEGREES_TO_RADIANS"), (0, u "RADIANS_TO_DEGREES")] 94

def k4m0 : Method := { name := "<init>", desc := "()V", sig := { parameters := [], returnType := none }, accessFlags := 2, code := none }
def k4c1 : Code := { maxStack := 4, maxLocals := 4, code := jdk_29_method_66_code, exceptionTable := #[], attributes := #[] }
def k4m1 : Method := { name := "max", desc := "(JJ)J", sig := { parameters := [.long, .long], returnType := some .long }, accessFlags := 9, code := some k4c1 }
/-- java/lang/Math -/
def k4 : Class := { plain "java/lang/Math" (some 0) with
  accessFlags := 49
  interfaces := #[]
  cf := some (fileOf pool4 1 #[.nestMembers #[98]] #[{ accessFlags := 2, nameIndex := 7, descriptorIndex := 8, attributes := #[] }, { accessFlags := 9, nameIndex := 198, descriptorIndex := 121, attributes := #[] }] 49 4 #[] #[{ accessFlags := 25, nameIndex := 354, descriptorIndex := 339, attributes := #[] }, { accessFlags := 25, nameIndex := 358, descriptorIndex := 339, attributes := #[] }, { accessFlags := 25, nameIndex := 361, descriptorIndex := 339, attributes := #[] }, { accessFlags := 26, nameIndex := 364, descriptorIndex := 339, attributes := #[] }, { accessFlags := 26, nameIndex := 365, descriptorIndex := 339, attributes := #[] }, { accessFlags := 26, nameIndex := 172, descriptorIndex := 173, attributes := #[] }, { accessFlags := 26, nameIndex := 176, descriptorIndex := 173, attributes := #[] }, { accessFlags := 8, nameIndex := 344, descriptorIndex := 339, attributes := #[] }, { accessFlags := 8, nameIndex := 338, descriptorIndex := 339, attributes := #[] }, { accessFlags := 4120, nameIndex := 245, descriptorIndex := 246, attributes := #[] }])
  fields := #[{ name := "E", type := .double, accessFlags := 25, slot := 0, constantValue := 0 }, { name := "PI", type := .double, accessFlags := 25, slot := 1, constantValue := 0 }, { name := "TAU", type := .double, accessFlags := 25, slot := 2, constantValue := 0 }, { name := "DEGREES_TO_RADIANS", type := .double, accessFlags := 26, slot := 3, constantValue := 0 }, { name := "RADIANS_TO_DEGREES", type := .double, accessFlags := 26, slot := 4, constantValue := 0 }, { name := "negativeZeroFloatBits", type := .long, accessFlags := 26, slot := 5, constantValue := 0 }, { name := "negativeZeroDoubleBits", type := .long, accessFlags := 26, slot := 6, constantValue := 0 }, { name := "twoToTheDoubleScaleUp", type := .double, accessFlags := 8, slot := 7, constantValue := 0 }, { name := "twoToTheDoubleScaleDown", type := .double, accessFlags := 8, slot := 8, constantValue := 0 }, { name := "$assertionsDisabled", type := .boolean, accessFlags := 4120, slot := 9, constantValue := 0 }]
  methods := #[k4m0, k4m1]
  instanceTypes := #[]
  staticTypes := #[.double, .double, .double, .double, .double, .long, .long, .double, .double, .boolean]
  resolved := Array.replicate 460 none
  statics := none }

def pool5 : Array CpInfo := pool [(1, u "java/lang/Cloneable"), (0, .class_ 1), (0, u "java/lang/Object"), (0, .class_ 3)] 3

/-- java/lang/Cloneable -/
def k5 : Class := { plain "java/lang/Cloneable" (some 0) with
  accessFlags := 1537
  interfaces := #[]
  cf := some (fileOf pool5 2 #[] #[] 1537 4 #[] #[])
  fields := #[]
  methods := #[]
  instanceTypes := #[]
  staticTypes := #[]
  resolved := Array.replicate 8 none
  statics := none }

def pool6 : Array CpInfo := pool [(1, u "java/io/Serializable"), (0, .class_ 1), (0, u "java/lang/Object"), (0, .class_ 3)] 3

/-- java/io/Serializable -/
def k6 : Class := { plain "java/io/Serializable" (some 0) with
  accessFlags := 1537
  interfaces := #[]
  cf := some (fileOf pool6 2 #[] #[] 1537 4 #[] #[])
  fields := #[]
  methods := #[]
  instanceTypes := #[]
  staticTypes := #[]
  resolved := Array.replicate 8 none
  statics := none }

/-- the primitive byte -/
def k7 : Class := { plain "byte" none with kind := .primitive 'B', accessFlags := 0x411 }
/-- [B -/
def k8 : Class := { plain "[B" (some 0) with kind := .array 7 .byte, interfaces := #[5, 6], accessFlags := 1041 }

/-- the primitive int -/
def k9 : Class := { plain "int" none with kind := .primitive 'I', accessFlags := 0x411 }
/-- [I -/
def k10 : Class := { plain "[I" (some 0) with kind := .array 9 .int, interfaces := #[5, 6], accessFlags := 1041 }

/-- the primitive long -/
def k11 : Class := { plain "long" none with kind := .primitive 'J', accessFlags := 0x411 }
/-- [J -/
def k12 : Class := { plain "[J" (some 0) with kind := .array 11 .long, interfaces := #[5, 6], accessFlags := 1041 }

def heap : Heap := #[]
def classes : Array Class := #[k0, k1, k2, k3, k4, k5, k6, k7, k8, k9, k10, k11, k12]
def interned : List (Array UInt16 × Addr) := []
def slotsUsed : Nat := 0
def theMethod : MethodId := ⟨1, 1⟩
def args0 : Array Value := #[.long 5, .long 6, .long 7, .long 8, .int 3]
def aboutOver (below : List Frame) : State where
  vm := { classes := classes, interned := interned.toArray }
  heap := heap
  slotsUsed := slotsUsed
  threads := #[{ frames := .invoking theMethod args0 :: below }]
def below0 : List Frame := [.native { method := ⟨0, 0⟩, args := #[] }]
def about1 : State := aboutOver below0
def p0 : Program := .bare "" "" ""
def e0 : Env := launch0.env 0 0 0
theorem w_frames : about1.frames = Frame.invoking theMethod args0 :: below0 := rfl
set_option maxRecDepth 65536 in
theorem w_args : argsFit about1.vm theMethod args0 = true := by decide +kernel
set_option maxRecDepth 65536 in
theorem w_heap : heapFits about1 = true := by decide +kernel
set_option maxRecDepth 65536 in
theorem w_runnable : about1.curStatus? = some .runnable := by decide +kernel
set_option maxRecDepth 65536 in
theorem w_alone : about1.alone = true := by decide +kernel
set_option maxRecDepth 65536 in
theorem w_named : about1.methodNamed? x = some theMethod := by decide +kernel
set_option maxRecDepth 65536 in
theorem w_hears : about1.hears theMethod below0 = true := by decide +kernel
set_option maxRecDepth 65536 in
theorem w_ripe : about1.ripe theMethod args0 below0 = true := by decide +kernel
theorem w_running : about1.status = .running := rfl
set_option maxRecDepth 65536 in
theorem w_room : about1.hasRoom e0.platform room_1 = true :=
  launch0.hasRoom_least _ room_1 (by decide +kernel) (by decide +kernel) (by decide +kernel) (by decide +kernel) (by decide +kernel) (by decide +kernel)
theorem allAtoms_all (ts : List Jvm.Cond) (a : Array Jvm.Value) (st : Jvm.State) : (allAtoms ts).before a st = ts.all (fun c => c.before a st) := by
  induction ts with
  | nil => rfl
  | cons c t ih =>
    show (Jvm.Cond.and c (allAtoms t)).before a st = _
    rw [Jvm.Cond.before_and, ih, List.all_cons]
def words1 : List Jvm.Cond := Jvm.Cond.code x code maxLocals ret :: tables_1
/-- a 'code' word, met by the world's own term for the bytes: nothing is compared byte by byte -/
theorem code_word {y : MethodName} {bytes : ByteArray} {mx : Nat} {rt : Option FieldType} {a : Array Value} {s : State} {m : MethodId} {meth : Method} {c : Code} (h1 : s.methodNamed? y = some m) (h2 : s.vm.method? m = some meth) (h3 : meth.code = some c) (h4 : c.code = bytes)
    (h5 : (c.maxLocals == mx && c.exceptionTable.isEmpty && decide (c.maxStack ≤ mostOperands) && decide (meth.sig.returnType = rt) && !meth.locks && decide (parseMethodDescriptor y.desc = some meth.sig)) = true) : (Jvm.Cond.code y bytes mx rt).before a s = true := by
  simp only [Bool.and_eq_true, beq_iff_eq, Bool.not_eq_true', decide_eq_true_eq] at h5
  obtain ⟨⟨⟨⟨⟨g1, g2⟩, g3⟩, g4⟩, g5⟩, g6⟩ := h5
  simp [Cond.before, Cond.holds, Cond.value, h1, h2, h3, h4, g1, g2, g3, g4, g5, g6]
def isCode : Jvm.Cond → Bool
  | .code _ _ _ _ => true
  | _ => false
theorem all_split {L : List Jvm.Cond} {P : Jvm.Cond → Bool} (h1 : L.all (fun c => isCode c || P c) = true) (h2 : ∀ c ∈ L.filter isCode, P c = true) : L.all P = true := by
  refine List.all_eq_true.mpr fun c hc => ?_
  have h := List.all_eq_true.mp h1 c hc
  rcases Bool.eq_false_or_eq_true (isCode c) with hi | hi
  · exact h2 c (List.mem_filter.mpr ⟨hc, hi⟩)
  · simpa [hi] using h
set_option maxRecDepth 65536 in
theorem w_c0 : (Jvm.Cond.code x code maxLocals ret).before args0 about1 = true := code_word (m := ⟨1, 1⟩) (meth := k1m1) (c := k1c1) (by decide +kernel) rfl rfl rfl (by decide +kernel)
set_option maxRecDepth 65536 in
theorem w_c1 : (Jvm.Cond.code ({ cls := "com/example/vestwright/vestwright/Nondiscrimination$Outcome", name := "<init>", desc := "(JJJJ[J)V" } : Jvm.MethodName) prog_52_method_1_code (10 : Nat) (Option.none : Option Jvm.ClassFile.FieldType)).before args0 about1 = true := code_word (m := ⟨3, 0⟩) (meth := k3m0) (c := k3c0) (by decide +kernel) rfl rfl rfl (by decide +kernel)
set_option maxRecDepth 65536 in
theorem w_c2 : (Jvm.Cond.code ({ cls := "java/lang/Record", name := "<init>", desc := "()V" } : Jvm.MethodName) jdk_30_method_1_code (1 : Nat) (Option.none : Option Jvm.ClassFile.FieldType)).before args0 about1 = true := code_word (m := ⟨2, 0⟩) (meth := k2m0) (c := k2c0) (by decide +kernel) rfl rfl rfl (by decide +kernel)
set_option maxRecDepth 65536 in
theorem w_c3 : (Jvm.Cond.code ({ cls := "java/lang/Object", name := "<init>", desc := "()V" } : Jvm.MethodName) object_method_1_code (1 : Nat) (Option.none : Option Jvm.ClassFile.FieldType)).before args0 about1 = true := code_word (m := ⟨0, 0⟩) (meth := k0m0) (c := k0c0) (by decide +kernel) rfl rfl rfl (by decide +kernel)
set_option maxRecDepth 65536 in
theorem w_c4 : (Jvm.Cond.code ({ cls := "java/lang/Math", name := "max", desc := "(JJ)J" } : Jvm.MethodName) jdk_29_method_66_code (4 : Nat) (Option.some Jvm.ClassFile.FieldType.long)).before args0 about1 = true := code_word (m := ⟨4, 1⟩) (meth := k4m1) (c := k4c1) (by decide +kernel) rfl rfl rfl (by decide +kernel)
set_option maxRecDepth 65536 in
theorem w_c5 : (Jvm.Cond.code ({ cls := "com/example/vestwright/vestwright/Nondiscrimination$Outcome", name := "passed", desc := "()Z" } : Jvm.MethodName) prog_52_method_2_code (1 : Nat) (Option.some Jvm.ClassFile.FieldType.boolean)).before args0 about1 = true := code_word (m := ⟨3, 1⟩) (meth := k3m1) (c := k3c1) (by decide +kernel) rfl rfl rfl (by decide +kernel)
def codes1 : List Jvm.Cond := [Jvm.Cond.code x code maxLocals ret, Jvm.Cond.code ({ cls := "com/example/vestwright/vestwright/Nondiscrimination$Outcome", name := "<init>", desc := "(JJJJ[J)V" } : Jvm.MethodName) prog_52_method_1_code (10 : Nat) (Option.none : Option Jvm.ClassFile.FieldType), Jvm.Cond.code ({ cls := "java/lang/Record", name := "<init>", desc := "()V" } : Jvm.MethodName) jdk_30_method_1_code (1 : Nat) (Option.none : Option Jvm.ClassFile.FieldType), Jvm.Cond.code ({ cls := "java/lang/Object", name := "<init>", desc := "()V" } : Jvm.MethodName) object_method_1_code (1 : Nat) (Option.none : Option Jvm.ClassFile.FieldType), Jvm.Cond.code ({ cls := "java/lang/Math", name := "max", desc := "(JJ)J" } : Jvm.MethodName) jdk_29_method_66_code (4 : Nat) (Option.some Jvm.ClassFile.FieldType.long), Jvm.Cond.code ({ cls := "com/example/vestwright/vestwright/Nondiscrimination$Outcome", name := "passed", desc := "()Z" } : Jvm.MethodName) prog_52_method_2_code (1 : Nat) (Option.some Jvm.ClassFile.FieldType.boolean)]
set_option maxRecDepth 65536 in
theorem codes_eq : words1.filter isCode = codes1 := rfl
theorem w_codes : ∀ c ∈ words1.filter isCode, c.before args0 about1 = true := by
  rw [codes_eq]
  intro c hc
  simp only [codes1, List.mem_cons, List.not_mem_nil, or_false] at hc
  rcases hc with rfl | rfl | rfl | rfl | rfl | rfl
  · exact w_c0
  · exact w_c1
  · exact w_c2
  · exact w_c3
  · exact w_c4
  · exact w_c5
set_option maxRecDepth 65536 in
theorem w_t1 : (words1.take 24).all (fun c => isCode c || c.before args0 about1) = true := by decide +kernel
set_option maxRecDepth 65536 in
theorem w_t2 : (words1.drop 24).all (fun c => isCode c || c.before args0 about1) = true := by decide +kernel
theorem w_tables : (allAtoms (Jvm.Cond.code x code maxLocals ret :: tables_1)).before args0 about1 = true := by
  rw [allAtoms_all]
  show words1.all (fun c => c.before args0 about1) = true
  refine all_split ?_ w_codes
  rw [← List.take_append_drop 24 words1, List.all_append, w_t1, w_t2]
  rfl
set_option maxRecDepth 65536 in
theorem w_case : (Jvm.Cond.and given_1 narrow_1).before args0 about1 = true := by decide +kernel
theorem w_applies : (headSpec (Jvm.Cond.code x code maxLocals ret :: tables_1) room_1).applies x e0.platform about1 = true :=
  (Spec.applies_iff w_frames).mpr ⟨w_running, w_runnable, w_alone, w_named, w_hears, w_ripe, w_room, w_tables⟩
theorem atStart : AtStart classFile x code maxLocals ret World_1 tables_1 room_1 Calls_1 rest_1 Pre_1 launch0 p0 e0 about1 theMethod args0 below0 :=
  ⟨lists_1, trivial, launch0.admits_env _ _ _, launch0.least_env, fairChoices_fair.cas, fairChoices_fair.clock, w_frames, w_args, w_heap, w_applies, trivial, trivial, w_case⟩
end start1
theorem witness_1 : WitnessClaimed_1 := ⟨start1.p0, start1.e0, start1.about1, start1.theMethod, start1.args0, start1.below0, start1.atStart⟩
end Jvm.Pilot.@@N@@
