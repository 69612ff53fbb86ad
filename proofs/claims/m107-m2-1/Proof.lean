import JvmDerived
import JvmDerived.Pilot.@@N@@Statement
import JvmDerived.Pilot.@@N@@Code
set_option linter.unusedVariables false
set_option linter.unusedSimpArgs false
namespace Jvm.Pilot.@@N@@
open Jvm Jvm.ClassFile Sem Op Lib Jvm.Free Jvm.Stand Jvm.LawKit Jvm.RoadKit Bundle Jvm.Pilot.@@N@@.Jvm.D
/-! ## OWN KIT: a symbolic heap (Ob, Is, Hp), the place of a walk (St), what is still to run (Go), contracts (Con) -/
abbrev Ob := Sum (String × List (String × String × String) × List Value) (FieldType × List Value)
def Is (Z : State) (h : Heap) (a : Addr) : Ob → Prop
  | .inl (C, fs, vs) => Exa Z h a C ∧ ∀ (i : Nat) (f : String × String × String) (v : Value), fs[i]? = some f → vs[i]? = some v → Fld Z h a f.1 f.2.1 f.2.2 v
  | .inr (ty, vs) => ∃ c : Cell, Arr Z h a c ty ∧ (∀ C, ty = .object C → Ovr Z c.cls C) ∧ c.slots = vs.toArray ∧ vs.length < 2 ^ 31 ∧ ∀ v ∈ vs, fits ty v = true
def Hp (Z : State) (h0 : Heap) (n0 : Nat) (Ls : List Ob) (h : Heap) : Prop := h0.size = n0 ∧ Ext h0 h ∧ h.size = n0 + Ls.length ∧ ∀ (k : Nat) (o : Ob), Ls[k]? = some o → Is Z h (n0 + k) o
/-- the object at the address a: one of the new ones, or one of the start's -/
def Lk (Z : State) (h0 : Heap) (n0 : Nat) (Ls : List Ob) (a : Addr) (o : Ob) : Prop := (∃ k, a = n0 + k ∧ Ls[k]? = some o) ∨ Is Z h0 a o
def St (p : Program) (l : Launch) (e : Env) (R : Room) (s : State) (m : MethodId) (args : Array Value) (below : List Frame) (meth : Method) (c : Code) (Z : State) (y : MethodName) (bytes : ByteArray) (ml : Nat) (ret : Option FieldType) (h0 : Heap) (n0 : Nat) (T : State) (Ls : List Ob) (cells slots : Nat) : Prop :=
  (p.tables.exec = Jvm.exec ∧ Z.Warmed39 s.vm ∧ s.vm.findClass y.cls = some m.cls ∧ c.code = bytes ∧ c.maxLocals = ml ∧ meth.name = y.name ∧ meth.sig.returnType = ret ∧ meth.locks = false) ∧
  ∃ locs, Stand p l e R s m args below meth c T locs cells slots ∧ Fr n0 locs ∧ Hp Z h0 n0 Ls T.heap
def Go (p : Program) (e : Env) (below : List Frame) (F : State → Outcome → Prop) (T : State) (g : JFrame) : Prop := ∃ t o, Steps p.tables e below (T.setTop g) t ∧ t.status = .running ∧ Ended t below o ∧ F t o
/-- what a method's end must be: it returns v with the heap Ls', as P says -/
def Fin1 (Z : State) (h0 : Heap) (n0 : Nat) (s : State) (rm : Room) (P : Option Value → List Ob → Prop) (t : State) (o : Outcome) : Prop :=
  ∃ v L, o = .returned v ∧ (∃ Ls', P v Ls' ∧ Fr n0 L ∧ Hp Z h0 n0 Ls' t.heap) ∧ FrameEnd s o t L rm.cells rm.slots
def Met1 (l : Launch) (Z : State) (y : MethodName) (bytes : ByteArray) (ml : Nat) (ret : Option FieldType) (rm : Room) (as' : Array Value) (h0 : Heap) (n0 : Nat) (Ls : List Ob) (P : Option Value → List Ob → Prop) (ws : List Jvm.Cond) : Prop :=
  ∀ h, Hp Z h0 n0 Ls h → MetFree l y (head1 (Cond.code y bytes ml ret :: ws) rm) (fun a U => a = as' ∧ Z.Warmed39 U.vm ∧ U.heap = h) (fun _ _ _ _ _ => True) (fun _ U o U' => ∃ v L, o = .returned v ∧ (∃ Ls', P v Ls' ∧ Fr n0 L ∧ Hp Z h0 n0 Ls' U'.heap) ∧ FrameEnd U o U' L rm.cells rm.slots)
abbrev Con (l : Launch) (Z : State) (y : MethodName) (bytes : ByteArray) (ml : Nat) (ret : Option FieldType) (rm : Room) (as' : Array Value) (h0 : Heap) (n0 : Nat) (Ls : List Ob) (P : Option Value → List Ob → Prop) : Prop := Met1 l Z y bytes ml ret rm as' h0 n0 Ls P []
/-- a class as the sheet lays it: its fields fs (owner, name, descriptor) -/
def Cls (Z : State) (a0 : Array Value) (C : String) (kk : Nat) (fs : List (String × String × String)) : Prop :=
  (Cond.instantiable C kk).before a0 Z = true ∧ (∀ (i : Nat) (f : String × String × String), fs[i]? = some f → Laid Z a0 C f.1 f.2.1 f.2.2 ∧ ∃ t, parseFieldDescriptor f.2.2 = some t) ∧ ∀ (i j : Nat) (f g : String × String × String), fs[i]? = some f → fs[j]? = some g → f.2.1 = g.2.1 → i = j
section Own
variable {p : Program} {l : Launch} {e : Env} {R : Room} {s : State} {m : MethodId} {args : Array Value} {below : List Frame} {meth : Method} {c : Code} {Z : State} {a0 : Array Value} {y : MethodName} {bytes : ByteArray} {ml : Nat} {ret : Option FieldType} {h0 h h' : Heap} {n0 : Nat} {T T' : State} {Ls Ls' : List Ob} {cells slots : Nat} {F : State → Outcome → Prop} {g g' : JFrame} {pc pc' : Nat} {ls : Array Slot} {st rest : List Value} {a b : Addr} {sl : Nat} {v : Value} {o : Ob}
theorem Is.ext (E : Ext h h') (q : Is Z h a o) : Is Z h' a o := by
  rcases o with ⟨C, fs, vs⟩ | ⟨ty, vs⟩
  · exact ⟨q.1.ext E, fun i f v h1 h2 => (q.2 i f v h1 h2).ext E⟩
  · obtain ⟨c, A, r⟩ := q; exact ⟨c, A.ext E, r⟩
theorem Is.other (W : Wr h h' b sl v) (q : Is Z h a o) (ne : a ≠ b) : Is Z h' a o := by
  rcases o with ⟨C, fs, vs⟩ | ⟨ty, vs⟩
  · exact ⟨q.1.wr W, fun i f v h1 h2 => (q.2 i f v h1 h2).other W (Or.inl ne)⟩
  · obtain ⟨c, A, r⟩ := q; exact ⟨c, A.other W ne, r⟩
theorem Is.keep {ws : List Addr} (K : Keep h h' ws) (q : Is Z h a o) (ne : a ∉ ws) : Is Z h' a o := by
  rcases o with ⟨C, fs, vs⟩ | ⟨ty, vs⟩
  · exact ⟨q.1.keep K, fun i f v h1 h2 => (q.2 i f v h1 h2).keep K ne⟩
  · obtain ⟨c, A, r⟩ := q; exact ⟨c, ⟨K.2.1 a c A.1 ne, A.2⟩, r⟩
theorem ext_trans {h1 h2 h3 : Heap} (E : Ext h1 h2) (E' : Ext h2 h3) : Ext h1 h3 := ⟨Nat.le_trans E.1 E'.1, fun a c q => E'.2 a c (E.2 a c q)⟩
theorem ext_keep {ws : List Addr} (E : Ext h0 h) (K : Keep h h' ws) (q : ∀ x ∈ ws, h0.size ≤ x) : Ext h0 h' :=
  ⟨Nat.le_trans E.1 K.1, fun a c r => K.2.1 a c (E.2 a c r) fun z => absurd (Array.getElem?_eq_some_iff.mp r).1 (Nat.not_lt.mpr (q a z))⟩
theorem Hp.start (s : State) (Z : State) : Hp Z s.heap s.heap.size [] s.heap := ⟨rfl, ⟨Nat.le_refl _, fun _ _ q => q⟩, rfl, fun k o q => by simp at q⟩
theorem Hp.at {k : Nat} (H : Hp Z h0 n0 Ls h) (q : Ls[k]? = some o) : Is Z h (n0 + k) o := H.2.2.2 k o q
theorem Hp.lk (H : Hp Z h0 n0 Ls h) (q : Lk Z h0 n0 Ls a o) : Is Z h a o := by
  rcases q with ⟨k, rfl, q⟩ | q
  · exact H.at q
  · exact q.ext H.2.1
theorem Lk.new {k : Nat} (q : Ls[k]? = some o) : Lk Z h0 n0 Ls (n0 + k) o := Or.inl ⟨k, rfl, q⟩
/-- one more cell at the end -/
theorem Hp.push {cell : Cell} (H : Hp Z h0 n0 Ls h) (q : Is Z (h.push cell) (n0 + Ls.length) o) : Hp Z h0 n0 (Ls ++ [o]) (h.push cell) := by
  obtain ⟨q1, E, q2, q3⟩ := H
  have E' : Ext h (h.push cell) := ⟨by simp, fun a c r => by
    rw [Array.getElem?_push_lt (Array.getElem?_eq_some_iff.mp r).1]; exact (Array.getElem?_eq_getElem _).symm.trans r⟩
  refine ⟨q1, ext_trans E E', by simp [q2]; omega, fun k o' r => ?_⟩
  by_cases hk : k < Ls.length
  · rw [List.getElem?_append_left hk] at r; exact (q3 k o' r).ext E'
  · rw [List.getElem?_append_right (Nat.le_of_not_lt hk)] at r
    have e0 : k - Ls.length = 0 := by
      rcases Nat.eq_zero_or_pos (k - Ls.length) with z | z
      · exact z
      · rw [List.getElem?_eq_none (by simp; omega)] at r; cases r
    rw [e0] at r
    have e1 : k = Ls.length := by omega
    cases (Option.some.inj r : o = o'); rw [e1]; exact q
/-- one object written -/
theorem Hp.wr {k : Nat} {o' : Ob} (H : Hp Z h0 n0 Ls h) (hk : Ls[k]? = some o') (W : Wr h h' (n0 + k) sl v) (q : Is Z h' (n0 + k) o) : Hp Z h0 n0 (Ls.set k o) h' := by
  obtain ⟨q1, E, q2, q3⟩ := H
  have E' : Ext h0 h' := ext_keep E (Keep.of_wr W) fun x hx => by cases List.mem_singleton.mp hx; omega
  refine ⟨q1, E', by rw [W.size, q2]; simp, fun j o2 r => ?_⟩
  rw [List.getElem?_set] at r
  by_cases e : k = j
  · subst e
    have hl : k < Ls.length := (List.getElem?_eq_some_iff.mp hk).1
    simp [hl] at r; subst r; exact q
  · rw [if_neg e] at r
    exact (q3 j o2 r).other W (fun z => e (Nat.add_left_cancel z).symm)
/-- one object written over, all else kept -/
theorem Hp.keep {k : Nat} {o' : Ob} (H : Hp Z h0 n0 Ls h) (hk : Ls[k]? = some o') (K : Keep h h' [n0 + k]) (hs : h'.size = h.size) (q : Is Z h' (n0 + k) o) : Hp Z h0 n0 (Ls.set k o) h' := by
  obtain ⟨q1, E, q2, q3⟩ := H
  have E' : Ext h0 h' := ext_keep E K fun x hx => by cases List.mem_singleton.mp hx; omega
  refine ⟨q1, E', by rw [hs, q2]; simp, fun j o2 r => ?_⟩
  rw [List.getElem?_set] at r
  by_cases e : k = j
  · subst e
    have hl : k < Ls.length := (List.getElem?_eq_some_iff.mp hk).1
    simp [hl] at r; subst r; exact q
  · rw [if_neg e] at r
    exact (q3 j o2 r).keep K (fun z => e (Nat.add_left_cancel (List.mem_singleton.mp z)).symm)
theorem lk_set {k : Nat} {o' : Ob} (q : Ls[k]? = some o') : (Ls.set k o)[k]? = some o := by have := (List.getElem?_eq_some_iff.mp q).1; simp [this]
theorem lk_ne {j k : Nat} {o' : Ob} (q : Ls[j]? = some o') (ne : k ≠ j) : (Ls.set k o)[j]? = some o' := by rw [List.getElem?_set_ne ne]; exact q
theorem lk_app {j : Nat} {M : List Ob} (q : Ls[j]? = some o) : (Ls ++ M)[j]? = some o := by rw [List.getElem?_append_left (List.getElem?_eq_some_iff.mp q).1]; exact q
theorem lk_last : (Ls ++ [o])[Ls.length]? = some o := by simp
theorem set_last {o' : Ob} : (Ls ++ [o]).set Ls.length o' = Ls ++ [o'] := by simp
theorem set_app {k : Nat} {o' o2 : Ob} {M : List Ob} (q : Ls[k]? = some o2) : (Ls ++ M).set k o' = Ls.set k o' ++ M := List.set_append_left _ _ (List.getElem?_eq_some_iff.mp q).1
theorem set_suf {Pre Bs : List Ob} {N j : Nat} (hN : Pre.length = N) : (Pre ++ Bs).set (N + j) o = Pre ++ Bs.set j o := by subst hN; rw [List.set_append_right _ _ (Nat.le_add_right _ _), Nat.add_sub_cancel_left]
theorem lk_suf {Pre Bs : List Ob} {N j : Nat} (hN : Pre.length = N) (q : Bs[j]? = some o) : (Pre ++ Bs)[N + j]? = some o := by subst hN; rw [List.getElem?_append_right (Nat.le_add_right _ _), Nat.add_sub_cancel_left]; exact q
theorem ad_ne {i j : Nat} (e : i ≠ j) : n0 + i ≠ n0 + j := fun z => e (Nat.add_left_cancel z)
theorem Lk.set {k : Nat} {o' o2 : Ob} (q : Lk Z h0 n0 Ls a o) (hk : Ls[k]? = some o') (ne : a ≠ n0 + k) : Lk Z h0 n0 (Ls.set k o2) a o := by
  rcases q with ⟨j, rfl, q⟩ | q
  · exact Or.inl ⟨j, rfl, lk_ne q (fun z => ne (by rw [z]))⟩
  · exact Or.inr q
theorem Lk.app {M : List Ob} (q : Lk Z h0 n0 Ls a o) : Lk Z h0 n0 (Ls ++ M) a o := by
  rcases q with ⟨j, rfl, q⟩ | q
  · exact Or.inl ⟨j, rfl, lk_app q⟩
  · exact Or.inr q
theorem St.more {cells' slots' : Nat} (w : St p l e R s m args below meth c Z y bytes ml ret h0 n0 T Ls cells slots) (h1 : cells ≤ cells') (h2 : slots ≤ slots') : St p l e R s m args below meth c Z y bytes ml ret h0 n0 T Ls cells' slots' := by
  obtain ⟨w1, locs, X, r⟩ := w; exact ⟨w1, locs, X.more h1 h2, r⟩
theorem Go.via (k : Go p e below F T' g' → Go p e below F T g) (G : Go p e below F T' g') : Go p e below F T g := k G
theorem Go.viaAll {α : Type} {G' : α → JFrame} (k : (∀ z : α, Go p e below F T' (G' z)) → Go p e below F T g) (K : ∀ z, Go p e below F T' (G' z)) : Go p e below F T g := k K
theorem St.exec (w : St p l e R s m args below meth c Z y bytes ml ret h0 n0 T Ls cells slots) : p.tables.exec = Jvm.exec := w.1.1
theorem St.here (w : St p l e R s m args below meth c Z y bytes ml ret h0 n0 T Ls cells slots) : At T m c below := by obtain ⟨-, _, X, -⟩ := w; exact X.here
theorem St.code (w : St p l e R s m args below meth c Z y bytes ml ret h0 n0 T Ls cells slots) : c.code = bytes := w.1.2.2.2.1
theorem Go.of (k : ∀ t, Steps p.tables e below (T'.setTop g') t → Steps p.tables e below (T.setTop g) t) (G : Go p e below F T' g') : Go p e below F T g := by
  obtain ⟨t, o, q, r⟩ := G; exact ⟨t, o, k t q, r⟩
theorem Go.cast (q : g = g') (G : Go p e below F T g') : Go p e below F T g := q ▸ G
theorem Met1.of {rm : Room} {as' : Array Value} {Q : Option Value → List Ob → Prop} {ws : List Jvm.Cond} (hp : plainFor y = true) (ef : ∀ m, entryFrame m as' ml = mkF m 0 ls [])
    (body : ∀ (p : Program) (e : Env) (s : State) (m : MethodId) (below : List Frame) (meth : Method) (c : Code) (T : State), St p l e rm s m as' below meth c Z y bytes ml ret h0 n0 T Ls 0 0 → Go p e below (Fin1 Z h0 n0 s rm Q) T (mkF m 0 ls [])) :
    Met1 l Z y bytes ml ret rm as' h0 n0 Ls Q ws := by
  intro h H
  refine MetFree.of_bodySF hp hisR ?_
  intro p e s m args below meth c s₁ Bd hml hP hK
  obtain ⟨rfl, hZ, hh⟩ := hP
  have e0 : s₁.heap = h := by rw [← hh, Bd.state]; rfl
  have G := body p e s m below meth c s₁ ⟨⟨Bd.exec, hZ, findClass_of_methodNamed Bd.named, Bd.bytes, hml, (name_of_methodNamed Bd.named Bd.method).1, Bd.returns, Bd.notSynchronized⟩, [], Stand.of_body Bd, Fr.nil _, by rw [e0]; exact H⟩
  rw [← ef m] at G
  exact G

theorem s_iadd {x z : Int32} (w : St p l e R s m args below meth c Z y bytes ml ret h0 n0 T Ls cells slots) (d : decode bytes pc = .ok (.iadd, 1)) (hp : pc + 1 = pc') (G : Go p e below F T (mkF m pc' ls (.int (x + z) :: st))) : Go p e below F T (mkF m pc ls (.int z :: .int x :: st)) := by
  subst hp; exact Go.of (fun t q => XS.iadd w.here w.exec rfl (hb w.code d) rfl q) G
theorem s_isub {x z : Int32} (w : St p l e R s m args below meth c Z y bytes ml ret h0 n0 T Ls cells slots) (d : decode bytes pc = .ok (.isub, 1)) (hp : pc + 1 = pc') (G : Go p e below F T (mkF m pc' ls (.int (x - z) :: st))) : Go p e below F T (mkF m pc ls (.int z :: .int x :: st)) := by
  subst hp; exact Go.of (fun t q => XS.isub w.here w.exec rfl (hb w.code d) rfl q) G
theorem s_iand {x z : Int32} (w : St p l e R s m args below meth c Z y bytes ml ret h0 n0 T Ls cells slots) (d : decode bytes pc = .ok (.iand, 1)) (hp : pc + 1 = pc') (G : Go p e below F T (mkF m pc' ls (.int (x &&& z) :: st))) : Go p e below F T (mkF m pc ls (.int z :: .int x :: st)) := by
  subst hp; exact Go.of (fun t q => XS.iand w.here w.exec rfl (hb w.code d) rfl q) G
theorem s_imul {x z : Int32} (w : St p l e R s m args below meth c Z y bytes ml ret h0 n0 T Ls cells slots) (d : decode bytes pc = .ok (.imul, 1)) (hp : pc + 1 = pc') (G : Go p e below F T (mkF m pc' ls (.int (x * z) :: st))) : Go p e below F T (mkF m pc ls (.int z :: .int x :: st)) := by
  subst hp; exact Go.of (fun t q => XS.imul w.here w.exec rfl (hb w.code d) rfl q) G
theorem s_ixor {x z : Int32} (w : St p l e R s m args below meth c Z y bytes ml ret h0 n0 T Ls cells slots) (d : decode bytes pc = .ok (.ixor, 1)) (hp : pc + 1 = pc') (G : Go p e below F T (mkF m pc' ls (.int (x ^^^ z) :: st))) : Go p e below F T (mkF m pc ls (.int z :: .int x :: st)) := by
  subst hp; exact Go.of (fun t q => XT.ixor w.here w.exec rfl (hb w.code d) rfl q) G
theorem s_ior {x z : Int32} (w : St p l e R s m args below meth c Z y bytes ml ret h0 n0 T Ls cells slots) (d : decode bytes pc = .ok (.ior, 1)) (hp : pc + 1 = pc') (G : Go p e below F T (mkF m pc' ls (.int (x ||| z) :: st))) : Go p e below F T (mkF m pc ls (.int z :: .int x :: st)) := by
  subst hp; exact Go.of (fun t q => XT.ior w.here w.exec rfl (hb w.code d) rfl q) G
theorem s_iushr {x z : Int32} (w : St p l e R s m args below meth c Z y bytes ml ret h0 n0 T Ls cells slots) (d : decode bytes pc = .ok (.iushr, 1)) (hp : pc + 1 = pc') (G : Go p e below F T (mkF m pc' ls (.int (Jvm.Free.XT.ushr x z) :: st))) : Go p e below F T (mkF m pc ls (.int z :: .int x :: st)) := by
  subst hp; exact Go.of (fun t q => XT.iushr w.here w.exec rfl (hb w.code d) rfl q) G
theorem s_ishl {x z : Int32} (w : St p l e R s m args below meth c Z y bytes ml ret h0 n0 T Ls cells slots) (d : decode bytes pc = .ok (.ishl, 1)) (hp : pc + 1 = pc') (G : Go p e below F T (mkF m pc' ls (.int (x <<< (z &&& 31)) :: st))) : Go p e below F T (mkF m pc ls (.int z :: .int x :: st)) := by
  subst hp; exact Go.of (fun t q => XT.ishl w.here w.exec rfl (hb w.code d) rfl q) G
theorem s_ishr {x z : Int32} (w : St p l e R s m args below meth c Z y bytes ml ret h0 n0 T Ls cells slots) (d : decode bytes pc = .ok (.ishr, 1)) (hp : pc + 1 = pc') (G : Go p e below F T (mkF m pc' ls (.int (x >>> (z &&& 31)) :: st))) : Go p e below F T (mkF m pc ls (.int z :: .int x :: st)) := by
  subst hp; exact Go.of (fun t q => XT.ishr w.here w.exec rfl (hb w.code d) rfl q) G
theorem s_ineg {x : Int32} (w : St p l e R s m args below meth c Z y bytes ml ret h0 n0 T Ls cells slots) (d : decode bytes pc = .ok (.ineg, 1)) (hp : pc + 1 = pc') (G : Go p e below F T (mkF m pc' ls (.int (-x) :: st))) : Go p e below F T (mkF m pc ls (.int x :: st)) := by
  subst hp; exact Go.of (fun t q => XS.ineg w.here w.exec rfl (hb w.code d) rfl q) G
theorem s_irem {x z : Int32} (w : St p l e R s m args below meth c Z y bytes ml ret h0 n0 T Ls cells slots) (d : decode bytes pc = .ok (.irem, 1)) (hz : z ≠ 0) (hp : pc + 1 = pc') (G : Go p e below F T (mkF m pc' ls (.int (x - (x / z) * z) :: st))) : Go p e below F T (mkF m pc ls (.int z :: .int x :: st)) := by
  subst hp; exact Go.of (fun t q => XS.irem w.here w.exec rfl (hb w.code d) rfl hz q) G
theorem s_ladd {x z : Int64} (w : St p l e R s m args below meth c Z y bytes ml ret h0 n0 T Ls cells slots) (d : decode bytes pc = .ok (.ladd, 1)) (hp : pc + 1 = pc') (G : Go p e below F T (mkF m pc' ls (.long (x + z) :: st))) : Go p e below F T (mkF m pc ls (.long z :: .long x :: st)) := by
  subst hp; exact Go.of (fun t q => XT.ladd w.here w.exec rfl (hb w.code d) rfl q) G
theorem s_lsub {x z : Int64} (w : St p l e R s m args below meth c Z y bytes ml ret h0 n0 T Ls cells slots) (d : decode bytes pc = .ok (.lsub, 1)) (hp : pc + 1 = pc') (G : Go p e below F T (mkF m pc' ls (.long (x - z) :: st))) : Go p e below F T (mkF m pc ls (.long z :: .long x :: st)) := by
  subst hp; exact Go.of (fun t q => XT.lsub w.here w.exec rfl (hb w.code d) rfl q) G
theorem s_lmul {x z : Int64} (w : St p l e R s m args below meth c Z y bytes ml ret h0 n0 T Ls cells slots) (d : decode bytes pc = .ok (.lmul, 1)) (hp : pc + 1 = pc') (G : Go p e below F T (mkF m pc' ls (.long (x * z) :: st))) : Go p e below F T (mkF m pc ls (.long z :: .long x :: st)) := by
  subst hp; exact Go.of (fun t q => XT.lmul w.here w.exec rfl (hb w.code d) rfl q) G
theorem s_land {x z : Int64} (w : St p l e R s m args below meth c Z y bytes ml ret h0 n0 T Ls cells slots) (d : decode bytes pc = .ok (.land, 1)) (hp : pc + 1 = pc') (G : Go p e below F T (mkF m pc' ls (.long (x &&& z) :: st))) : Go p e below F T (mkF m pc ls (.long z :: .long x :: st)) := by
  subst hp; exact Go.of (fun t q => XT.land w.here w.exec rfl (hb w.code d) rfl q) G
theorem s_lor {x z : Int64} (w : St p l e R s m args below meth c Z y bytes ml ret h0 n0 T Ls cells slots) (d : decode bytes pc = .ok (.lor, 1)) (hp : pc + 1 = pc') (G : Go p e below F T (mkF m pc' ls (.long (x ||| z) :: st))) : Go p e below F T (mkF m pc ls (.long z :: .long x :: st)) := by
  subst hp; exact Go.of (fun t q => XT.lor w.here w.exec rfl (hb w.code d) rfl q) G
theorem s_lxor {x z : Int64} (w : St p l e R s m args below meth c Z y bytes ml ret h0 n0 T Ls cells slots) (d : decode bytes pc = .ok (.lxor, 1)) (hp : pc + 1 = pc') (G : Go p e below F T (mkF m pc' ls (.long (x ^^^ z) :: st))) : Go p e below F T (mkF m pc ls (.long z :: .long x :: st)) := by
  subst hp; exact Go.of (fun t q => XT.lxor w.here w.exec rfl (hb w.code d) rfl q) G
theorem s_lshl {x : Int64} {z : Int32} (w : St p l e R s m args below meth c Z y bytes ml ret h0 n0 T Ls cells slots) (d : decode bytes pc = .ok (.lshl, 1)) (hp : pc + 1 = pc') (G : Go p e below F T (mkF m pc' ls (.long (x <<< (z.toInt64 &&& 63)) :: st))) : Go p e below F T (mkF m pc ls (.int z :: .long x :: st)) := by
  subst hp; exact Go.of (fun t q => XT.lshl w.here w.exec rfl (hb w.code d) rfl q) G
theorem s_lshr {x : Int64} {z : Int32} (w : St p l e R s m args below meth c Z y bytes ml ret h0 n0 T Ls cells slots) (d : decode bytes pc = .ok (.lshr, 1)) (hp : pc + 1 = pc') (G : Go p e below F T (mkF m pc' ls (.long (x >>> (z.toInt64 &&& 63)) :: st))) : Go p e below F T (mkF m pc ls (.int z :: .long x :: st)) := by
  subst hp; exact Go.of (fun t q => XT.lshr w.here w.exec rfl (hb w.code d) rfl q) G
theorem s_lushr {x : Int64} {z : Int32} (w : St p l e R s m args below meth c Z y bytes ml ret h0 n0 T Ls cells slots) (d : decode bytes pc = .ok (.lushr, 1)) (hp : pc + 1 = pc') (G : Go p e below F T (mkF m pc' ls (.long (Jvm.Free.XT.ushrL x z) :: st))) : Go p e below F T (mkF m pc ls (.int z :: .long x :: st)) := by
  subst hp; exact Go.of (fun t q => XT.lushr w.here w.exec rfl (hb w.code d) rfl q) G
theorem s_ldiv {x z : Int64} (w : St p l e R s m args below meth c Z y bytes ml ret h0 n0 T Ls cells slots) (d : decode bytes pc = .ok (.ldiv, 1)) (hz : z ≠ 0) (hp : pc + 1 = pc') (G : Go p e below F T (mkF m pc' ls (.long (x / z) :: st))) : Go p e below F T (mkF m pc ls (.long z :: .long x :: st)) := by
  subst hp; exact Go.of (fun t q => XT.ldiv w.here w.exec rfl (hb w.code d) rfl hz q) G
theorem s_lrem {x z : Int64} (w : St p l e R s m args below meth c Z y bytes ml ret h0 n0 T Ls cells slots) (d : decode bytes pc = .ok (.lrem, 1)) (hz : z ≠ 0) (hp : pc + 1 = pc') (G : Go p e below F T (mkF m pc' ls (.long (x - (x / z) * z) :: st))) : Go p e below F T (mkF m pc ls (.long z :: .long x :: st)) := by
  subst hp; exact Go.of (fun t q => XT.lrem w.here w.exec rfl (hb w.code d) rfl hz q) G
theorem s_lneg {x : Int64} (w : St p l e R s m args below meth c Z y bytes ml ret h0 n0 T Ls cells slots) (d : decode bytes pc = .ok (.lneg, 1)) (hp : pc + 1 = pc') (G : Go p e below F T (mkF m pc' ls (.long (-x) :: st))) : Go p e below F T (mkF m pc ls (.long x :: st)) := by
  subst hp; exact Go.of (fun t q => XT.lneg w.here w.exec rfl (hb w.code d) rfl q) G
theorem s_i2l {x : Int32} (w : St p l e R s m args below meth c Z y bytes ml ret h0 n0 T Ls cells slots) (d : decode bytes pc = .ok (.i2l, 1)) (hp : pc + 1 = pc') (G : Go p e below F T (mkF m pc' ls (.long x.toInt64 :: st))) : Go p e below F T (mkF m pc ls (.int x :: st)) := by
  subst hp; exact Go.of (fun t q => XT.i2l w.here w.exec rfl (hb w.code d) rfl q) G
theorem s_l2i {x : Int64} (w : St p l e R s m args below meth c Z y bytes ml ret h0 n0 T Ls cells slots) (d : decode bytes pc = .ok (.l2i, 1)) (hp : pc + 1 = pc') (G : Go p e below F T (mkF m pc' ls (.int x.toInt32 :: st))) : Go p e below F T (mkF m pc ls (.long x :: st)) := by
  subst hp; exact Go.of (fun t q => XT.l2i w.here w.exec rfl (hb w.code d) rfl q) G
theorem s_lcmp {x z : Int64} (w : St p l e R s m args below meth c Z y bytes ml ret h0 n0 T Ls cells slots) (d : decode bytes pc = .ok (.lcmp, 1)) (hp : pc + 1 = pc') (G : Go p e below F T (mkF m pc' ls (.int (Jvm.Free.XT.cmpL x z) :: st))) : Go p e below F T (mkF m pc ls (.long z :: .long x :: st)) := by
  subst hp; exact Go.of (fun t q => XT.lcmp w.here w.exec rfl (hb w.code d) rfl q) G
theorem s_iloadN {k : Fin 4} {x : Int32} (w : St p l e R s m args below meth c Z y bytes ml ret h0 n0 T Ls cells slots) (d : decode bytes pc = .ok (.iload_n k, 1)) (hl : ls[k.val]? = some (.val (.int x))) (hp : pc + 1 = pc') (G : Go p e below F T (mkF m pc' ls (.int x :: st))) : Go p e below F T (mkF m pc ls st) := by
  subst hp; exact Go.of (fun t q => XS.iloadN w.here w.exec rfl (hb w.code d) hl q) G
theorem s_iload {k : Nat} {x : Int32} (w : St p l e R s m args below meth c Z y bytes ml ret h0 n0 T Ls cells slots) (d : decode bytes pc = .ok (.iload k, 2)) (hl : ls[k]? = some (.val (.int x))) (hp : pc + 2 = pc') (G : Go p e below F T (mkF m pc' ls (.int x :: st))) : Go p e below F T (mkF m pc ls st) := by
  subst hp; exact Go.of (fun t q => XS.iload w.here w.exec rfl (hb w.code d) hl q) G
theorem s_istoreN {k : Fin 4} {x : Int32} {ls' : Array Slot} (w : St p l e R s m args below meth c Z y bytes ml ret h0 n0 T Ls cells slots) (d : decode bytes pc = .ok (.istore_n k, 1)) (hl : storeLocals ls k.val (.int x) = some ls') (hp : pc + 1 = pc') (G : Go p e below F T (mkF m pc' ls' st)) : Go p e below F T (mkF m pc ls (.int x :: st)) := by
  subst hp; exact Go.of (fun t q => XS.istoreN w.here w.exec rfl (hb w.code d) rfl hl q) G
theorem s_istore {k : Nat} {x : Int32} {ls' : Array Slot} (w : St p l e R s m args below meth c Z y bytes ml ret h0 n0 T Ls cells slots) (d : decode bytes pc = .ok (.istore k, 2)) (hl : storeLocals ls k (.int x) = some ls') (hp : pc + 2 = pc') (G : Go p e below F T (mkF m pc' ls' st)) : Go p e below F T (mkF m pc ls (.int x :: st)) := by
  subst hp; exact Go.of (fun t q => XS.istore w.here w.exec rfl (hb w.code d) rfl hl q) G
theorem s_lloadN {k : Fin 4} {x : Int64} (w : St p l e R s m args below meth c Z y bytes ml ret h0 n0 T Ls cells slots) (d : decode bytes pc = .ok (.lload_n k, 1)) (hl : ls[k.val]? = some (.val (.long x))) (hp : pc + 1 = pc') (G : Go p e below F T (mkF m pc' ls (.long x :: st))) : Go p e below F T (mkF m pc ls st) := by
  subst hp; exact Go.of (fun t q => XT.lloadN w.here w.exec rfl (hb w.code d) hl q) G
theorem s_lload {k : Nat} {x : Int64} (w : St p l e R s m args below meth c Z y bytes ml ret h0 n0 T Ls cells slots) (d : decode bytes pc = .ok (.lload k, 2)) (hl : ls[k]? = some (.val (.long x))) (hp : pc + 2 = pc') (G : Go p e below F T (mkF m pc' ls (.long x :: st))) : Go p e below F T (mkF m pc ls st) := by
  subst hp; exact Go.of (fun t q => XT.lload w.here w.exec rfl (hb w.code d) hl q) G
theorem s_lstoreN {k : Fin 4} {x : Int64} {ls' : Array Slot} (w : St p l e R s m args below meth c Z y bytes ml ret h0 n0 T Ls cells slots) (d : decode bytes pc = .ok (.lstore_n k, 1)) (hl : storeLocals ls k.val (.long x) = some ls') (hp : pc + 1 = pc') (G : Go p e below F T (mkF m pc' ls' st)) : Go p e below F T (mkF m pc ls (.long x :: st)) := by
  subst hp; exact Go.of (fun t q => XT.lstoreN w.here w.exec rfl (hb w.code d) rfl hl q) G
theorem s_lstore {k : Nat} {x : Int64} {ls' : Array Slot} (w : St p l e R s m args below meth c Z y bytes ml ret h0 n0 T Ls cells slots) (d : decode bytes pc = .ok (.lstore k, 2)) (hl : storeLocals ls k (.long x) = some ls') (hp : pc + 2 = pc') (G : Go p e below F T (mkF m pc' ls' st)) : Go p e below F T (mkF m pc ls (.long x :: st)) := by
  subst hp; exact Go.of (fun t q => XT.lstore w.here w.exec rfl (hb w.code d) rfl hl q) G
theorem s_aloadN {k : Fin 4} (w : St p l e R s m args below meth c Z y bytes ml ret h0 n0 T Ls cells slots) (d : decode bytes pc = .ok (.aload_n k, 1)) (hl : ls[k.val]? = some (.val v)) (hv : v.isRef = true) (hp : pc + 1 = pc') (G : Go p e below F T (mkF m pc' ls (v :: st))) : Go p e below F T (mkF m pc ls st) := by
  subst hp; exact Go.of (fun t q => XS.aloadN w.here w.exec rfl (hb w.code d) hl hv q) G
theorem s_aload {k : Nat} (w : St p l e R s m args below meth c Z y bytes ml ret h0 n0 T Ls cells slots) (d : decode bytes pc = .ok (.aload k, 2)) (hl : ls[k]? = some (.val v)) (hv : v.isRef = true) (hp : pc + 2 = pc') (G : Go p e below F T (mkF m pc' ls (v :: st))) : Go p e below F T (mkF m pc ls st) := by
  subst hp; exact Go.of (fun t q => XS.aload w.here w.exec rfl (hb w.code d) hl hv q) G
theorem s_astoreN {k : Fin 4} {ls' : Array Slot} (w : St p l e R s m args below meth c Z y bytes ml ret h0 n0 T Ls cells slots) (d : decode bytes pc = .ok (.astore_n k, 1)) (hv : v.isRef = true) (hl : storeLocals ls k.val v = some ls') (hp : pc + 1 = pc') (G : Go p e below F T (mkF m pc' ls' st)) : Go p e below F T (mkF m pc ls (v :: st)) := by
  subst hp; exact Go.of (fun t q => XS.astoreN w.here w.exec rfl (hb w.code d) rfl hv hl q) G
theorem s_astore {k : Nat} {ls' : Array Slot} (w : St p l e R s m args below meth c Z y bytes ml ret h0 n0 T Ls cells slots) (d : decode bytes pc = .ok (.astore k, 2)) (hv : v.isRef = true) (hl : storeLocals ls k v = some ls') (hp : pc + 2 = pc') (G : Go p e below F T (mkF m pc' ls' st)) : Go p e below F T (mkF m pc ls (v :: st)) := by
  subst hp; exact Go.of (fun t q => XS.astore w.here w.exec rfl (hb w.code d) rfl hv hl q) G
theorem s_iconst {i : Int} (x : Int32) (w : St p l e R s m args below meth c Z y bytes ml ret h0 n0 T Ls cells slots) (d : decode bytes pc = .ok (.iconst i, 1)) (hv : Int32.ofInt i = x) (hp : pc + 1 = pc') (G : Go p e below F T (mkF m pc' ls (.int x :: st))) : Go p e below F T (mkF m pc ls st) := by
  subst hp; exact Go.of (fun t q => XT.iconstV w.here w.exec rfl x (hb w.code d) hv q) G
theorem s_bipush {i : Int} (x : Int32) (w : St p l e R s m args below meth c Z y bytes ml ret h0 n0 T Ls cells slots) (d : decode bytes pc = .ok (.bipush i, 2)) (hv : (Int8.ofInt i).toInt32 = x) (hp : pc + 2 = pc') (G : Go p e below F T (mkF m pc' ls (.int x :: st))) : Go p e below F T (mkF m pc ls st) := by
  subst hp; exact Go.of (fun t q => XT.bipushV w.here w.exec rfl x (hb w.code d) hv q) G
theorem s_sipush {i : Int} (x : Int32) (w : St p l e R s m args below meth c Z y bytes ml ret h0 n0 T Ls cells slots) (d : decode bytes pc = .ok (.sipush i, 3)) (hv : (Int16.ofInt i).toInt32 = x) (hp : pc + 3 = pc') (G : Go p e below F T (mkF m pc' ls (.int x :: st))) : Go p e below F T (mkF m pc ls st) := by
  subst hp; exact Go.of (fun t q => XT.sipushV w.here w.exec rfl x (hb w.code d) hv q) G
theorem s_lconst {i : Fin 2} (x : Int64) (w : St p l e R s m args below meth c Z y bytes ml ret h0 n0 T Ls cells slots) (d : decode bytes pc = .ok (.lconst i, 1)) (hv : Int64.ofNat i = x) (hp : pc + 1 = pc') (G : Go p e below F T (mkF m pc' ls (.long x :: st))) : Go p e below F T (mkF m pc ls st) := by
  subst hp; exact Go.of (fun t q => XT.lconstV w.here w.exec rfl x (hb w.code d) hv q) G
theorem s_iinc {k : Nat} {i : Int} {x : Int32} {ls' : Array Slot} (z : Int32) (w : St p l e R s m args below meth c Z y bytes ml ret h0 n0 T Ls cells slots) (d : decode bytes pc = .ok (.iinc k i, 3)) (hv : Int32.ofInt i = z) (hl : ls[k]? = some (.val (.int x))) (hl' : storeLocals ls k (.int (x + z)) = some ls') (hp : pc + 3 = pc') (G : Go p e below F T (mkF m pc' ls' st)) : Go p e below F T (mkF m pc ls st) := by
  subst hp; exact Go.of (fun t q => XT.iincV w.here w.exec rfl z (hb w.code d) hv hl hl' q) G
theorem s_aconst_null  (w : St p l e R s m args below meth c Z y bytes ml ret h0 n0 T Ls cells slots) (d : decode bytes pc = .ok (.aconst_null, 1)) (hp : pc + 1 = pc') (G : Go p e below F T (mkF m pc' ls (.null :: st))) : Go p e below F T (mkF m pc ls st) := by
  subst hp; exact Go.of (fun t q => XS.aconstNull w.here w.exec rfl (hb w.code d)  q) G
theorem s_dup  (w : St p l e R s m args below meth c Z y bytes ml ret h0 n0 T Ls cells slots) (d : decode bytes pc = .ok (.dup, 1)) (hc : v.category = 1) (hp : pc + 1 = pc') (G : Go p e below F T (mkF m pc' ls (v :: v :: st))) : Go p e below F T (mkF m pc ls (v :: st)) := by
  subst hp; exact Go.of (fun t q => XS.dup w.here w.exec rfl (hb w.code d) rfl hc q) G
theorem s_pop  (w : St p l e R s m args below meth c Z y bytes ml ret h0 n0 T Ls cells slots) (d : decode bytes pc = .ok (.pop, 1)) (hc : v.category = 1) (hp : pc + 1 = pc') (G : Go p e below F T (mkF m pc' ls st)) : Go p e below F T (mkF m pc ls (v :: st)) := by
  subst hp; exact Go.of (fun t q => XT.pop w.here w.exec rfl (hb w.code d) rfl hc q) G
theorem s_dup_x1 {v' : Value} (w : St p l e R s m args below meth c Z y bytes ml ret h0 n0 T Ls cells slots) (d : decode bytes pc = .ok (.dup_x1, 1)) (hc : v.category = 1) (hc' : v'.category = 1) (hp : pc + 1 = pc') (G : Go p e below F T (mkF m pc' ls (v :: v' :: v :: st))) : Go p e below F T (mkF m pc ls (v :: v' :: st)) := by
  subst hp; exact Go.of (fun t q => XT.dupX1 w.here w.exec rfl (hb w.code d) rfl hc hc' q) G
theorem s_dup2 {v' : Value} (w : St p l e R s m args below meth c Z y bytes ml ret h0 n0 T Ls cells slots) (d : decode bytes pc = .ok (.dup2, 1)) (hc : v.category = 1) (hc' : v'.category = 1) (hp : pc + 1 = pc') (G : Go p e below F T (mkF m pc' ls (v :: v' :: v :: v' :: st))) : Go p e below F T (mkF m pc ls (v :: v' :: st)) := by
  subst hp; exact Go.of (fun t q => XT.dup2 w.here w.exec rfl (hb w.code d) rfl hc hc' q) G
theorem s_dup2_x1L {x : Int64} (w : St p l e R s m args below meth c Z y bytes ml ret h0 n0 T Ls cells slots) (d : decode bytes pc = .ok (.dup2_x1, 1)) (hc : v.category = 1) (hp : pc + 1 = pc') (G : Go p e below F T (mkF m pc' ls (.long x :: v :: .long x :: st))) : Go p e below F T (mkF m pc ls (.long x :: v :: st)) := by
  subst hp
  obtain ⟨t, o, q, r⟩ := G
  refine ⟨t, o, ?_, r⟩
  have hd := hb w.code d
  have H := w.here
  have hx := w.exec
  jvm_step H [H.top, hx, hd, Value.category]
  exact ⟨hc, q⟩
theorem s_dup2L {x : Int64} (w : St p l e R s m args below meth c Z y bytes ml ret h0 n0 T Ls cells slots) (d : decode bytes pc = .ok (.dup2, 1)) (hp : pc + 1 = pc') (G : Go p e below F T (mkF m pc' ls (.long x :: .long x :: st))) : Go p e below F T (mkF m pc ls (.long x :: st)) := by
  subst hp; exact Go.of (fun t q => XT.dup2L w.here w.exec rfl (hb w.code d) rfl q) G
theorem s_goto {o : Int} (w : St p l e R s m args below meth c Z y bytes ml ret h0 n0 T Ls cells slots) (d : decode bytes pc = .ok (.goto o, 3)) (h1 : 0 ≤ (pc : Int) + o) (h2 : ((pc : Int) + o).toNat = pc') (G : Go p e below F T (mkF m pc' ls st)) : Go p e below F T (mkF m pc ls st) :=
  Go.of (fun t q => XS.goto w.here w.exec rfl rfl (hb w.code d) h1 h2 q) G
theorem s_ifY {cd : ClassFile.Cond} {o : Int} {x : Int32} (w : St p l e R s m args below meth c Z y bytes ml ret h0 n0 T Ls cells slots) (d : decode bytes pc = .ok (.ifCond cd o, 3)) (hc : ifCond.holds cd x = true) (h1 : 0 ≤ (pc : Int) + o) (h2 : ((pc : Int) + o).toNat = pc') (G : Go p e below F T (mkF m pc' ls st)) : Go p e below F T (mkF m pc ls (.int x :: st)) :=
  Go.of (fun t q => XS.ifYes w.here w.exec rfl rfl (hb w.code d) rfl hc h1 h2 q) G
theorem s_ifN {cd : ClassFile.Cond} {o : Int} {x : Int32} (w : St p l e R s m args below meth c Z y bytes ml ret h0 n0 T Ls cells slots) (d : decode bytes pc = .ok (.ifCond cd o, 3)) (hc : ifCond.holds cd x = false) (hp : pc + 3 = pc') (G : Go p e below F T (mkF m pc' ls st)) : Go p e below F T (mkF m pc ls (.int x :: st)) := by
  subst hp; exact Go.of (fun t q => XS.ifNo w.here w.exec rfl (hb w.code d) rfl hc q) G
theorem s_icmpY {cd : ClassFile.Cond} {o : Int} {x z : Int32} (w : St p l e R s m args below meth c Z y bytes ml ret h0 n0 T Ls cells slots) (d : decode bytes pc = .ok (.if_icmp cd o, 3)) (hc : if_icmp.holds cd x z = true) (h1 : 0 ≤ (pc : Int) + o) (h2 : ((pc : Int) + o).toNat = pc') (G : Go p e below F T (mkF m pc' ls st)) : Go p e below F T (mkF m pc ls (.int z :: .int x :: st)) :=
  Go.of (fun t q => XS.icmpYes w.here w.exec rfl rfl (hb w.code d) rfl hc h1 h2 q) G
theorem s_icmpN {cd : ClassFile.Cond} {o : Int} {x z : Int32} (w : St p l e R s m args below meth c Z y bytes ml ret h0 n0 T Ls cells slots) (d : decode bytes pc = .ok (.if_icmp cd o, 3)) (hc : if_icmp.holds cd x z = false) (hp : pc + 3 = pc') (G : Go p e below F T (mkF m pc' ls st)) : Go p e below F T (mkF m pc ls (.int z :: .int x :: st)) := by
  subst hp; exact Go.of (fun t q => XS.icmpNo w.here w.exec rfl (hb w.code d) rfl hc q) G
theorem s_acmpY {cd : ClassFile.ACond} {o : Int} {v' : Value} (w : St p l e R s m args below meth c Z y bytes ml ret h0 n0 T Ls cells slots) (d : decode bytes pc = .ok (.if_acmp cd o, 3)) (r1 : v.isRef = true) (r2 : v'.isRef = true) (hc : Jvm.Free.XT.acmp cd v v' = true) (h1 : 0 ≤ (pc : Int) + o) (h2 : ((pc : Int) + o).toNat = pc') (G : Go p e below F T (mkF m pc' ls st)) : Go p e below F T (mkF m pc ls (v' :: v :: st)) :=
  Go.of (fun t q => XT.acmpYes w.here w.exec rfl rfl (hb w.code d) rfl r1 r2 hc h1 h2 q) G
theorem s_acmpN {cd : ClassFile.ACond} {o : Int} {v' : Value} (w : St p l e R s m args below meth c Z y bytes ml ret h0 n0 T Ls cells slots) (d : decode bytes pc = .ok (.if_acmp cd o, 3)) (r1 : v.isRef = true) (r2 : v'.isRef = true) (hc : Jvm.Free.XT.acmp cd v v' = false) (hp : pc + 3 = pc') (G : Go p e below F T (mkF m pc' ls st)) : Go p e below F T (mkF m pc ls (v' :: v :: st)) := by
  subst hp; exact Go.of (fun t q => XT.acmpNo w.here w.exec rfl (hb w.code d) rfl r1 r2 hc q) G
theorem s_ifnonnullY {o : Int} (w : St p l e R s m args below meth c Z y bytes ml ret h0 n0 T Ls cells slots) (d : decode bytes pc = .ok (.ifnonnull o, 3)) (h1 : 0 ≤ (pc : Int) + o) (h2 : ((pc : Int) + o).toNat = pc') (G : Go p e below F T (mkF m pc' ls st)) : Go p e below F T (mkF m pc ls (.ref a :: st)) :=
  Go.of (fun t q => XT.ifnonnullYes w.here w.exec rfl rfl (hb w.code d) rfl h1 h2 q) G
theorem s_ldc {i : Nat} {x : Int32} (w : St p l e R s m args below meth c Z y bytes ml ret h0 n0 T Ls cells slots) (k : (Cond.constant y.cls i x).before a0 Z = true) (d : decode bytes pc = .ok (.ldc i, 2)) (hp : pc + 2 = pc') (G : Go p e below F T (mkF m pc' ls (.int x :: st))) : Go p e below F T (mkF m pc ls st) := by
  subst hp; obtain ⟨⟨hx, hZ, hown, hby, -⟩, _, X, -⟩ := w; exact Go.of (X.ldcInt hx hown (mvT hZ k) rfl (hb hby d)) G
theorem s_ldcw {i : Nat} {x : Int32} (w : St p l e R s m args below meth c Z y bytes ml ret h0 n0 T Ls cells slots) (k : (Cond.constant y.cls i x).before a0 Z = true) (d : decode bytes pc = .ok (.ldc_w i, 3)) (hp : pc + 3 = pc') (G : Go p e below F T (mkF m pc' ls (.int x :: st))) : Go p e below F T (mkF m pc ls st) := by
  subst hp; obtain ⟨⟨hx, hZ, hown, hby, -⟩, _, X, -⟩ := w; exact Go.of (X.ldcWInt hx hown (mvT hZ k) rfl (hb hby d)) G
theorem s_ldc2 {i : Nat} {x : Int64} (w : St p l e R s m args below meth c Z y bytes ml ret h0 n0 T Ls cells slots) (k : (Cond.constantLong y.cls i x).before a0 Z = true) (d : decode bytes pc = .ok (.ldc2_w i, 3)) (hp : pc + 3 = pc') (G : Go p e below F T (mkF m pc' ls (.long x :: st))) : Go p e below F T (mkF m pc ls st) := by
  subst hp; obtain ⟨⟨hx, hZ, hown, hby, -⟩, _, X, -⟩ := w; exact Go.of (X.ldc2Long hx hown (mvT hZ k) rfl (hb hby d)) G
theorem s_ireturn {rm : Room} {Q : Option Value → List Ob → Prop} {z : Int32} (w : St p l e rm s m args below meth c Z y bytes ml (some .int) h0 n0 T Ls cells slots) (d : decode bytes pc = .ok (.ireturn, 1)) (hc : cells ≤ rm.cells) (hn : slots ≤ rm.slots) (q : Q (some (.int z)) Ls) : Go p e below (Fin1 Z h0 n0 s rm Q) T (mkF m pc ls (.int z :: rest)) := by
  obtain ⟨⟨hx, hZ, hown, hby, hml, hnm, hret, hlk⟩, locs, X, N, H⟩ := w
  obtain ⟨fs, hr, hrun, hended, hW, hsame⟩ := X.leave (v := (some (.int z))) (fun h => by rw [hret] at h; cases h) hlk
  refine ⟨_, _, ?_, hrun, hended, _, locs, rfl, ⟨Ls, q, N, H⟩, ⟨_, rfl⟩, hW, hsame.mono hc hn⟩
  exact retOut X hx hret rfl (Or.inl ⟨rfl, Or.inl rfl, z, rfl⟩) (hb hby d) hr
theorem s_zreturn {rm : Room} {Q : Option Value → List Ob → Prop} {z : Int32} (hz : narrow .boolean (.int z) = .int z) (w : St p l e rm s m args below meth c Z y bytes ml (some .boolean) h0 n0 T Ls cells slots) (d : decode bytes pc = .ok (.ireturn, 1)) (hc : cells ≤ rm.cells) (hn : slots ≤ rm.slots) (q : Q (some (.int z)) Ls) : Go p e below (Fin1 Z h0 n0 s rm Q) T (mkF m pc ls (.int z :: rest)) := by
  obtain ⟨⟨hx, hZ, hown, hby, hml, hnm, hret, hlk⟩, locs, X, N, H⟩ := w
  obtain ⟨fs, hr, hrun, hended, hW, hsame⟩ := X.leave (v := (some (.int z))) (fun h => by rw [hret] at h; cases h) hlk
  refine ⟨_, _, ?_, hrun, hended, _, locs, rfl, ⟨Ls, q, N, H⟩, ⟨_, rfl⟩, hW, hsame.mono hc hn⟩
  exact retOut X hx hret hz (Or.inl ⟨rfl, Or.inr (Or.inl rfl), z, rfl⟩) (hb hby d) hr
theorem s_lreturn {rm : Room} {Q : Option Value → List Ob → Prop} {z : Int64} (w : St p l e rm s m args below meth c Z y bytes ml (some .long) h0 n0 T Ls cells slots) (d : decode bytes pc = .ok (.lreturn, 1)) (hc : cells ≤ rm.cells) (hn : slots ≤ rm.slots) (q : Q (some (.long z)) Ls) : Go p e below (Fin1 Z h0 n0 s rm Q) T (mkF m pc ls (.long z :: rest)) := by
  obtain ⟨⟨hx, hZ, hown, hby, hml, hnm, hret, hlk⟩, locs, X, N, H⟩ := w
  obtain ⟨fs, hr, hrun, hended, hW, hsame⟩ := X.leave (v := (some (.long z))) (fun h => by rw [hret] at h; cases h) hlk
  refine ⟨_, _, ?_, hrun, hended, _, locs, rfl, ⟨Ls, q, N, H⟩, ⟨_, rfl⟩, hW, hsame.mono hc hn⟩
  exact retOut X hx hret rfl (Or.inr (Or.inl ⟨rfl, rfl, z, rfl⟩)) (hb hby d) hr
theorem s_areturn {rm : Room} {Q : Option Value → List Ob → Prop} {t : FieldType} (w : St p l e rm s m args below meth c Z y bytes ml (some t) h0 n0 T Ls cells slots) (d : decode bytes pc = .ok (.areturn, 1)) (ht : t.isReference = true) (hv : v.isRef = true) (hc : cells ≤ rm.cells) (hn : slots ≤ rm.slots) (q : Q (some v) Ls) : Go p e below (Fin1 Z h0 n0 s rm Q) T (mkF m pc ls (v :: rest)) := by
  obtain ⟨⟨hx, hZ, hown, hby, hml, hnm, hret, hlk⟩, locs, X, N, H⟩ := w
  obtain ⟨fs, hr, hrun, hended, hW, hsame⟩ := X.leave (v := some v) (fun h => by rw [hret] at h; cases h) hlk
  refine ⟨_, _, ?_, hrun, hended, _, locs, rfl, ⟨Ls, q, N, H⟩, ⟨_, rfl⟩, hW, hsame.mono hc hn⟩
  have hn' : narrow t v = v := by rcases ref_cases hv with rfl | ⟨a, rfl⟩ <;> cases t <;> first | rfl | (cases ht; done)
  exact retOut X hx hret hn' (Or.inr (Or.inr (Or.inr (Or.inr ⟨rfl, ht, hv⟩)))) (hb hby d) hr
theorem s_return {rm : Room} {Q : Option Value → List Ob → Prop}  (w : St p l e rm s m args below meth c Z y bytes ml none h0 n0 T Ls cells slots) (d : decode bytes pc = .ok (.return_, 1)) (hc : cells ≤ rm.cells) (hn : slots ≤ rm.slots) (q : Q none Ls) : Go p e below (Fin1 Z h0 n0 s rm Q) T (mkF m pc ls []) := by
  obtain ⟨⟨hx, hZ, hown, hby, hml, hnm, hret, hlk⟩, locs, X, N, H⟩ := w
  obtain ⟨fs, hr, hrun, hended, hW, hsame⟩ := X.leave (v := none) (fun _ => rfl) hlk
  refine ⟨_, _, ?_, hrun, hended, _, locs, rfl, ⟨Ls, q, N, H⟩, ⟨_, rfl⟩, hW, hsame.mono hc hn⟩
  exact X.returnOut hx hret (hb hby d) hr

/-! ### fields -/
theorem s_getL {i j : Nat} {R0 O f d host C : String} {fs : List (String × String × String)} {vs : List Value} (w : St p l e R s m args below meth c Z y bytes ml ret h0 n0 T Ls cells slots) (k : (Cond.fieldLink y.cls i R0 f d).before a0 Z = true ∨ (Cond.fieldLinkNest y.cls i R0 f d host).before a0 Z = true) (via : Via Z R0 O f d) (q : Lk Z h0 n0 Ls a (.inl (C, fs, vs))) (hf : fs[j]? = some (O, f, d)) (hv : vs[j]? = some v) (hd : decode bytes pc = .ok (.getfield i, 3)) (hp : pc + 3 = pc')
    (G : ∀ T', St p l e R s m args below meth c Z y bytes ml ret h0 n0 T' Ls cells slots → Go p e below F T' (mkF m pc' ls (v :: st))) : Go p e below F T (mkF m pc ls (.ref a :: st)) := by
  subst hp
  obtain ⟨w1, locs, X, N, H⟩ := w
  have w1' := w1
  obtain ⟨hx, hZ, hown, hby, -⟩ := w1
  obtain ⟨T', X', e', st'⟩ := getF X hx hZ hown k via rfl ((H.lk q).2 j _ v hf hv) (g := mkF m pc ls (.ref a :: st)) rfl rfl (hb hby hd)
  exact Go.of st' (G T' ⟨w1', locs, X', N, by rw [e']; exact H⟩)
theorem s_put {i j k kk : Nat} {R0 O f d host C : String} {ty : FieldType} {fs : List (String × String × String)} {vs : List Value} (w : St p l e R s m args below meth c Z y bytes ml ret h0 n0 T Ls cells slots) (kl : (Cond.fieldLink y.cls i R0 f d).before a0 Z = true ∨ (Cond.fieldLinkNest y.cls i R0 f d host).before a0 Z = true) (via : Via Z R0 O f d) (cl : Cls Z a0 C kk fs) (q : Ls[k]? = some (.inl (C, fs, vs))) (hf : fs[j]? = some (O, f, d)) (hj : j < vs.length)
    (la : (Cond.lays C O f d).before a0 Z = true ∨ ((Cond.laysFinal C O f d).before a0 Z = true ∧ y.cls = O ∧ y.name = "<init>")) (hty : parseFieldDescriptor d = some ty) (hna : narrow ty v = v) (hfi : fits ty v = true) (hd : decode bytes pc = .ok (.putfield i, 3)) (hp : pc + 3 = pc')
    (G : ∀ T', St p l e R s m args below meth c Z y bytes ml ret h0 n0 T' (Ls.set k (.inl (C, fs, vs.set j v))) cells slots → Go p e below F T' (mkF m pc' ls st)) : Go p e below F T (mkF m pc ls (v :: .ref (n0 + k) :: st)) := by
  subst hp
  obtain ⟨w1, locs, X, N, H⟩ := w
  have w1' := w1
  obtain ⟨hx, hZ, hown, hby, -, hnm, -⟩ := w1
  have I := H.at q
  obtain ⟨v0, hv0⟩ : ∃ v0, vs[j]? = some v0 := ⟨_, List.getElem?_eq_getElem hj⟩
  have la' : (Cond.lays C O f d).before a0 Z = true ∨ ((Cond.laysFinal C O f d).before a0 Z = true ∧ y.cls = O ∧ meth.name = "<init>") := la.imp id fun r => ⟨r.1, r.2.1, hnm.trans r.2.2⟩
  obtain ⟨T', h', X', e', W', st'⟩ := putF X hx hZ hown kl via rfl (I.2 j _ v0 hf hv0) I.1 la' cl.1 hty hna hfi (g := mkF m pc ls (v :: .ref (n0 + k) :: st)) rfl rfl (hb hby hd)
  refine Go.of st' (G T' ⟨w1', _, X', Fr.snoc X' N (Nat.le_add_right _ _), ?_⟩)
  rw [e']
  refine H.wr q W' ⟨I.1.wr W', fun i' f' v' h1 h2 => ?_⟩
  rw [List.getElem?_set] at h2
  by_cases e : j = i'
  · subst e
    cases hf.symm.trans h1
    simp [hj] at h2; subst h2
    exact (I.2 j _ v0 hf hv0).same W'
  · rw [if_neg e] at h2
    have hne : f'.2.1 ≠ f := fun q => e (cl.2.2 j i' _ _ hf h1 q.symm)
    obtain ⟨L1, t1, p1⟩ := cl.2.1 j _ hf
    obtain ⟨L2, t2, p2⟩ := cl.2.1 i' _ h1
    exact (I.2 i' _ v' h1 h2).other W' (Or.inr (slot_ne L2 L1 hne p2 p1))
theorem s_getS {i : Nat} {R0 O f d host : String} (w : St p l e R s m args below meth c Z y bytes ml ret h0 n0 T Ls cells slots) (k : (Cond.fieldLink y.cls i R0 f d).before a0 Z = true ∨ (Cond.fieldLinkNest y.cls i R0 f d host).before a0 Z = true) (via : Via Z R0 O f d) (q : Sta Z h0 O f d v) (hd : decode bytes pc = .ok (.getstatic i, 3)) (hp : pc + 3 = pc')
    (G : ∀ T', St p l e R s m args below meth c Z y bytes ml ret h0 n0 T' Ls cells slots → Go p e below F T' (mkF m pc' ls (v :: st))) : Go p e below F T (mkF m pc ls st) := by
  subst hp
  obtain ⟨w1, locs, X, N, H⟩ := w
  have w1' := w1
  obtain ⟨hx, hZ, hown, hby, -⟩ := w1
  obtain ⟨T', X', e', st'⟩ := getS2 X hx hZ hown k via rfl (q.ext H.2.1) (g := mkF m pc ls st) rfl (hb hby hd)
  exact Go.of st' (G T' ⟨w1', locs, X', N, by rw [e']; exact H⟩)
/-! ### making -/
theorem s_new {i kk : Nat} {C : String} {fs : List (String × String × String)} (vs : List Value) (w : St p l e R s m args below meth c Z y bytes ml ret h0 n0 T Ls cells slots) (k1 : (Cond.classLink y.cls i C).before a0 Z = true) (k2 : (Cond.initialized C).before a0 Z = true) (cl : Cls Z a0 C kk fs) (hd : decode bytes pc = .ok (.new i, 3)) (hvs : ∀ (j : Nat) f v, fs[j]? = some f → vs[j]? = some v → ∃ t, parseFieldDescriptor f.2.2 = some t ∧ v = defaultValue t)
    (hc : cells + 1 ≤ R.cells) (hl : slots + kk ≤ R.slots) (N : Nat) (hN0 : Ls.length = N) (hp : pc + 3 = pc')
    (G : ∀ T', St p l e R s m args below meth c Z y bytes ml ret h0 n0 T' (Ls ++ [.inl (C, fs, vs)]) (cells + 1) (slots + kk) → Go p e below F T' (mkF m pc' ls (.ref (n0 + N) :: st))) : Go p e below F T (mkF m pc ls st) := by
  subst hp; subst hN0
  obtain ⟨w1, locs, X, N, H⟩ := w
  have w1' := w1
  obtain ⟨hx, hZ, hown, hby, -⟩ := w1
  obtain ⟨vm', cC, kC, q1, q2, q3, q4, X', st'⟩ := X.newCold hx hown (mv hZ k1) (mv hZ cl.1) (mv hZ k2) (g := mkF m pc ls st) rfl (hb hby hd) hc hl
  rw [show T.heap.size = n0 + Ls.length from H.2.2.1] at st'
  refine Go.of st' (G _ ⟨w1', locs, X', N, ?_⟩)
  rw [hZ.alike.findClass] at q1
  obtain ⟨kZ, z1, -⟩ := Vm.findClass_spec q1
  obtain ⟨k', z2, z3⟩ := hZ.alike.2.2 _ _ z1
  cases q2.symm.trans z2
  have ei : kC.instanceTypes = kZ.instanceTypes := by rw [z3]
  have hN : (T.heap.push ({ cls := cC, slots := kC.instanceTypes.map defaultValue, vm := .none } : Cell))[n0 + Ls.length]? = some { cls := cC, slots := kC.instanceTypes.map defaultValue, vm := .none } := by rw [← H.2.2.1]; simp
  refine Hp.push (h := T.heap) H ⟨⟨_, kZ, hN, q1, z1, rfl, fun _ => by simp [ei]⟩, fun j f v h1 h2 => ?_⟩
  obtain ⟨t, ht, rfl⟩ := hvs j f v h1 h2
  obtain ⟨c1, k1, cf, kf, i', f', a1, a2, a3, a4, a5, a6, -⟩ := (cl.2.1 j f h1).1.spec
  cases q1.symm.trans a1
  cases z1.symm.trans a2
  exact ⟨_, cf, kf, i', f', hN, a3, a4, by simp, rfl, a5, by simp [ei, a6, (State.fieldFound?_type a3 ht).2]⟩
theorem s_newarray {aty : ArrayType} {x : Int32} {ty : FieldType} (w : St p l e R s m args below meth c Z y bytes ml ret h0 n0 T Ls cells slots) (k : (Cond.arrayClass ty).before a0 Z = true) (hty : newarray.typeOf aty = ty) (hno : ∀ C, ty ≠ .object C) (hd : decode bytes pc = .ok (.newarray aty, 2)) (hx0 : ¬ x < 0) (cap : Nat) (hcap : x.toNatClampNeg ≤ cap) (hbig : cap * 8 ≤ 536870912) (hc : cells + 1 ≤ R.cells) (hl : slots + cap ≤ R.slots) (N : Nat) (hN0 : Ls.length = N) (hp : pc + 2 = pc')
    (G : ∀ T', St p l e R s m args below meth c Z y bytes ml ret h0 n0 T' (Ls ++ [.inr (ty, List.replicate x.toNatClampNeg (defaultValue ty))]) (cells + 1) (slots + cap) → Go p e below F T' (mkF m pc' ls (.ref (n0 + N) :: st))) : Go p e below F T (mkF m pc ls (.int x :: st)) := by
  subst hp; subst hty; subst hN0
  obtain ⟨w1, locs, X, N, H⟩ := w
  have w1' := w1
  obtain ⟨hx, hZ, hown, hby, -⟩ := w1
  have hcb : componentBytes (newarray.typeOf aty) ≤ 8 := by cases aty <;> decide
  obtain ⟨cA, kA, comp, q1, q2, q3, X', st'⟩ := X.newarrayPrim hx (mvA hZ k) (g := mkF m pc ls (.int x :: st)) rfl (hb hby hd) rfl hx0 (Nat.le_trans (Nat.mul_le_mul hcap hcb) hbig) hc (by omega)
  rw [show T.heap.size = n0 + Ls.length from H.2.2.1] at st'
  refine Go.of st' (G _ ⟨w1', locs, X'.more (Nat.le_refl _) (by omega), N, ?_⟩)
  rw [hZ.alike.findClass] at q1
  obtain ⟨kZ, z1, -⟩ := Vm.findClass_spec q1
  obtain ⟨k', z2, z3⟩ := hZ.alike.2.2 _ _ z1
  cases q2.symm.trans z2
  have kk : kZ.kind = .array comp (newarray.typeOf aty) := by rw [← q3, z3]
  have hN : (T.heap.push ({ cls := cA, slots := Array.replicate x.toNatClampNeg (defaultValue (newarray.typeOf aty)), vm := .none } : Cell))[n0 + Ls.length]? = some { cls := cA, slots := Array.replicate x.toNatClampNeg (defaultValue (newarray.typeOf aty)), vm := .none } := by rw [← H.2.2.1]; simp
  refine Hp.push (h := T.heap) H ⟨_, ⟨hN, ⟨by simp, kZ, z1, comp, kk⟩, by simp⟩, fun C q => absurd q (hno C), by simp, by simpa using (back32 hx0).2, fun v hv => ?_⟩
  rw [List.eq_of_mem_replicate hv]; cases aty <;> rfl
theorem s_anewarray {i : Nat} {x : Int32} {C : String} (w : St p l e R s m args below meth c Z y bytes ml ret h0 n0 T Ls cells slots) (k1 : (Cond.classLink y.cls i C).before a0 Z = true) (k2 : (Cond.arrayOver (.object C)).before a0 Z = true) (hd : decode bytes pc = .ok (.anewarray i, 3)) (hx0 : ¬ x < 0) (cap : Nat) (hcap : x.toNatClampNeg ≤ cap) (hbig : cap * 8 ≤ 536870912) (hc : cells + 1 ≤ R.cells) (hl : slots + cap ≤ R.slots) (N : Nat) (hN0 : Ls.length = N) (hp : pc + 3 = pc')
    (G : ∀ T', St p l e R s m args below meth c Z y bytes ml ret h0 n0 T' (Ls ++ [.inr (.object C, List.replicate x.toNatClampNeg .null)]) (cells + 1) (slots + cap) → Go p e below F T' (mkF m pc' ls (.ref (n0 + N) :: st))) : Go p e below F T (mkF m pc ls (.int x :: st)) := by
  subst hp; subst hN0
  obtain ⟨w1, locs, X, N, H⟩ := w
  have w1' := w1
  obtain ⟨hx, hZ, hown, hby, -⟩ := w1
  obtain ⟨vm₁, cA, kA, comp, -, q1, q2, q3, q4, X', st'⟩ := X.anewarrayRefK hx hown (mv hZ k1) (Cond.arrayOver_alike hZ.alike k2) (g := mkF m pc ls (.int x :: st)) rfl (hb hby hd) rfl hx0 (by omega) hc (by omega)
  rw [show T.heap.size = n0 + Ls.length from H.2.2.1] at st'
  refine Go.of st' (G _ ⟨w1', locs, X'.more (Nat.le_refl _) (by omega), N, ?_⟩)
  rw [hZ.alike.findClass] at q1 q4
  obtain ⟨kZ, z1, -⟩ := Vm.findClass_spec q1
  obtain ⟨k', z2, z3⟩ := hZ.alike.2.2 _ _ z1
  cases q2.symm.trans z2
  have kk : kZ.kind = .array comp (.object C) := by rw [← q3, z3]
  have hN : (T.heap.push ({ cls := cA, slots := Array.replicate x.toNatClampNeg .null, vm := .none } : Cell))[n0 + Ls.length]? = some { cls := cA, slots := Array.replicate x.toNatClampNeg .null, vm := .none } := by rw [← H.2.2.1]; simp
  refine Hp.push (h := T.heap) H ⟨_, ⟨hN, ⟨by simp, kZ, z1, comp, kk⟩, by simp⟩, fun C' q => by cases q; exact ⟨kZ, comp, z1, kk, q4⟩, by simp, by simpa using (back32 hx0).2, fun v hv => ?_⟩
  rw [List.eq_of_mem_replicate hv]; rfl
/-! ### arrays -/
theorem inb {vs : List Value} {x : Int32} {cl : Cell} (hs : cl.slots = vs.toArray) (hx0 : ¬ x < 0) {v : Value} (hv : vs[x.toNatClampNeg]? = some v) : ¬ (x < 0 ∨ cl.slots.size ≤ x.toNatClampNeg) := by
  have := (List.getElem?_eq_some_iff.mp hv).1
  rw [hs]; simp [hx0]; exact this
theorem s_arraylength {ty : FieldType} {vs : List Value} (z : Int32) (w : St p l e R s m args below meth c Z y bytes ml ret h0 n0 T Ls cells slots) (q : Lk Z h0 n0 Ls a (.inr (ty, vs))) (hd : decode bytes pc = .ok (.arraylength, 1)) (hz : vs.length.toInt32 = z) (hp : pc + 1 = pc') (G : Go p e below F T (mkF m pc' ls (.int z :: st))) : Go p e below F T (mkF m pc ls (.ref a :: st)) := by
  subst hp; subst hz
  obtain ⟨⟨hx, hZ, hown, hby, -⟩, locs, X, N, H⟩ := w
  obtain ⟨cl, A, -, hs, -⟩ := H.lk q
  refine Go.of (fun t k => X.arraylength hx A.1 (State.isArrayOf_alike hZ.alike A.2.1) (g := mkF m pc ls (.ref a :: st)) rfl rfl (hb hby hd) t ?_) G
  rw [show cl.slots.size.toInt32 = vs.length.toInt32 by rw [hs]; simp]; exact k
theorem s_iaload {vs : List Value} {x : Int32} (w : St p l e R s m args below meth c Z y bytes ml ret h0 n0 T Ls cells slots) (q : Lk Z h0 n0 Ls a (.inr (.int, vs))) (hd : decode bytes pc = .ok (.iaload, 1)) (hx0 : ¬ x < 0) (hv : vs[x.toNatClampNeg]? = some v) (hp : pc + 1 = pc') (G : Go p e below F T (mkF m pc' ls (v :: st))) : Go p e below F T (mkF m pc ls (.int x :: .ref a :: st)) := by
  subst hp
  obtain ⟨⟨hx, hZ, hown, hby, -⟩, locs, X, N, H⟩ := w
  obtain ⟨cl, A, -, hs, -⟩ := H.lk q
  exact Go.of (fun t k => X.iaload hx A.1 (State.isArrayOf_alike hZ.alike A.2.1) A.2.2 (inb hs hx0 hv) (by rw [hs]; simpa using hv) (g := mkF m pc ls (.int x :: .ref a :: st)) rfl rfl (hb hby hd) t k) G
theorem s_laload {vs : List Value} {x : Int32} (w : St p l e R s m args below meth c Z y bytes ml ret h0 n0 T Ls cells slots) (q : Lk Z h0 n0 Ls a (.inr (.long, vs))) (hd : decode bytes pc = .ok (.laload, 1)) (hx0 : ¬ x < 0) (hv : vs[x.toNatClampNeg]? = some v) (hp : pc + 1 = pc') (G : Go p e below F T (mkF m pc' ls (v :: st))) : Go p e below F T (mkF m pc ls (.int x :: .ref a :: st)) := by
  subst hp
  obtain ⟨⟨hx, hZ, hown, hby, -⟩, locs, X, N, H⟩ := w
  obtain ⟨cl, A, -, hs, -⟩ := H.lk q
  exact Go.of (fun t k => X.laload hx A.1 (State.isArrayOf_alike hZ.alike A.2.1) A.2.2 (inb hs hx0 hv) (by rw [hs]; simpa using hv) (g := mkF m pc ls (.int x :: .ref a :: st)) rfl rfl (hb hby hd) t k) G
theorem s_aaload {vs : List Value} {x : Int32} {ty : FieldType} (w : St p l e R s m args below meth c Z y bytes ml ret h0 n0 T Ls cells slots) (q : Lk Z h0 n0 Ls a (.inr (ty, vs))) (hty : ty.isReference = true) (hd : decode bytes pc = .ok (.aaload, 1)) (hx0 : ¬ x < 0) (hv : vs[x.toNatClampNeg]? = some v) (hp : pc + 1 = pc') (G : Go p e below F T (mkF m pc' ls (v :: st))) : Go p e below F T (mkF m pc ls (.int x :: .ref a :: st)) := by
  subst hp
  obtain ⟨⟨hx, hZ, hown, hby, -⟩, locs, X, N, H⟩ := w
  obtain ⟨cl, A, -, hs, -⟩ := H.lk q
  exact Go.of (fun t k => X.aaload hx A.1 (State.isArrayOf_alike hZ.alike A.2.1) hty A.2.2 (inb hs hx0 hv) (by rw [hs]; simpa using hv) (g := mkF m pc ls (.int x :: .ref a :: st)) rfl rfl (hb hby hd) t k) G
theorem s_aaloadA {cl : Cell} {x : Int32} {ty : FieldType} (w : St p l e R s m args below meth c Z y bytes ml ret h0 n0 T Ls cells slots) (A : Arr Z h0 a cl ty) (hty : ty.isReference = true) (hd : decode bytes pc = .ok (.aaload, 1)) (hin : ¬ (x < 0 ∨ cl.slots.size ≤ x.toNatClampNeg)) (hv : cl.slots[x.toNatClampNeg]? = some v) (hp : pc + 1 = pc') (G : Go p e below F T (mkF m pc' ls (v :: st))) : Go p e below F T (mkF m pc ls (.int x :: .ref a :: st)) := by
  subst hp
  obtain ⟨⟨hx, hZ, hown, hby, -⟩, locs, X, N, H⟩ := w
  have A := A.ext H.2.1
  exact Go.of (fun t k => X.aaload hx A.1 (State.isArrayOf_alike hZ.alike A.2.1) hty A.2.2 hin hv (g := mkF m pc ls (.int x :: .ref a :: st)) rfl rfl (hb hby hd) t k) G
theorem s_arraylengthA {cl : Cell} {ty : FieldType} (z : Int32) (w : St p l e R s m args below meth c Z y bytes ml ret h0 n0 T Ls cells slots) (A : Arr Z h0 a cl ty) (hd : decode bytes pc = .ok (.arraylength, 1)) (hz : cl.slots.size.toInt32 = z) (hp : pc + 1 = pc') (G : Go p e below F T (mkF m pc' ls (.int z :: st))) : Go p e below F T (mkF m pc ls (.ref a :: st)) := by
  subst hp; subst hz
  obtain ⟨⟨hx, hZ, hown, hby, -⟩, locs, X, N, H⟩ := w
  have A := A.ext H.2.1
  exact Go.of (fun t k => X.arraylength hx A.1 (State.isArrayOf_alike hZ.alike A.2.1) (g := mkF m pc ls (.ref a :: st)) rfl rfl (hb hby hd) t k) G
theorem Is.aset {vs : List Value} {ty : FieldType} {cl : Cell} {j : Nat} (A : Arr Z h a cl ty) (O : ∀ C, ty = .object C → Ovr Z cl.cls C) (hs : cl.slots = vs.toArray) (hl : vs.length < 2 ^ 31) (hf : ∀ v ∈ vs, fits ty v = true) (hv : fits ty v = true) (W : Wr h h' a j v) : Is Z h' a (.inr (ty, vs.set j v)) :=
  ⟨cl.setSlot j v, A.same W, O, by simp [Cell.setSlot, hs], by simpa using hl, fun u hu => (List.mem_or_eq_of_mem_set hu).elim (hf u) fun e => e ▸ hv⟩
theorem s_iastore {vs : List Value} {x z : Int32} {k : Nat} (w : St p l e R s m args below meth c Z y bytes ml ret h0 n0 T Ls cells slots) (q : Ls[k]? = some (.inr (.int, vs))) (hd : decode bytes pc = .ok (.iastore, 1)) (hx0 : ¬ x < 0) (hv : x.toNatClampNeg < vs.length) (hp : pc + 1 = pc')
    (G : ∀ T', St p l e R s m args below meth c Z y bytes ml ret h0 n0 T' (Ls.set k (.inr (.int, vs.set x.toNatClampNeg (.int z)))) cells slots → Go p e below F T' (mkF m pc' ls st)) : Go p e below F T (mkF m pc ls (.int z :: .int x :: .ref (n0 + k) :: st)) := by
  subst hp
  obtain ⟨w1, locs, X, N, H⟩ := w
  have w1' := w1
  obtain ⟨hx, hZ, hown, hby, -⟩ := w1
  obtain ⟨cl, A, O, hs, hl, hf⟩ := H.at q
  obtain ⟨T', h', X', e', W', st'⟩ := stI X hx hZ rfl A (inb hs hx0 (List.getElem?_eq_getElem hv)) (g := mkF m pc ls (.int z :: .int x :: .ref (n0 + k) :: st)) rfl rfl (hb hby hd)
  exact Go.of st' (G T' ⟨w1', _, X', Fr.snoc X' N (Nat.le_add_right _ _), by rw [e']; exact H.wr q W' (Is.aset A O hs hl hf rfl W')⟩)
theorem s_lastore {vs : List Value} {x : Int32} {z : Int64} {k : Nat} (w : St p l e R s m args below meth c Z y bytes ml ret h0 n0 T Ls cells slots) (q : Ls[k]? = some (.inr (.long, vs))) (hd : decode bytes pc = .ok (.lastore, 1)) (hx0 : ¬ x < 0) (hv : x.toNatClampNeg < vs.length) (hp : pc + 1 = pc')
    (G : ∀ T', St p l e R s m args below meth c Z y bytes ml ret h0 n0 T' (Ls.set k (.inr (.long, vs.set x.toNatClampNeg (.long z)))) cells slots → Go p e below F T' (mkF m pc' ls st)) : Go p e below F T (mkF m pc ls (.long z :: .int x :: .ref (n0 + k) :: st)) := by
  subst hp
  obtain ⟨w1, locs, X, N, H⟩ := w
  have w1' := w1
  obtain ⟨hx, hZ, hown, hby, -⟩ := w1
  obtain ⟨cl, A, O, hs, hl, hf⟩ := H.at q
  obtain ⟨T', h', X', e', W', st'⟩ := stJ X hx hZ rfl A (inb hs hx0 (List.getElem?_eq_getElem hv)) (g := mkF m pc ls (.long z :: .int x :: .ref (n0 + k) :: st)) rfl rfl (hb hby hd)
  exact Go.of st' (G T' ⟨w1', _, X', Fr.snoc X' N (Nat.le_add_right _ _), by rw [e']; exact H.wr q W' (Is.aset A O hs hl hf rfl W')⟩)
theorem Lk.ins {C K : String} {fs : List (String × String × String)} {vs : List Value} (H : Hp Z h0 n0 Ls h) (q : Lk Z h0 n0 Ls a (.inl (C, fs, vs))) (k : C = K ∨ (Cond.castable C K).before a0 Z = true) : Ins Z h a K true := by
  rcases k with rfl | k
  · exact Ins.self (H.lk q).1
  · exact Ins.of_exa (H.lk q).1 k
theorem s_aastore {vs us : List Value} {x : Int32} {k : Nat} {C K : String} {fs : List (String × String × String)} (w : St p l e R s m args below meth c Z y bytes ml ret h0 n0 T Ls cells slots) (q : Ls[k]? = some (.inr (.object K, vs))) (qb : Lk Z h0 n0 Ls b (.inl (C, fs, us))) (kc : C = K ∨ (Cond.castable C K).before a0 Z = true) (hd : decode bytes pc = .ok (.aastore, 1)) (hx0 : ¬ x < 0) (hv : x.toNatClampNeg < vs.length) (hp : pc + 1 = pc')
    (G : ∀ T', St p l e R s m args below meth c Z y bytes ml ret h0 n0 T' (Ls.set k (.inr (.object K, vs.set x.toNatClampNeg (.ref b)))) cells slots → Go p e below F T' (mkF m pc' ls st)) : Go p e below F T (mkF m pc ls (.ref b :: .int x :: .ref (n0 + k) :: st)) := by
  subst hp
  obtain ⟨w1, locs, X, N, H⟩ := w
  have w1' := w1
  obtain ⟨hx, hZ, hown, hby, -⟩ := w1
  obtain ⟨cl, A, O, hs, hl, hf⟩ := H.at q
  obtain ⟨T', h', X', e', W', st'⟩ := stR X hx hZ rfl A (inb hs hx0 (List.getElem?_eq_getElem hv)) rfl (Sto.of A (O K rfl) (Lk.ins H qb kc)) (g := mkF m pc ls (.ref b :: .int x :: .ref (n0 + k) :: st)) rfl rfl (hb hby hd)
  exact Go.of st' (G T' ⟨w1', _, X', Fr.snoc X' N (Nat.le_add_right _ _), by rw [e']; exact H.wr q W' (Is.aset A O hs hl hf rfl W')⟩)
theorem s_checkcast {i : Nat} {C K : String} {fs : List (String × String × String)} {vs : List Value} (w : St p l e R s m args below meth c Z y bytes ml ret h0 n0 T Ls cells slots) (k : (Cond.classLink y.cls i K).before a0 Z = true) (q : Lk Z h0 n0 Ls a (.inl (C, fs, vs))) (kc : C = K ∨ (Cond.castable C K).before a0 Z = true) (hd : decode bytes pc = .ok (.checkcast i, 3)) (hp : pc + 3 = pc')
    (G : ∀ T', St p l e R s m args below meth c Z y bytes ml ret h0 n0 T' Ls cells slots → Go p e below F T' (mkF m pc' ls (.ref a :: st))) : Go p e below F T (mkF m pc ls (.ref a :: st)) := by
  subst hp
  obtain ⟨w1, locs, X, N, H⟩ := w
  have w1' := w1
  obtain ⟨hx, hZ, hown, hby, -⟩ := w1
  obtain ⟨T', X', e', st'⟩ := castY X hx hZ hown k rfl (Lk.ins H q kc) (g := mkF m pc ls (.ref a :: st)) rfl rfl (hb hby hd)
  exact Go.of st' (G T' ⟨w1', locs, X', N, by rw [e']; exact H⟩)
theorem copied_slots {cs cd : Cell} {vs vd : List Value} {sp dp nn : Int32} (hs : cs.slots = vs.toArray) (hd : cd.slots = vd.toArray) (h4 : sp.toNatClampNeg + nn.toNatClampNeg ≤ vs.length) (h5 : dp.toNatClampNeg + nn.toNatClampNeg ≤ vd.length) :
    (cd.storeRun dp.toNatClampNeg (cs.stretch sp.toNatClampNeg nn.toNatClampNeg)).slots = (vd.take dp.toNatClampNeg ++ (vs.drop sp.toNatClampNeg).take nn.toNatClampNeg ++ vd.drop (dp.toNatClampNeg + nn.toNatClampNeg)).toArray := by
  have est : cs.stretch sp.toNatClampNeg nn.toNatClampNeg = (vs.drop sp.toNatClampNeg).take nn.toNatClampNeg := by
    apply List.ext_getElem?
    intro i
    by_cases hi : i < nn.toNatClampNeg
    · rw [List.getElem?_take_of_lt hi, List.getElem?_drop]
      simp only [Cell.stretch, List.getElem?_map, List.getElem?_range hi, Option.map_some, hs, Array.getD_eq_getD_getElem?, List.getElem?_toArray]
      rw [List.getElem?_eq_getElem (by omega)]; rfl
    · rw [List.getElem?_eq_none (by simp [Cell.stretch]; omega), List.getElem?_eq_none (by simp; omega)]
  have ul : ((vs.drop sp.toNatClampNeg).take nn.toNatClampNeg).length = nn.toNatClampNeg := by simp; omega
  rw [est]
  generalize (vs.drop sp.toNatClampNeg).take nn.toNatClampNeg = us at *
  apply Array.ext_getElem?
  intro j
  rw [Cell.storeRun_get _ _ _ _ (by rw [ul, hd]; simpa using h5), ul, hd]
  simp only [List.getElem?_toArray]
  have lt : (vd.take dp.toNatClampNeg).length = dp.toNatClampNeg := by rw [List.length_take]; omega
  by_cases c1 : j < dp.toNatClampNeg
  · rw [if_neg (by omega), List.append_assoc, List.getElem?_append_left (by omega), List.getElem?_take_of_lt c1]
  · by_cases c2 : j < dp.toNatClampNeg + nn.toNatClampNeg
    · rw [if_pos ⟨by omega, c2⟩, List.getElem?_append_left (by rw [List.length_append]; omega), List.getElem?_append_right (by omega), lt]
    · rw [if_neg (by omega), List.getElem?_append_right (by rw [List.length_append]; omega), List.length_append, lt, ul, List.getElem?_drop, show dp.toNatClampNeg + nn.toNatClampNeg + (j - (dp.toNatClampNeg + nn.toNatClampNeg)) = j by omega]
theorem s_arraycopy {ty : FieldType} {vs vd : List Value} {sp dp nn : Int32} {i k : Nat} (W : Nat) (w : St p l e R s m args below meth c Z y bytes ml ret h0 n0 T Ls cells slots) (qa : Lk Z h0 n0 Ls a (.inr (ty, vs))) (qb : Ls[k]? = some (.inr (ty, vd))) (hty : refKind ty = false)
    (k1 : (Cond.methodLink y.cls i Jvm.Stand.acN).before a0 Z = true) (k2 : (Cond.native Jvm.Stand.acN).before a0 Z = true) (k3 : (Cond.static Jvm.Stand.acN).before a0 Z = true) (k4 : (Cond.initialized "java/lang/System").before a0 Z = true)
    (h1 : ¬ sp < 0) (h2 : ¬ dp < 0) (h3 : ¬ nn < 0) (h4 : sp.toNatClampNeg + nn.toNatClampNeg ≤ vs.length) (h5 : dp.toNatClampNeg + nn.toNatClampNeg ≤ vd.length)
    (hd : decode bytes pc = .ok (.invokestatic i, 3)) (hsz : ls.size = ml) (hf : 1 ≤ R.frames) (hW : (st.map fun v => v.category).sum ≤ W) (hlo : W + (nativeFrameWords "java/lang/System" "arraycopy" 5 + 11) ≤ R.locals) (hp : pc + 3 = pc')
    (G : ∀ T', St p l e R s m args below meth c Z y bytes ml ret h0 n0 T' (Ls.set k (.inr (ty, vd.take dp.toNatClampNeg ++ (vs.drop sp.toNatClampNeg).take nn.toNatClampNeg ++ vd.drop (dp.toNatClampNeg + nn.toNatClampNeg)))) cells slots → Go p e below F T' (mkF m pc' ls st)) :
    Go p e below F T (mkF m pc ls (.int nn :: .int dp :: .ref (n0 + k) :: .int sp :: .ref a :: st)) := by
  subst hp
  obtain ⟨w1, locs, X, N, H⟩ := w
  have w1' := w1
  obtain ⟨hx, hZ, hown, hby, hml, -⟩ := w1
  obtain ⟨cs, As, Os, hs, hls, hfs⟩ := H.lk qa
  obtain ⟨cd, Ad, Od, hdd, hld, hfd⟩ := H.at qb
  obtain ⟨os, ks, hks, sc, hsk⟩ := State.isArrayOf_alike (T := s) hZ.alike As.2.1
  obtain ⟨od, kd, hkd, dc, hdk⟩ := State.isArrayOf_alike (T := s) hZ.alike Ad.2.1
  have ss : cs.slots.size = vs.length := by rw [hs]; simp
  have sd : cd.slots.size = vd.length := by rw [hdd]; simp
  have fit : ∀ i, i < nn.toNatClampNeg → fits ty (cs.slots.getD (sp.toNatClampNeg + i) .null) = true := fun i hi => by
    rw [hs, Array.getD_eq_getD_getElem?, List.getElem?_toArray, List.getElem?_eq_getElem (by omega)]
    exact hfs _ (List.getElem_mem _)
  obtain ⟨vm₁, hW₁, X', st'⟩ := X.arraycopyK hx hown (mvT hZ k1) (mvT hZ k2) (mvT hZ k3) (mvT hZ k4) As.1 Ad.1 os od As.2.2 Ad.2.2 hks hkd hsk hdk (by simp [hty]) h1 h2 h3 (by rw [nat_of h1, nat_of h3, ss]; omega) (by rw [nat_of h2, nat_of h3, sd]; omega)
    (fun vm₁ hw i hi => by
      have q := fit i hi
      refine ⟨q, ?_⟩
      generalize cs.slots.getD (sp.toNatClampNeg + i) .null = u at q ⊢
      cases u <;> first | trivial | exact (prim_no_ref hty q).elim)
    (g := mkF m pc ls (.int nn :: .int dp :: .ref (n0 + k) :: .int sp :: .ref a :: st)) rfl (by rw [hml]; exact hsz) rfl (hb hby hd) hf (by show 2 * 0 + _ + _ ≤ _; omega)
  refine Go.of st' (G _ ⟨w1', _, X', N.app fun y hy => by rw [Jvm.Stand.copyLocs_base hy]; omega, ?_⟩)
  have cf := cd.storeRun_facts dp.toNatClampNeg (cs.stretch sp.toNatClampNeg nn.toNatClampNeg)
  have eh : ((T.setVm vm₁).setCell (n0 + k) (copied cs cd sp dp nn)).heap = T.heap.setIfInBounds (n0 + k) (cd.storeRun dp.toNatClampNeg (cs.stretch sp.toNatClampNeg nn.toNatClampNeg)) := rfl
  rw [eh]
  have hb' : n0 + k < T.heap.size := Ad.lt
  refine H.keep qb ⟨by simp, fun x c q r => ?_, fun x c q => ?_⟩ (by simp) ⟨_, ⟨by rw [Array.getElem?_setIfInBounds_self_of_lt hb'], ?_, by rw [cf.2.1]; exact Ad.2.2⟩, fun C e => ?_, copied_slots hs hdd h4 h5, by simp; omega, fun v hv => ?_⟩
  · have : n0 + k ≠ x := fun z => r (by simp [z])
    rw [Array.getElem?_setIfInBounds_ne this]; exact q
  · by_cases u : n0 + k = x
    · subst u; cases Ad.1.symm.trans q
      exact ⟨_, by rw [Array.getElem?_setIfInBounds_self_of_lt hb'], cf.1, cf.2.1, cf.2.2.1⟩
    · exact ⟨c, by rw [Array.getElem?_setIfInBounds_ne u]; exact q, rfl, rfl, rfl⟩
  · have := Ad.2.1; unfold State.isArrayOf at this ⊢; rw [cf.1, cf.2.1]; exact this
  · rw [e] at hty; cases hty
  · rcases List.mem_append.mp hv with hv | hv
    · rcases List.mem_append.mp hv with hv | hv
      · exact hfd _ (List.mem_of_mem_take hv)
      · exact hfs _ (List.mem_of_mem_drop (List.mem_of_mem_take hv))
    · exact hfd _ (List.mem_of_mem_drop hv)
/-! ### calls -/
theorem backC {y' : MethodName} {by' : ByteArray} {ml' : Nat} {ret' : Option FieldType} {rm : Room} {as' : Array Value} {Q : Option Value → List Ob → Prop} {len W : Nat} (K : Con l Z y' by' ml' ret' rm as' h0 n0 Ls Q) (H : Hp Z h0 n0 Ls h) (hZ : Z.Warmed39 s.vm) (wc : (Cond.code y' by' ml' ret').before a0 Z = true) (wz : (Cond.initialized y'.cls).before a0 Z = true) (hf : rm.frames + 1 ≤ R.frames) (hl : W + (ml' + 11) + rm.locals ≤ R.locals) :
    Back l R p e below s args y' len W (fun A a => a = as' ∧ A.U.heap = h ∧ A.cells + rm.cells ≤ R.cells ∧ A.slots + rm.slots ≤ R.slots)
      (fun A _ v B => ∃ L, (∃ Ls', Q v Ls' ∧ Fr n0 L ∧ Hp Z h0 n0 Ls' B.U.heap) ∧ B.locs = A.locs ++ L ∧ B.cells = A.cells + rm.cells ∧ B.slots = A.slots + rm.slots) :=
  backOf (Q := fun v h L => ∃ Ls', Q v Ls' ∧ Fr n0 L ∧ Hp Z h0 n0 Ls' h) (K h H) hZ wc wz hf hl
theorem s_static {i : Nat} {y' : MethodName} {by' : ByteArray} {ml' : Nat} {ret' : Option FieldType} {rm : Room} {as' : Array Value} {Q : Option Value → List Ob → Prop} {ps : List FieldType} {rr : Option FieldType} (W : Nat) (argsL : List Value) (w : St p l e R s m args below meth c Z y bytes ml ret h0 n0 T Ls cells slots) (K : Con l Z y' by' ml' ret' rm as' h0 n0 Ls Q)
    (k1 : (Cond.methodLink y.cls i y').before a0 Z = true) (k2 : (Cond.static y').before a0 Z = true) (k3 : (Cond.initialized y'.cls).before a0 Z = true) (k4 : (Cond.code y' by' ml' ret').before a0 Z = true) (hy : y'.cls ≠ "java/lang/invoke/MethodHandle" ∧ y'.cls ≠ "java/lang/invoke/VarHandle") (pd : parseMethodDescriptor y'.desc = some ⟨ps, rr⟩) (hd : decode bytes pc = .ok (.invokestatic i, 3))
    (hrm : rm.frames + 1 ≤ R.frames ∧ W + (ml' + 11) + rm.locals ≤ R.locals ∧ cells + rm.cells ≤ R.cells ∧ slots + rm.slots ≤ R.slots) (hsz : ls.size = ml) (hpl : argsL.length = ps.length) (has : argsL.toArray = as') (hst : st = argsL.reverse ++ rest) (hW : (rest.map fun v => v.category).sum ≤ W) (hp : pc + 3 = pc')
    (G : ∀ T' v Ls', Q v Ls' → St p l e R s m args below meth c Z y bytes ml ret h0 n0 T' Ls' (cells + rm.cells) (slots + rm.slots) → Go p e below F T' (mkF m pc' ls (v.toList ++ rest))) : Go p e below F T (mkF m pc ls st) := by
  subst hp; subst hst
  obtain ⟨w1, locs, X, N, H⟩ := w
  have w1' := w1
  obtain ⟨hx, hZ, hown, hby, hml, -⟩ := w1
  obtain ⟨v, _, ⟨T', L', c', n'⟩, -, X', ⟨Lc, ⟨Ls', hQ, N', H'⟩, l', z1, z2⟩, st'⟩ := Jvm.LawKit.callS X hx hown (mvT hZ k1) (mvT hZ k2) (mvT hZ k3) (mvT hZ k4) hy (backC (W := W) K H hZ k4 k3 hrm.1 hrm.2.1) (g := mkF m pc ls (argsL.reverse ++ rest)) rfl (by rw [hml]; exact hsz) (argsL := argsL) (rest := rest) (lenOf pd hpl) rfl (by show 2 * 0 + _ ≤ _; omega) (hb hby hd) (fun _ _ => ⟨has, rfl, hrm.2.2.1, hrm.2.2.2⟩)
  dsimp only [Pt.U, Pt.locs, Pt.cells, Pt.slots] at X' l' z1 z2 st' H'
  subst l' z1 z2
  exact Go.of st' (G T' v Ls' hQ ⟨w1', _, X', Fr.app N N', H'⟩)
theorem s_special {i : Nat} {y' : MethodName} {by' : ByteArray} {ml' : Nat} {rm : Room} {as' : Array Value} {Q : Option Value → List Ob → Prop} {ps : List FieldType} {rr : Option FieldType} (W : Nat) (argsL : List Value) (w : St p l e R s m args below meth c Z y bytes ml ret h0 n0 T Ls cells slots) (K : Con l Z y' by' ml' none rm as' h0 n0 Ls Q)
    (hy1 : y'.name = "<init>") (k1 : (Cond.methodLink y.cls i y').before a0 Z = true) (k2 : (Cond.instanceMethod y').before a0 Z = true) (k3 : (Cond.initialized y'.cls).before a0 Z = true) (k4 : (Cond.code y' by' ml' none).before a0 Z = true) (hy : y'.cls ≠ "java/lang/invoke/MethodHandle" ∧ y'.cls ≠ "java/lang/invoke/VarHandle") (pd : parseMethodDescriptor y'.desc = some ⟨ps, rr⟩) (hd : decode bytes pc = .ok (.invokespecial i, 3))
    (hrm : rm.frames + 1 ≤ R.frames ∧ W + (ml' + 11) + rm.locals ≤ R.locals ∧ cells + rm.cells ≤ R.cells ∧ slots + rm.slots ≤ R.slots) (hsz : ls.size = ml) (hpl : argsL.length = ps.length) (has : (.ref a :: argsL).toArray = as') (hst : st = argsL.reverse ++ .ref a :: rest) (hW : (rest.map fun v => v.category).sum ≤ W) (hp : pc + 3 = pc')
    (G : ∀ T' v Ls', Q v Ls' → St p l e R s m args below meth c Z y bytes ml ret h0 n0 T' Ls' (cells + rm.cells) (slots + rm.slots) → Go p e below F T' (mkF m pc' ls (v.toList ++ rest))) : Go p e below F T (mkF m pc ls st) := by
  subst hp; subst hst
  obtain ⟨w1, locs, X, N, H⟩ := w
  have w1' := w1
  obtain ⟨hx, hZ, hown, hby, hml, -⟩ := w1
  obtain ⟨v, _, ⟨T', L', c', n'⟩, -, X', ⟨Lc, ⟨Ls', hQ, N', H'⟩, l', z1, z2⟩, st'⟩ := X.specialBack hx hy1 hown (mvT hZ k1) (mvT hZ k2) (mvT hZ k4) hy (backC (W := W) K H hZ k4 k3 hrm.1 hrm.2.1) (g := mkF m pc ls (argsL.reverse ++ .ref a :: rest)) rfl (by rw [hml]; exact hsz) (Steps.refl _) (argsL := argsL) (rest := rest) (lenOf pd hpl) rfl (by show 2 * 0 + _ ≤ _; omega) (hb hby hd) (fun _ _ => ⟨has, rfl, hrm.2.2.1, hrm.2.2.2⟩)
  dsimp only [Pt.U, Pt.locs, Pt.cells, Pt.slots] at X' l' z1 z2 st' H'
  subst l' z1 z2
  exact Go.of (fun t q => st'.trans q) (G T' v Ls' hQ ⟨w1', _, X', Fr.app N N', H'⟩)
theorem s_virtual {i : Nat} {C : String} {fs : List (String × String × String)} {vs : List Value} {y1 y' : MethodName} {by' : ByteArray} {ml' : Nat} {ret' : Option FieldType} {rm : Room} {as' : Array Value} {Q : Option Value → List Ob → Prop} {ps : List FieldType} {rr : Option FieldType} (W : Nat) (argsL : List Value) (w : St p l e R s m args below meth c Z y bytes ml ret h0 n0 T Ls cells slots) (K : Con l Z y' by' ml' ret' rm as' h0 n0 Ls Q) (q : Lk Z h0 n0 Ls a (.inl (C, fs, vs)))
    (k1 : (Cond.methodLink y.cls i y1).before a0 Z = true) (k2 : (Cond.declares y1).before a0 Z = true) (k5 : NotFace s y1) (k6 : (Cond.selects C y1 y').before a0 Z = true) (k7 : (Cond.instanceMethod y').before a0 Z = true) (k3 : (Cond.initialized y'.cls).before a0 Z = true) (k4 : (Cond.code y' by' ml' ret').before a0 Z = true) (hy : y1.cls ≠ "java/lang/invoke/MethodHandle" ∧ y1.cls ≠ "java/lang/invoke/VarHandle") (pd : parseMethodDescriptor y1.desc = some ⟨ps, rr⟩) (hd : decode bytes pc = .ok (.invokevirtual i, 3))
    (hrm : rm.frames + 1 ≤ R.frames ∧ W + (ml' + 11) + rm.locals ≤ R.locals ∧ cells + rm.cells ≤ R.cells ∧ slots + rm.slots ≤ R.slots) (hsz : ls.size = ml) (hpl : argsL.length = ps.length) (has : (.ref a :: argsL).toArray = as') (hst : st = argsL.reverse ++ .ref a :: rest) (hW : (rest.map fun v => v.category).sum ≤ W) (hp : pc + 3 = pc')
    (G : ∀ T' v Ls', Q v Ls' → St p l e R s m args below meth c Z y bytes ml ret h0 n0 T' Ls' (cells + rm.cells) (slots + rm.slots) → Go p e below F T' (mkF m pc' ls (v.toList ++ rest))) : Go p e below F T (mkF m pc ls st) := by
  subst hp; subst hst
  obtain ⟨w1, locs, X, N, H⟩ := w
  have w1' := w1
  obtain ⟨hx, hZ, hown, hby, hml, -⟩ := w1
  obtain ⟨cq, kq, qa, qb, qc⟩ := isOf (s := s) (T := T) hZ rfl (H.lk q).1
  obtain ⟨v, _, ⟨T', L', c', n'⟩, -, X', ⟨Lc, ⟨Ls', hQ, N', H'⟩, l', z1, z2⟩, st'⟩ := X.virtualBack hx hown (mvT hZ k1) (mvT hZ k2) k5 (mvT hZ k6) (mvT hZ k7) hy (backC (W := W) K H hZ k4 k3 hrm.1 hrm.2.1) qa qc (g := mkF m pc ls (argsL.reverse ++ .ref a :: rest)) rfl (by rw [hml]; exact hsz) (Steps.refl _) (argsL := argsL) (rest := rest) (lenOf pd hpl) rfl (by show 2 * 0 + _ ≤ _; omega) (hb hby hd) (fun _ _ => ⟨has, rfl, hrm.2.2.1, hrm.2.2.2⟩)
  dsimp only [Pt.U, Pt.locs, Pt.cells, Pt.slots] at X' l' z1 z2 st' H'
  subst l' z1 z2
  exact Go.of (fun t q => st'.trans q) (G T' v Ls' hQ ⟨w1', _, X', Fr.app N N', H'⟩)
theorem St.notFace {C : String} {y1 : MethodName} (w : St p l e R s m args below meth c Z y bytes ml ret h0 n0 T Ls cells slots) (k : (Cond.selects C y1 y1).before a0 Z = true) : NotFace s y1 := by
  exact notFace_of_selects (args := #[]) (mvT w.1.2.1 k)
theorem s_face {i n : Nat} {C : String} {fs : List (String × String × String)} {vs : List Value} {y1 y' : MethodName} {by' : ByteArray} {ml' : Nat} {ret' : Option FieldType} {rm : Room} {as' : Array Value} {Q : Option Value → List Ob → Prop} {ps : List FieldType} {rr : Option FieldType} (W : Nat) (argsL : List Value) (w : St p l e R s m args below meth c Z y bytes ml ret h0 n0 T Ls cells slots) (K : Con l Z y' by' ml' ret' rm as' h0 n0 Ls Q) (q : Lk Z h0 n0 Ls a (.inl (C, fs, vs)))
    (k1 : (Cond.methodLink y.cls i y1).before a0 Z = true) (k2 : (Cond.declares y1).before a0 Z = true) (k5 : (Cond.interfaceMethod y1.cls y1.cls y1.name y1.desc).before a0 Z = true) (k6 : (Cond.selects C y1 y').before a0 Z = true) (k7 : (Cond.instanceMethod y').before a0 Z = true) (k8 : (Cond.publicMethod y').before a0 Z = true) (k9 : (Cond.unhidden C y1.name y1.desc).before a0 Z = true) (k10 : (Cond.castable C y1.cls).before a0 Z = true) (k3 : (Cond.initialized y'.cls).before a0 Z = true) (k4 : (Cond.code y' by' ml' ret').before a0 Z = true) (hy : y1.cls ≠ "java/lang/invoke/MethodHandle" ∧ y1.cls ≠ "java/lang/invoke/VarHandle") (pd : parseMethodDescriptor y1.desc = some ⟨ps, rr⟩) (hd : decode bytes pc = .ok (.invokeinterface i n, 5))
    (hrm : rm.frames + 1 ≤ R.frames ∧ W + (ml' + 11) + rm.locals ≤ R.locals ∧ cells + rm.cells ≤ R.cells ∧ slots + rm.slots ≤ R.slots) (hsz : ls.size = ml) (hpl : argsL.length = ps.length) (has : (.ref a :: argsL).toArray = as') (hst : st = argsL.reverse ++ .ref a :: rest) (hW : (rest.map fun v => v.category).sum ≤ W) (hp : pc + 5 = pc')
    (G : ∀ T' v Ls', Q v Ls' → St p l e R s m args below meth c Z y bytes ml ret h0 n0 T' Ls' (cells + rm.cells) (slots + rm.slots) → Go p e below F T' (mkF m pc' ls (v.toList ++ rest))) : Go p e below F T (mkF m pc ls st) := by
  subst hp; subst hst
  obtain ⟨w1, locs, X, N, H⟩ := w
  have w1' := w1
  obtain ⟨hx, hZ, hown, hby, hml, -⟩ := w1
  obtain ⟨cq, kq, qa, qb, qc⟩ := isOf (s := s) (T := T) hZ rfl (H.lk q).1
  obtain ⟨v, _, ⟨T', L', c', n'⟩, -, X', ⟨Lc, ⟨Ls', hQ, N', H'⟩, l', z1, z2⟩, st'⟩ := X.interfaceBack hx hown (mvT hZ k1) (mvT hZ k2) (mvT hZ k5 (by simp [Cond.onTables, Cond.keepsFace, Cond.keeps, Cond.steady, Cond.faceAtom]; exact hy)) (mvT hZ k6) (mvT hZ k7) (mvT hZ k8) (mvT hZ k9) (mvT hZ k10) hy (backC (W := W) K H hZ k4 k3 hrm.1 hrm.2.1) qa qb qc (g := mkF m pc ls (argsL.reverse ++ .ref a :: rest)) rfl (by rw [hml]; exact hsz) (Steps.refl _) (argsL := argsL) (rest := rest) (lenOf pd hpl) rfl (by show 2 * 0 + _ ≤ _; omega) (hb hby hd) (fun _ _ => ⟨has, rfl, hrm.2.2.1, hrm.2.2.2⟩)
  dsimp only [Pt.U, Pt.locs, Pt.cells, Pt.slots] at X' l' z1 z2 st' H'
  subst l' z1 z2
  exact Go.of (fun t q => st'.trans q) (G T' v Ls' hQ ⟨w1', _, X', Fr.app N N', H'⟩)
theorem s_private {i : Nat} {C : String} {fs : List (String × String × String)} {vs : List Value} {y1 y' : MethodName} {by' : ByteArray} {ml' : Nat} {ret' : Option FieldType} {rm : Room} {as' : Array Value} {Q : Option Value → List Ob → Prop} {ps : List FieldType} {rr : Option FieldType} (W : Nat) (argsL : List Value) (w : St p l e R s m args below meth c Z y bytes ml ret h0 n0 T Ls cells slots) (K : Con l Z y' by' ml' ret' rm as' h0 n0 Ls Q) (q : Lk Z h0 n0 Ls a (.inl (C, fs, vs)))
    (k1 : (Cond.methodLink y.cls i y').before a0 Z = true) (k7 : (Cond.instanceMethod y').before a0 Z = true) (k6 : (Cond.selects y'.cls y1 y1).before a0 Z = true) (hy1 : y1.cls = y'.cls) (k5 : (Cond.privateMethod y').before a0 Z = true) (k3 : (Cond.initialized y'.cls).before a0 Z = true) (k4 : (Cond.code y' by' ml' ret').before a0 Z = true) (hy : y'.cls ≠ "java/lang/invoke/MethodHandle" ∧ y'.cls ≠ "java/lang/invoke/VarHandle") (pd : parseMethodDescriptor y'.desc = some ⟨ps, rr⟩) (hd : decode bytes pc = .ok (.invokevirtual i, 3))
    (hrm : rm.frames + 1 ≤ R.frames ∧ W + (ml' + 11) + rm.locals ≤ R.locals ∧ cells + rm.cells ≤ R.cells ∧ slots + rm.slots ≤ R.slots) (hsz : ls.size = ml) (hpl : argsL.length = ps.length) (has : (.ref a :: argsL).toArray = as') (hst : st = argsL.reverse ++ .ref a :: rest) (hW : (rest.map fun v => v.category).sum ≤ W) (hp : pc + 3 = pc')
    (G : ∀ T' v Ls', Q v Ls' → St p l e R s m args below meth c Z y bytes ml ret h0 n0 T' Ls' (cells + rm.cells) (slots + rm.slots) → Go p e below F T' (mkF m pc' ls (v.toList ++ rest))) : Go p e below F T (mkF m pc ls st) := by
  subst hp; subst hst
  obtain ⟨w1, locs, X, N, H⟩ := w
  have w1' := w1
  obtain ⟨hx, hZ, hown, hby, hml, -⟩ := w1
  obtain ⟨cq, qa, qb⟩ := (H.lk q).1.cell
  obtain ⟨c2, r2, m2, -, -, q3, -, kP, hkP, hkPi⟩ := Cond.selects_spec (mvT hZ k6 : (Cond.selects y'.cls y1 y1).before args s = true)
  have hpr : s.PrivateAt y' := Cond.privateMethod_at (mvP hZ k5 (args := #[]))
  have hsel : (Cond.selects y'.cls y' y').before args s = true := selects_self_of_private (hy1 ▸ findClass_of_methodNamed q3) hkP hkPi hpr (mvT hZ k7) hy
  obtain ⟨v, _, ⟨T', L', c', n'⟩, -, X', ⟨Lc, ⟨Ls', hQ, N', H'⟩, l', z1, z2⟩, st'⟩ := X.privateBack hx hown (mvT hZ k1) (mvT hZ k7) hsel hpr (mvT hZ k4) hy (backC (W := W) K H hZ k4 k3 hrm.1 hrm.2.1) (g := mkF m pc ls (argsL.reverse ++ .ref a :: rest)) rfl (by rw [hml]; exact hsz) (Steps.refl _) (a := a) qa qb (argsL := argsL) (rest := rest) (lenOf pd hpl) rfl (by show 2 * 0 + _ ≤ _; omega) (hb hby hd) (fun _ _ => ⟨has, rfl, hrm.2.2.1, hrm.2.2.2⟩)
  dsimp only [Pt.U, Pt.locs, Pt.cells, Pt.slots] at X' l' z1 z2 st' H'
  subst l' z1 z2
  exact Go.of (fun t q => st'.trans q) (G T' v Ls' hQ ⟨w1', _, X', Fr.app N N', H'⟩)
theorem s_initO {i : Nat} (W : Nat) (w : St p l e R s m args below meth c Z y bytes ml ret h0 n0 T Ls cells slots) (k1 : (Cond.methodLink y.cls i Lib.objectInit).before a0 Z = true) (k2 : (Cond.instanceMethod Lib.objectInit).before a0 Z = true) (k3 : (Cond.code Lib.objectInit ⟨#[0xb1]⟩ 1 none).before a0 Z = true) (hd : decode bytes pc = .ok (.invokespecial i, 3)) (hsz : ls.size = ml) (hf : 1 ≤ R.frames) (hW : (st.map fun v => v.category).sum ≤ W) (hl : W + 12 ≤ R.locals) (hp : pc + 3 = pc')
    (G : ∀ T', St p l e R s m args below meth c Z y bytes ml ret h0 n0 T' Ls cells slots → Go p e below F T' (mkF m pc' ls st)) : Go p e below F T (mkF m pc ls (.ref a :: st)) := by
  subst hp
  obtain ⟨w1, locs, X, N, H⟩ := w
  have w1' := w1
  obtain ⟨hx, hZ, hown, hby, hml, -⟩ := w1
  obtain ⟨T', X', e', st'⟩ := initO X hx hZ hown k1 k2 k3 rfl (g := mkF m pc ls (.ref a :: st)) rfl (by rw [hml]; exact hsz) rfl (hb hby hd) hf (W := W) (by show 2 * 0 + _ ≤ _; omega) hl
  exact Go.of st' (G T' ⟨w1', locs, X', N, by rw [e']; exact H⟩)

end Own

theorem own_eqL {args : Array Value} {s : State} {t : Term} {z : Int64} (h : (Cond.eq t (.long z)).value args s none s [] = some true) : t.eval args s none [] s = some (.long z) := by
  cases ht : t.eval args s none [] s with
  | none => simp [Cond.value, ht] at h
  | some x => cases x <;> simp [Cond.value, ht, Term.eval] at h ⊢; exact h

abbrev aI (vs : List Value) : Ob := .inr (.int, vs)
abbrev aJ (vs : List Value) : Ob := .inr (.long, vs)
abbrev aO (vs : List Value) : Ob := .inr (.object "java/lang/Object", vs)
def Tw (Z : State) (a0 : Array Value) : Prop := ∀ d ∈ tables_1, d.before a0 Z = true
theorem t0 {Z : State} {a0 : Array Value} (hw : Tw Z a0) : ((Jvm.Cond.classLink "com/example/pipelined_producer/pipelinedproducer/AppendedTimestampOfPinLaw" (9 : Nat) "com/example/pipelined_producer/pipelinedproducer/Appended")).before a0 Z = true := hw _ (List.mem_of_getElem? (i := 0) rfl)
theorem t1 {Z : State} {a0 : Array Value} (hw : Tw Z a0) : ((Jvm.Cond.instantiable "com/example/pipelined_producer/pipelinedproducer/Appended" (2 : Nat))).before a0 Z = true := hw _ (List.mem_of_getElem? (i := 1) rfl)
theorem t2 {Z : State} {a0 : Array Value} (hw : Tw Z a0) : ((Jvm.Cond.initialized "com/example/pipelined_producer/pipelinedproducer/Appended")).before a0 Z = true := hw _ (List.mem_of_getElem? (i := 2) rfl)
theorem t3 {Z : State} {a0 : Array Value} (hw : Tw Z a0) : ((Jvm.Cond.methodLink "com/example/pipelined_producer/pipelinedproducer/AppendedTimestampOfPinLaw" (11 : Nat) ({ cls := "com/example/pipelined_producer/pipelinedproducer/Appended", name := "<init>", desc := "(JJ)V" } : Jvm.MethodName))).before a0 Z = true := hw _ (List.mem_of_getElem? (i := 3) rfl)
theorem t4 {Z : State} {a0 : Array Value} (hw : Tw Z a0) : ((Jvm.Cond.instanceMethod ({ cls := "com/example/pipelined_producer/pipelinedproducer/Appended", name := "<init>", desc := "(JJ)V" } : Jvm.MethodName))).before a0 Z = true := hw _ (List.mem_of_getElem? (i := 4) rfl)
theorem t5 {Z : State} {a0 : Array Value} (hw : Tw Z a0) : ((Jvm.Cond.code ({ cls := "com/example/pipelined_producer/pipelinedproducer/Appended", name := "<init>", desc := "(JJ)V" } : Jvm.MethodName) prog_2_method_1_code (5 : Nat) (Option.none : Option Jvm.ClassFile.FieldType))).before a0 Z = true := hw _ (List.mem_of_getElem? (i := 5) rfl)
theorem t6 {Z : State} {a0 : Array Value} (hw : Tw Z a0) : ((Jvm.Cond.methodLink "com/example/pipelined_producer/pipelinedproducer/Appended" (1 : Nat) ({ cls := "java/lang/Record", name := "<init>", desc := "()V" } : Jvm.MethodName))).before a0 Z = true := hw _ (List.mem_of_getElem? (i := 6) rfl)
theorem t7 {Z : State} {a0 : Array Value} (hw : Tw Z a0) : ((Jvm.Cond.instanceMethod ({ cls := "java/lang/Record", name := "<init>", desc := "()V" } : Jvm.MethodName))).before a0 Z = true := hw _ (List.mem_of_getElem? (i := 7) rfl)
theorem t9 {Z : State} {a0 : Array Value} (hw : Tw Z a0) : ((Jvm.Cond.initialized "java/lang/Record")).before a0 Z = true := hw _ (List.mem_of_getElem? (i := 9) rfl)
theorem t10 {Z : State} {a0 : Array Value} (hw : Tw Z a0) : ((Jvm.Cond.code ({ cls := "java/lang/Record", name := "<init>", desc := "()V" } : Jvm.MethodName) jdk_30_method_1_code (1 : Nat) (Option.none : Option Jvm.ClassFile.FieldType))).before a0 Z = true := hw _ (List.mem_of_getElem? (i := 10) rfl)
theorem t11 {Z : State} {a0 : Array Value} (hw : Tw Z a0) : ((Jvm.Cond.methodLink "java/lang/Record" (1 : Nat) ({ cls := "java/lang/Object", name := "<init>", desc := "()V" } : Jvm.MethodName))).before a0 Z = true := hw _ (List.mem_of_getElem? (i := 11) rfl)
theorem t12 {Z : State} {a0 : Array Value} (hw : Tw Z a0) : ((Jvm.Cond.instanceMethod ({ cls := "java/lang/Object", name := "<init>", desc := "()V" } : Jvm.MethodName))).before a0 Z = true := hw _ (List.mem_of_getElem? (i := 12) rfl)
theorem t13 {Z : State} {a0 : Array Value} (hw : Tw Z a0) : ((Jvm.Cond.code ({ cls := "java/lang/Object", name := "<init>", desc := "()V" } : Jvm.MethodName) object_method_1_code (1 : Nat) (Option.none : Option Jvm.ClassFile.FieldType))).before a0 Z = true := hw _ (List.mem_of_getElem? (i := 13) rfl)
theorem t14 {Z : State} {a0 : Array Value} (hw : Tw Z a0) : ((Jvm.Cond.fieldLink "com/example/pipelined_producer/pipelinedproducer/Appended" (7 : Nat) "com/example/pipelined_producer/pipelinedproducer/Appended" "baseOffset" "J")).before a0 Z = true := hw _ (List.mem_of_getElem? (i := 14) rfl)
theorem t15 {Z : State} {a0 : Array Value} (hw : Tw Z a0) : ((Jvm.Cond.laysFinal "com/example/pipelined_producer/pipelinedproducer/Appended" "com/example/pipelined_producer/pipelinedproducer/Appended" "baseOffset" "J")).before a0 Z = true := hw _ (List.mem_of_getElem? (i := 15) rfl)
theorem t16 {Z : State} {a0 : Array Value} (hw : Tw Z a0) : ((Jvm.Cond.fieldLink "com/example/pipelined_producer/pipelinedproducer/Appended" (13 : Nat) "com/example/pipelined_producer/pipelinedproducer/Appended" "logAppendTime" "J")).before a0 Z = true := hw _ (List.mem_of_getElem? (i := 16) rfl)
theorem t17 {Z : State} {a0 : Array Value} (hw : Tw Z a0) : ((Jvm.Cond.laysFinal "com/example/pipelined_producer/pipelinedproducer/Appended" "com/example/pipelined_producer/pipelinedproducer/Appended" "logAppendTime" "J")).before a0 Z = true := hw _ (List.mem_of_getElem? (i := 17) rfl)
theorem t18 {Z : State} {a0 : Array Value} (hw : Tw Z a0) : ((Jvm.Cond.methodLink "com/example/pipelined_producer/pipelinedproducer/AppendedTimestampOfPinLaw" (14 : Nat) ({ cls := "com/example/pipelined_producer/pipelinedproducer/Appended", name := "timestampOf", desc := "(J)J" } : Jvm.MethodName))).before a0 Z = true := hw _ (List.mem_of_getElem? (i := 18) rfl)
theorem t19 {Z : State} {a0 : Array Value} (hw : Tw Z a0) : ((Jvm.Cond.declares ({ cls := "com/example/pipelined_producer/pipelinedproducer/Appended", name := "timestampOf", desc := "(J)J" } : Jvm.MethodName))).before a0 Z = true := hw _ (List.mem_of_getElem? (i := 19) rfl)
theorem t20 {Z : State} {a0 : Array Value} (hw : Tw Z a0) : ((Jvm.Cond.instanceMethod ({ cls := "com/example/pipelined_producer/pipelinedproducer/Appended", name := "timestampOf", desc := "(J)J" } : Jvm.MethodName))).before a0 Z = true := hw _ (List.mem_of_getElem? (i := 20) rfl)
theorem t21 {Z : State} {a0 : Array Value} (hw : Tw Z a0) : ((Jvm.Cond.selects "com/example/pipelined_producer/pipelinedproducer/Appended" ({ cls := "com/example/pipelined_producer/pipelinedproducer/Appended", name := "timestampOf", desc := "(J)J" } : Jvm.MethodName) ({ cls := "com/example/pipelined_producer/pipelinedproducer/Appended", name := "timestampOf", desc := "(J)J" } : Jvm.MethodName))).before a0 Z = true := hw _ (List.mem_of_getElem? (i := 21) rfl)
theorem t22 {Z : State} {a0 : Array Value} (hw : Tw Z a0) : ((Jvm.Cond.code ({ cls := "com/example/pipelined_producer/pipelinedproducer/Appended", name := "timestampOf", desc := "(J)J" } : Jvm.MethodName) prog_2_method_3_code (3 : Nat) (Option.some Jvm.ClassFile.FieldType.long))).before a0 Z = true := hw _ (List.mem_of_getElem? (i := 22) rfl)
theorem t23 {Z : State} {a0 : Array Value} (hw : Tw Z a0) : ((Jvm.Cond.constantLong "com/example/pipelined_producer/pipelinedproducer/Appended" (18 : Nat) (-1 : Int64))).before a0 Z = true := hw _ (List.mem_of_getElem? (i := 23) rfl)
theorem t24 {Z : State} {a0 : Array Value} (hw : Tw Z a0) : ((Jvm.Cond.constantLong "com/example/pipelined_producer/pipelinedproducer/AppendedTimestampOfPinLaw" (7 : Nat) (-1 : Int64))).before a0 Z = true := hw _ (List.mem_of_getElem? (i := 24) rfl)
theorem t25 {Z : State} {a0 : Array Value} (hw : Tw Z a0) : ((Jvm.Cond.fieldLink "com/example/pipelined_producer/pipelinedproducer/AppendedTimestampOfPinLaw" (18 : Nat) "com/example/pipelined_producer/pipelinedproducer/Appended" "UNANSWERED" "Lcom/example/pipelined_producer/pipelinedproducer/Appended;")).before a0 Z = true := hw _ (List.mem_of_getElem? (i := 25) rfl)
theorem t27 {Z : State} {a0 : Array Value} (hw : Tw Z a0) : ((Jvm.Cond.methodLink "com/example/pipelined_producer/pipelinedproducer/AppendedTimestampOfPinLaw" (22 : Nat) ({ cls := "com/example/pipelined_producer/pipelinedproducer/Appended", name := "logAppendTime", desc := "()J" } : Jvm.MethodName))).before a0 Z = true := hw _ (List.mem_of_getElem? (i := 27) rfl)
theorem t28 {Z : State} {a0 : Array Value} (hw : Tw Z a0) : ((Jvm.Cond.declares ({ cls := "com/example/pipelined_producer/pipelinedproducer/Appended", name := "logAppendTime", desc := "()J" } : Jvm.MethodName))).before a0 Z = true := hw _ (List.mem_of_getElem? (i := 28) rfl)
theorem t29 {Z : State} {a0 : Array Value} (hw : Tw Z a0) : ((Jvm.Cond.instanceMethod ({ cls := "com/example/pipelined_producer/pipelinedproducer/Appended", name := "logAppendTime", desc := "()J" } : Jvm.MethodName))).before a0 Z = true := hw _ (List.mem_of_getElem? (i := 29) rfl)
theorem t30 {Z : State} {a0 : Array Value} (hw : Tw Z a0) : ((Jvm.Cond.selects "com/example/pipelined_producer/pipelinedproducer/Appended" ({ cls := "com/example/pipelined_producer/pipelinedproducer/Appended", name := "logAppendTime", desc := "()J" } : Jvm.MethodName) ({ cls := "com/example/pipelined_producer/pipelinedproducer/Appended", name := "logAppendTime", desc := "()J" } : Jvm.MethodName))).before a0 Z = true := hw _ (List.mem_of_getElem? (i := 30) rfl)
theorem t31 {Z : State} {a0 : Array Value} (hw : Tw Z a0) : ((Jvm.Cond.code ({ cls := "com/example/pipelined_producer/pipelinedproducer/Appended", name := "logAppendTime", desc := "()J" } : Jvm.MethodName) prog_2_method_8_code (1 : Nat) (Option.some Jvm.ClassFile.FieldType.long))).before a0 Z = true := hw _ (List.mem_of_getElem? (i := 31) rfl)
def fs0 : List (String × String × String) := [("com/example/pipelined_producer/pipelinedproducer/Appended", "baseOffset", "J"), ("com/example/pipelined_producer/pipelinedproducer/Appended", "logAppendTime", "J")]
abbrev o0 (w0 w1 : Value) : Ob := .inl ("com/example/pipelined_producer/pipelinedproducer/Appended", fs0, [w0, w1])
theorem cls0 {Z : State} {a0 : Array Value} (hw : Tw Z a0) : Cls Z a0 "com/example/pipelined_producer/pipelinedproducer/Appended" 2 fs0 := by
  refine ⟨(t1 hw), fun i f hf => ?_, fun i j f g hf hg e => ?_⟩
  · match i, hf with
    | 0, hf => cases (Option.some.inj hf); exact ⟨Or.inr (t15 hw), .long, by decide +kernel⟩
    | 1, hf => cases (Option.some.inj hf); exact ⟨Or.inr (t17 hw), .long, by decide +kernel⟩
    | (i + 2), hf => exact absurd hf (by simp [fs0])
  · have hi : i < 2 := (List.getElem?_eq_some_iff.mp hf).1
    have hj : j < 2 := (List.getElem?_eq_some_iff.mp hg).1
    have key : ∀ (i j : Fin 2), (fs0[i.val]?.map (·.2.1)) = (fs0[j.val]?.map (·.2.1)) → i = j := by decide +kernel
    exact congrArg Fin.val (key ⟨i, hi⟩ ⟨j, hj⟩ (by simp only [hf, hg, Option.map_some, e]))
theorem pd0 : parseMethodDescriptor "()V" = some ⟨[], none⟩ := by decide +kernel
theorem pd1 : parseMethodDescriptor "(JJ)V" = some ⟨[.long, .long], none⟩ := by decide +kernel
theorem pd2 : parseMethodDescriptor "(J)J" = some ⟨[.long], some .long⟩ := by decide +kernel
theorem pd3 : parseMethodDescriptor "()J" = some ⟨[], some .long⟩ := by decide +kernel
theorem pn0 : plainName "java/lang/Record" = true := by first | (simp [plainName, overriddenIn]; done) | decide +kernel
theorem pn1 : plainName "com/example/pipelined_producer/pipelinedproducer/Appended" = true := by first | (simp [plainName, overriddenIn]; done) | decide +kernel
theorem pn2 : plainName "com/example/pipelined_producer/pipelinedproducer/AppendedTimestampOfPinLaw" = true := by first | (simp [plainName, overriddenIn]; done) | decide +kernel
theorem d1_0 : decode prog_2_method_1_code 0 = .ok (.aload_n 0, 1) := by decide +kernel
theorem d1_1 : decode prog_2_method_1_code 1 = .ok (.invokespecial 1, 3) := by decide +kernel
theorem d1_4 : decode prog_2_method_1_code 4 = .ok (.aload_n 0, 1) := by decide +kernel
theorem d1_5 : decode prog_2_method_1_code 5 = .ok (.lload_n 1, 1) := by decide +kernel
theorem d1_6 : decode prog_2_method_1_code 6 = .ok (.putfield 7, 3) := by decide +kernel
theorem d1_9 : decode prog_2_method_1_code 9 = .ok (.aload_n 0, 1) := by decide +kernel
theorem d1_10 : decode prog_2_method_1_code 10 = .ok (.lload_n 3, 1) := by decide +kernel
theorem d1_11 : decode prog_2_method_1_code 11 = .ok (.putfield 13, 3) := by decide +kernel
theorem d1_14 : decode prog_2_method_1_code 14 = .ok (.return_, 1) := by decide +kernel
theorem d2_0 : decode jdk_30_method_1_code 0 = .ok (.aload_n 0, 1) := by decide +kernel
theorem d2_1 : decode jdk_30_method_1_code 1 = .ok (.invokespecial 1, 3) := by decide +kernel
theorem d2_4 : decode jdk_30_method_1_code 4 = .ok (.return_, 1) := by decide +kernel
theorem d4_0 : decode prog_2_method_3_code 0 = .ok (.aload_n 0, 1) := by decide +kernel
theorem d4_1 : decode prog_2_method_3_code 1 = .ok (.getfield 13, 3) := by decide +kernel
theorem d4_4 : decode prog_2_method_3_code 4 = .ok (.ldc2_w 18, 3) := by decide +kernel
theorem d4_7 : decode prog_2_method_3_code 7 = .ok (.lcmp, 1) := by decide +kernel
theorem d4_8 : decode prog_2_method_3_code 8 = .ok (.ifCond .ne 7, 3) := by decide +kernel
theorem d4_11 : decode prog_2_method_3_code 11 = .ok (.lload_n 1, 1) := by decide +kernel
theorem d4_12 : decode prog_2_method_3_code 12 = .ok (.goto 7, 3) := by decide +kernel
theorem d4_15 : decode prog_2_method_3_code 15 = .ok (.aload_n 0, 1) := by decide +kernel
theorem d4_16 : decode prog_2_method_3_code 16 = .ok (.getfield 13, 3) := by decide +kernel
theorem d4_19 : decode prog_2_method_3_code 19 = .ok (.lreturn, 1) := by decide +kernel
theorem d5_0 : decode prog_2_method_8_code 0 = .ok (.aload_n 0, 1) := by decide +kernel
theorem d5_1 : decode prog_2_method_8_code 1 = .ok (.getfield 13, 3) := by decide +kernel
theorem d5_4 : decode prog_2_method_8_code 4 = .ok (.lreturn, 1) := by decide +kernel
set_option maxRecDepth 65536 in
set_option maxHeartbeats 40000000 in
theorem c_rec {Z : State} {a0 : Array Value} (hw : Tw Z a0) (l : Launch) (h0 : Heap) (n0 : Nat) (a : Addr) (Ls : List Ob) :
    Met1 l Z (⟨"java/lang/Record", "<init>", "()V"⟩ : MethodName) jdk_30_method_1_code 1 none ({ frames := 1, cells := 0, slots := 0, locals := 12 } : Room) #[(.ref a)] h0 n0 Ls (fun v L => v = none ∧ L = Ls) [] := by
  refine Met1.of (ls := #[.val (.ref a)]) (plainFor_of_name pn0) (fun m => by first | (simp [entryFrame, mkF, argsToLocals, Value.category]; done) | rfl) ?_
  intro p e s m below meth c T w
  refine s_aloadN (pc' := 1) w d2_0 rfl rfl rfl ?_
  refine s_initO (pc' := 4) 0 w (t11 hw) (t12 hw) (t13 hw) d2_1 rfl (by decide) (Nat.le_of_eq rfl) (by decide) rfl ?_
  intro T w
  exact s_return w d2_4 (by decide) (by decide) ⟨rfl, rfl⟩
set_option maxRecDepth 65536 in
set_option maxHeartbeats 40000000 in
theorem c_init {Z : State} {a0 : Array Value} (hw : Tw Z a0) (l : Launch) (h0 : Heap) (n0 : Nat) (k : Nat) (b : Int64) (t : Int64) (Ls : List Ob) (hk : Ls[k]? = some (o0 (.long 0) (.long 0))) :
    Met1 l Z (⟨"com/example/pipelined_producer/pipelinedproducer/Appended", "<init>", "(JJ)V"⟩ : MethodName) prog_2_method_1_code 5 none ({ frames := 2, cells := 0, slots := 0, locals := 26 } : Room) #[(.ref (n0 + k)), (.long b), (.long t)] h0 n0 Ls (fun v L => v = none ∧ L = Ls.set k (o0 (.long b) (.long t))) [] := by
  refine Met1.of (ls := #[.val (.ref (n0 + k)), .val (.long b), .second, .val (.long t), .second]) (plainFor_of_name pn1) (fun m => by first | (simp [entryFrame, mkF, argsToLocals, Value.category]; done) | rfl) ?_
  intro p e s m below meth c T w
  refine s_aloadN (pc' := 1) w d1_0 rfl rfl rfl ?_
  refine s_special (pc' := 4) (rest := []) 0 [] w (c_rec hw l h0 n0 (n0 + k) Ls) rfl (t6 hw) (t7 hw) (t9 hw) (t10 hw) (by decide) pd0 d1_1 ⟨by decide, by decide, by decide, by decide⟩ rfl rfl rfl rfl (Nat.le_of_eq rfl) rfl ?_
  intro T v L' hQ w
  obtain ⟨rfl, hL⟩ := hQ
  replace hL := hL.symm
  subst hL
  change Go p e below _ T (mkF m 4 #[.val (.ref (n0 + k)), .val (.long b), .second, .val (.long t), .second] [])
  refine s_aloadN (pc' := 5) w d1_4 rfl rfl rfl ?_
  refine s_lloadN (pc' := 6) w d1_5 rfl rfl ?_
  refine s_put (pc' := 9) (host := "") (k := k) w (Or.inl (t14 hw)) Via.refl (cls0 hw) hk (j := 0) rfl (Nat.le_of_ble_eq_true rfl) (Or.inr ⟨(t15 hw), rfl, rfl⟩) (ty := .long) (by decide) rfl rfl d1_6 rfl ?_
  intro T w
  refine s_aloadN (pc' := 10) w d1_9 rfl rfl rfl ?_
  refine s_lloadN (pc' := 11) w d1_10 rfl rfl ?_
  refine s_put (pc' := 14) (host := "") (k := k) w (Or.inl (t16 hw)) Via.refl (cls0 hw) (lk_set hk) (j := 1) rfl (Nat.le_of_ble_eq_true rfl) (Or.inr ⟨(t17 hw), rfl, rfl⟩) (ty := .long) (by decide) rfl rfl d1_11 rfl ?_
  intro T w
  exact s_return w d1_14 (by decide) (by decide) ⟨rfl, List.set_set ..⟩
set_option maxRecDepth 65536 in
set_option maxHeartbeats 40000000 in
theorem c_ts {Z : State} {a0 : Array Value} (hw : Tw Z a0) (l : Launch) (h0 : Heap) (n0 : Nat) (a : Addr) (cr t : Int64) (vs : List Value) (Ls : List Ob) (q : Lk Z h0 n0 Ls a (.inl ("com/example/pipelined_producer/pipelinedproducer/Appended", fs0, vs))) (hv : vs[1]? = some (.long t)) :
    Met1 l Z (⟨"com/example/pipelined_producer/pipelinedproducer/Appended", "timestampOf", "(J)J"⟩ : MethodName) prog_2_method_3_code 3 (some .long) ({ frames := 0, cells := 0, slots := 0, locals := 0 } : Room) #[(.ref a), (.long cr)] h0 n0 Ls (fun v L => v = some (.long (if t = -1 then cr else t)) ∧ L = Ls) [] := by
  refine Met1.of (ls := #[.val (.ref a), .val (.long cr), .second]) (plainFor_of_name pn1) (fun m => by first | (simp [entryFrame, mkF, argsToLocals, Value.category]; done) | rfl) ?_
  intro p e s m below meth c T w
  refine s_aloadN (pc' := 1) w d4_0 rfl rfl rfl ?_
  refine s_getL (pc' := 4) (host := "") w (Or.inl (t16 hw)) Via.refl q (j := 1) rfl hv d4_1 rfl ?_
  intro T w
  refine s_ldc2 (pc' := 7) w (t23 hw) d4_4 rfl ?_
  refine s_lcmp (pc' := 8) w d4_7 rfl ?_
  by_cases h : t = -1
  · refine s_ifN (pc' := 11) w d4_8 (Jvm.Free.XT.ll_ne_f h) rfl ?_
    refine s_lloadN (pc' := 12) w d4_11 rfl rfl ?_
    refine s_goto (pc' := 19) w d4_12 (by decide) (by decide) ?_
    exact s_lreturn w d4_19 (by decide) (by decide) ⟨by rw [if_pos h], rfl⟩
  · refine s_ifY (pc' := 15) w d4_8 (Jvm.Free.XT.ll_ne_t h) (by decide) (by decide) ?_
    refine s_aloadN (pc' := 16) w d4_15 rfl rfl rfl ?_
    refine s_getL (pc' := 19) (host := "") w (Or.inl (t16 hw)) Via.refl q (j := 1) rfl hv d4_16 rfl ?_
    intro T w
    exact s_lreturn w d4_19 (by decide) (by decide) ⟨by rw [if_neg h], rfl⟩
set_option maxRecDepth 65536 in
set_option maxHeartbeats 40000000 in
theorem c_lat {Z : State} {a0 : Array Value} (hw : Tw Z a0) (l : Launch) (h0 : Heap) (n0 : Nat) (a : Addr) (t : Int64) (vs : List Value) (Ls : List Ob) (q : Lk Z h0 n0 Ls a (.inl ("com/example/pipelined_producer/pipelinedproducer/Appended", fs0, vs))) (hv : vs[1]? = some (.long t)) :
    Met1 l Z (⟨"com/example/pipelined_producer/pipelinedproducer/Appended", "logAppendTime", "()J"⟩ : MethodName) prog_2_method_8_code 1 (some .long) ({ frames := 0, cells := 0, slots := 0, locals := 0 } : Room) #[(.ref a)] h0 n0 Ls (fun v L => v = some (.long t) ∧ L = Ls) [] := by
  refine Met1.of (ls := #[.val (.ref a)]) (plainFor_of_name pn1) (fun m => by first | (simp [entryFrame, mkF, argsToLocals, Value.category]; done) | rfl) ?_
  intro p e s m below meth c T w
  refine s_aloadN (pc' := 1) w d5_0 rfl rfl rfl ?_
  refine s_getL (pc' := 4) (host := "") w (Or.inl (t16 hw)) Via.refl q (j := 1) rfl hv d5_1 rfl ?_
  intro T w
  exact s_lreturn w d5_4 (by decide) (by decide) ⟨rfl, rfl⟩
set_option maxRecDepth 65536 in
set_option maxHeartbeats 40000000 in
theorem c_law {Z : State} {a0 : Array Value} (hw : Tw Z a0) (l : Launch) (h0 : Heap) (n0 : Nat) (base lat cr : Int64) (flag : Int32) (u : Addr) (ub : Value) (S : Sta Z h0 "com/example/pipelined_producer/pipelinedproducer/Appended" "UNANSWERED" "Lcom/example/pipelined_producer/pipelinedproducer/Appended;" (.ref u)) (qu : Is Z h0 u (.inl ("com/example/pipelined_producer/pipelinedproducer/Appended", fs0, [ub, .long (-1)]))) :
    Met1 l Z x code maxLocals ret room_1 #[(.long base), (.long lat), (.long cr), (.int flag)] h0 n0 [] (fun v _ => v = some (.int 1)) tables_1 := by
  refine Met1.of (ls := #[.val (.long base), .second, .val (.long lat), .second, .val (.long cr), .second, .val (.int flag), .unset, .unset, .unset, .unset, .unset, .unset, .unset, .unset, .unset]) (plainFor_of_name pn2) (fun m => by first | (simp [entryFrame, mkF, argsToLocals, Value.category, maxLocals]; done) | rfl) ?_
  intro p e s m below meth c T w
  refine s_iload (pc' := 2) w at_0 rfl rfl ?_
  refine s_iconst (pc' := 3) (1 : Int32) w at_2 (by decide) rfl ?_
  refine s_iand (pc' := 4) w at_3 rfl ?_
  refine Go.via (T' := T) (g' := (mkF m 14 #[.val (.long base), .second, .val (.long lat), .second, .val (.long cr), .second, .val (.int flag), .unset, .unset, .unset, .unset, .unset, .unset, .unset, .unset, .unset] [(.long (if (flag &&& (1 : Int32)) = 0 then lat else (-1 : Int64)))])) ?_ ?_
  · intro K
    by_cases h : (flag &&& (1 : Int32)) = 0
    · refine s_ifY (pc' := 13) w at_4 (Jvm.Free.XT.i0_eq_t h) (by decide) (by decide) ?_
      refine s_lloadN (pc' := 14) w at_13 rfl rfl ?_
      exact Go.cast (by rw [if_pos h]) K
    · refine s_ifN (pc' := 7) w at_4 (Jvm.Free.XT.i0_eq_f h) rfl ?_
      refine s_ldc2 (pc' := 10) w (t24 hw) at_7 rfl ?_
      refine s_goto (pc' := 14) w at_10 (by decide) (by decide) ?_
      exact Go.cast (by rw [if_neg h]) K
  generalize ht : (if (flag &&& (1 : Int32)) = 0 then lat else (-1 : Int64)) = t
  refine s_lstore (pc' := 16) (ls' := #[.val (.long base), .second, .val (.long lat), .second, .val (.long cr), .second, .val (.int flag), .val (.long t), .second, .unset, .unset, .unset, .unset, .unset, .unset, .unset]) w at_14 rfl rfl ?_
  refine s_new (pc' := 19) [(.long 0), (.long 0)] w (t0 hw) (t2 hw) (cls0 hw) at_16 ?_ (by decide) (by decide) 0 rfl rfl ?_
  · intro j f v h1 h2
    match j, h1, h2 with
    | 0, h1, h2 => cases (Option.some.inj h1); cases (Option.some.inj h2); exact ⟨.long, by decide +kernel, rfl⟩
    | 1, h1, h2 => cases (Option.some.inj h1); cases (Option.some.inj h2); exact ⟨.long, by decide +kernel, rfl⟩
    | (i + 2), h1, _ => exact absurd h1 (by simp [fs0])
  intro T w
  replace w : St p l e _ s m _ below meth c Z _ _ _ _ h0 n0 T [o0 (.long 0) (.long 0)] 1 2 := w
  change Go p e below _ T (mkF m 19 #[.val (.long base), .second, .val (.long lat), .second, .val (.long cr), .second, .val (.int flag), .val (.long t), .second, .unset, .unset, .unset, .unset, .unset, .unset, .unset] [(.ref (n0 + 0))])
  refine s_dup (pc' := 20) w at_19 rfl rfl ?_
  refine s_lloadN (pc' := 21) w at_20 rfl rfl ?_
  refine s_lload (pc' := 23) w at_21 rfl rfl ?_
  refine s_special (pc' := 26) (rest := [(.ref (n0 + 0))]) 1 [(.long base), (.long t)] w (c_init hw l h0 n0 0 base t [o0 (.long 0) (.long 0)] rfl) rfl (t3 hw) (t4 hw) (t2 hw) (t5 hw) (by decide) pd1 at_23 ⟨by decide, by decide, by decide, by decide⟩ rfl rfl rfl rfl (Nat.le_of_eq rfl) rfl ?_
  intro T v L' hQ w
  obtain ⟨rfl, hL⟩ := hQ
  replace hL := hL.symm
  subst hL
  replace w : St p l e _ s m _ below meth c Z _ _ _ _ h0 n0 T [.inl ("com/example/pipelined_producer/pipelinedproducer/Appended", fs0, [.long base, .long t])] 1 2 := w
  change Go p e below _ T (mkF m 26 #[.val (.long base), .second, .val (.long lat), .second, .val (.long cr), .second, .val (.int flag), .val (.long t), .second, .unset, .unset, .unset, .unset, .unset, .unset, .unset] [(.ref (n0 + 0))])
  refine s_astore (pc' := 28) (ls' := #[.val (.long base), .second, .val (.long lat), .second, .val (.long cr), .second, .val (.int flag), .val (.long t), .second, .val (.ref (n0 + 0)), .unset, .unset, .unset, .unset, .unset, .unset]) w at_26 rfl rfl rfl ?_
  refine s_aload (pc' := 30) w at_28 rfl rfl rfl ?_
  refine s_lload (pc' := 32) w at_30 rfl rfl ?_
  refine s_virtual (pc' := 35) (rest := []) 0 [(.long cr)] w (c_ts hw l h0 n0 (n0 + 0) cr t _ [.inl ("com/example/pipelined_producer/pipelinedproducer/Appended", fs0, [.long base, .long t])] (Lk.new rfl) rfl) (Lk.new rfl) (t18 hw) (t19 hw) (w.notFace (t21 hw)) (t21 hw) (t20 hw) (t2 hw) (t22 hw) (by decide) pd2 at_32 ⟨by decide, by decide, by decide, by decide⟩ rfl rfl rfl rfl (Nat.le_of_eq rfl) rfl ?_
  intro T v L' hQ w
  obtain ⟨rfl, hL⟩ := hQ
  replace hL := hL.symm
  subst hL
  replace w : St p l e _ s m _ below meth c Z _ _ _ _ h0 n0 T [.inl ("com/example/pipelined_producer/pipelinedproducer/Appended", fs0, [.long base, .long t])] 1 2 := w
  change Go p e below _ T (mkF m 35 #[.val (.long base), .second, .val (.long lat), .second, .val (.long cr), .second, .val (.int flag), .val (.long t), .second, .val (.ref (n0 + 0)), .unset, .unset, .unset, .unset, .unset, .unset] [(.long (if t = -1 then cr else t))])
  refine s_lstore (pc' := 37) (ls' := #[.val (.long base), .second, .val (.long lat), .second, .val (.long cr), .second, .val (.int flag), .val (.long t), .second, .val (.ref (n0 + 0)), .val (.long (if t = -1 then cr else t)), .second, .unset, .unset, .unset, .unset]) w at_35 rfl rfl ?_
  refine s_lload (pc' := 39) w at_37 rfl rfl ?_
  refine s_ldc2 (pc' := 42) w (t24 hw) at_39 rfl ?_
  refine s_lcmp (pc' := 43) w at_42 rfl ?_
  by_cases h : t = -1
  · rw [if_pos h]
    refine s_ifY (pc' := 50) w at_43 (Jvm.Free.XT.ll_eq_t h) (by decide) (by decide) ?_
    refine s_iconst (pc' := 51) (0 : Int32) w at_50 (by decide) rfl ?_
    refine s_istore (pc' := 53) (ls' := #[.val (.long base), .second, .val (.long lat), .second, .val (.long cr), .second, .val (.int flag), .val (.long t), .second, .val (.ref (n0 + 0)), .val (.long cr), .second, .val (.int (0 : Int32)), .unset, .unset, .unset]) w at_51 rfl rfl ?_
    refine s_iload (pc' := 55) w at_53 rfl rfl ?_
    refine s_ifY (pc' := 76) w at_55 (Jvm.Free.XT.i0_eq_t rfl) (by decide) (by decide) ?_
    refine s_lload (pc' := 78) w at_76 rfl rfl ?_
    refine s_lload (pc' := 80) w at_78 rfl rfl ?_
    refine s_lcmp (pc' := 81) w at_80 rfl ?_
    refine s_ifN (pc' := 84) w at_81 (Jvm.Free.XT.ll_ne_f rfl) rfl ?_
    refine s_iconst (pc' := 85) (1 : Int32) w at_84 (by decide) rfl ?_
    refine s_goto (pc' := 89) w at_85 (by decide) (by decide) ?_
    refine s_istore (pc' := 91) (ls' := #[.val (.long base), .second, .val (.long lat), .second, .val (.long cr), .second, .val (.int flag), .val (.long t), .second, .val (.ref (n0 + 0)), .val (.long cr), .second, .val (.int (0 : Int32)), .val (.int (1 : Int32)), .unset, .unset]) w at_89 rfl rfl ?_
    refine s_getS (pc' := 94) (host := "") w (Or.inl (t25 hw)) Via.refl S at_91 rfl ?_
    intro T w
    refine s_lload (pc' := 96) w at_94 rfl rfl ?_
    refine s_virtual (pc' := 99) (rest := []) 0 [(.long cr)] w (c_ts hw l h0 n0 u cr (-1) _ [.inl ("com/example/pipelined_producer/pipelinedproducer/Appended", fs0, [.long base, .long t])] (Or.inr qu) rfl) (Or.inr qu) (t18 hw) (t19 hw) (w.notFace (t21 hw)) (t21 hw) (t20 hw) (t2 hw) (t22 hw) (by decide) pd2 at_96 ⟨by decide, by decide, by decide, by decide⟩ rfl rfl rfl rfl (Nat.le_of_eq rfl) rfl ?_
    intro T v L' hQ w
    obtain ⟨rfl, hL⟩ := hQ
    replace hL := hL.symm
    subst hL
    replace w : St p l e _ s m _ below meth c Z _ _ _ _ h0 n0 T [.inl ("com/example/pipelined_producer/pipelinedproducer/Appended", fs0, [.long base, .long t])] 1 2 := w
    change Go p e below _ T (mkF m 99 #[.val (.long base), .second, .val (.long lat), .second, .val (.long cr), .second, .val (.int flag), .val (.long t), .second, .val (.ref (n0 + 0)), .val (.long cr), .second, .val (.int (0 : Int32)), .val (.int (1 : Int32)), .unset, .unset] [(.long (if (-1 : Int64) = -1 then cr else (-1 : Int64)))])
    rw [if_pos rfl]
    refine s_lstore (pc' := 101) (ls' := #[.val (.long base), .second, .val (.long lat), .second, .val (.long cr), .second, .val (.int flag), .val (.long t), .second, .val (.ref (n0 + 0)), .val (.long cr), .second, .val (.int (0 : Int32)), .val (.int (1 : Int32)), .val (.long cr), .second]) w at_99 rfl rfl ?_
    refine s_iload (pc' := 103) w at_101 rfl rfl ?_
    refine s_ifN (pc' := 106) w at_103 (Jvm.Free.XT.i0_eq_f (by decide)) rfl ?_
    refine s_lload (pc' := 108) w at_106 rfl rfl ?_
    refine s_lload (pc' := 110) w at_108 rfl rfl ?_
    refine s_lcmp (pc' := 111) w at_110 rfl ?_
    refine s_ifN (pc' := 114) w at_111 (Jvm.Free.XT.ll_ne_f rfl) rfl ?_
    refine s_aload (pc' := 116) w at_114 rfl rfl rfl ?_
    refine s_virtual (pc' := 119) (rest := []) 0 [] w (c_lat hw l h0 n0 (n0 + 0) t _ [.inl ("com/example/pipelined_producer/pipelinedproducer/Appended", fs0, [.long base, .long t])] (Lk.new rfl) rfl) (Lk.new rfl) (t27 hw) (t28 hw) (w.notFace (t30 hw)) (t30 hw) (t29 hw) (t2 hw) (t31 hw) (by decide) pd3 at_116 ⟨by decide, by decide, by decide, by decide⟩ rfl rfl rfl rfl (Nat.le_of_eq rfl) rfl ?_
    intro T v L' hQ w
    obtain ⟨rfl, hL⟩ := hQ
    replace hL := hL.symm
    subst hL
    replace w : St p l e _ s m _ below meth c Z _ _ _ _ h0 n0 T [.inl ("com/example/pipelined_producer/pipelinedproducer/Appended", fs0, [.long base, .long t])] 1 2 := w
    change Go p e below _ T (mkF m 119 #[.val (.long base), .second, .val (.long lat), .second, .val (.long cr), .second, .val (.int flag), .val (.long t), .second, .val (.ref (n0 + 0)), .val (.long cr), .second, .val (.int (0 : Int32)), .val (.int (1 : Int32)), .val (.long cr), .second] [(.long t)])
    refine s_lload (pc' := 121) w at_119 rfl rfl ?_
    refine s_lcmp (pc' := 122) w at_121 rfl ?_
    refine s_ifN (pc' := 125) w at_122 (Jvm.Free.XT.ll_ne_f rfl) rfl ?_
    refine s_iconst (pc' := 126) (1 : Int32) w at_125 (by decide) rfl ?_
    refine s_goto (pc' := 130) w at_126 (by decide) (by decide) ?_
    exact s_zreturn rfl w at_130 (by decide) (by decide) rfl
  · rw [if_neg h]
    refine s_ifN (pc' := 46) w at_43 (Jvm.Free.XT.ll_eq_f h) rfl ?_
    refine s_iconst (pc' := 47) (1 : Int32) w at_46 (by decide) rfl ?_
    refine s_goto (pc' := 51) w at_47 (by decide) (by decide) ?_
    refine s_istore (pc' := 53) (ls' := #[.val (.long base), .second, .val (.long lat), .second, .val (.long cr), .second, .val (.int flag), .val (.long t), .second, .val (.ref (n0 + 0)), .val (.long t), .second, .val (.int (1 : Int32)), .unset, .unset, .unset]) w at_51 rfl rfl ?_
    refine s_iload (pc' := 55) w at_53 rfl rfl ?_
    refine s_ifN (pc' := 58) w at_55 (Jvm.Free.XT.i0_eq_f (by decide)) rfl ?_
    refine s_lload (pc' := 60) w at_58 rfl rfl ?_
    refine s_lload (pc' := 62) w at_60 rfl rfl ?_
    refine s_lcmp (pc' := 63) w at_62 rfl ?_
    refine s_ifN (pc' := 66) w at_63 (Jvm.Free.XT.ll_ne_f rfl) rfl ?_
    refine s_iconst (pc' := 67) (1 : Int32) w at_66 (by decide) rfl ?_
    refine s_goto (pc' := 71) w at_67 (by decide) (by decide) ?_
    refine s_istore (pc' := 73) (ls' := #[.val (.long base), .second, .val (.long lat), .second, .val (.long cr), .second, .val (.int flag), .val (.long t), .second, .val (.ref (n0 + 0)), .val (.long t), .second, .val (.int (1 : Int32)), .val (.int (1 : Int32)), .unset, .unset]) w at_71 rfl rfl ?_
    refine s_goto (pc' := 91) w at_73 (by decide) (by decide) ?_
    refine s_getS (pc' := 94) (host := "") w (Or.inl (t25 hw)) Via.refl S at_91 rfl ?_
    intro T w
    refine s_lload (pc' := 96) w at_94 rfl rfl ?_
    refine s_virtual (pc' := 99) (rest := []) 0 [(.long cr)] w (c_ts hw l h0 n0 u cr (-1) _ [.inl ("com/example/pipelined_producer/pipelinedproducer/Appended", fs0, [.long base, .long t])] (Or.inr qu) rfl) (Or.inr qu) (t18 hw) (t19 hw) (w.notFace (t21 hw)) (t21 hw) (t20 hw) (t2 hw) (t22 hw) (by decide) pd2 at_96 ⟨by decide, by decide, by decide, by decide⟩ rfl rfl rfl rfl (Nat.le_of_eq rfl) rfl ?_
    intro T v L' hQ w
    obtain ⟨rfl, hL⟩ := hQ
    replace hL := hL.symm
    subst hL
    replace w : St p l e _ s m _ below meth c Z _ _ _ _ h0 n0 T [.inl ("com/example/pipelined_producer/pipelinedproducer/Appended", fs0, [.long base, .long t])] 1 2 := w
    change Go p e below _ T (mkF m 99 #[.val (.long base), .second, .val (.long lat), .second, .val (.long cr), .second, .val (.int flag), .val (.long t), .second, .val (.ref (n0 + 0)), .val (.long t), .second, .val (.int (1 : Int32)), .val (.int (1 : Int32)), .unset, .unset] [(.long (if (-1 : Int64) = -1 then cr else (-1 : Int64)))])
    rw [if_pos rfl]
    refine s_lstore (pc' := 101) (ls' := #[.val (.long base), .second, .val (.long lat), .second, .val (.long cr), .second, .val (.int flag), .val (.long t), .second, .val (.ref (n0 + 0)), .val (.long t), .second, .val (.int (1 : Int32)), .val (.int (1 : Int32)), .val (.long cr), .second]) w at_99 rfl rfl ?_
    refine s_iload (pc' := 103) w at_101 rfl rfl ?_
    refine s_ifN (pc' := 106) w at_103 (Jvm.Free.XT.i0_eq_f (by decide)) rfl ?_
    refine s_lload (pc' := 108) w at_106 rfl rfl ?_
    refine s_lload (pc' := 110) w at_108 rfl rfl ?_
    refine s_lcmp (pc' := 111) w at_110 rfl ?_
    refine s_ifN (pc' := 114) w at_111 (Jvm.Free.XT.ll_ne_f rfl) rfl ?_
    refine s_aload (pc' := 116) w at_114 rfl rfl rfl ?_
    refine s_virtual (pc' := 119) (rest := []) 0 [] w (c_lat hw l h0 n0 (n0 + 0) t _ [.inl ("com/example/pipelined_producer/pipelinedproducer/Appended", fs0, [.long base, .long t])] (Lk.new rfl) rfl) (Lk.new rfl) (t27 hw) (t28 hw) (w.notFace (t30 hw)) (t30 hw) (t29 hw) (t2 hw) (t31 hw) (by decide) pd3 at_116 ⟨by decide, by decide, by decide, by decide⟩ rfl rfl rfl rfl (Nat.le_of_eq rfl) rfl ?_
    intro T v L' hQ w
    obtain ⟨rfl, hL⟩ := hQ
    replace hL := hL.symm
    subst hL
    replace w : St p l e _ s m _ below meth c Z _ _ _ _ h0 n0 T [.inl ("com/example/pipelined_producer/pipelinedproducer/Appended", fs0, [.long base, .long t])] 1 2 := w
    change Go p e below _ T (mkF m 119 #[.val (.long base), .second, .val (.long lat), .second, .val (.long cr), .second, .val (.int flag), .val (.long t), .second, .val (.ref (n0 + 0)), .val (.long t), .second, .val (.int (1 : Int32)), .val (.int (1 : Int32)), .val (.long cr), .second] [(.long t)])
    refine s_lload (pc' := 121) w at_119 rfl rfl ?_
    refine s_lcmp (pc' := 122) w at_121 rfl ?_
    refine s_ifN (pc' := 125) w at_122 (Jvm.Free.XT.ll_ne_f rfl) rfl ?_
    refine s_iconst (pc' := 126) (1 : Int32) w at_125 (by decide) rfl ?_
    refine s_goto (pc' := 130) w at_126 (by decide) (by decide) ?_
    exact s_zreturn rfl w at_130 (by decide) (by decide) rfl
set_option maxRecDepth 65536 in
set_option maxHeartbeats 40000000 in
theorem comes_1 {Post : Tables → Env → Array Value → State → Outcome → State → Prop} (hpost : ∀ tb e args s v u, (limb_1_1.after args s (.returned v) u = true ∧ limb_1_2.after args s (.returned v) u = true ∧ True) → FrameEnd s (.returned v) u (Jvm.fieldLocs frame_1_writes args s ++ Jvm.arrayLocs frame_1_arrays args s ++ Jvm.staticLocs frame_1_statics s) 16 128 → Post tb e args s (.returned v) u) :
    ArmFor flags0 classFile x code maxLocals ret World_1 tables_1 room_1 Calls_1 rest_1 Pre_1 Post := by
  intro l hfl _ _ p e ha hc hk s m args below hf hA hF happ hP
  obtain ⟨hcalls, hrest, hpre⟩ := hP
  obtain ⟨-, -, -, hnamed, -, -, -, hat⟩ := (Spec.applies_iff hf).mp happ
  obtain ⟨hg, hn⟩ := and_e (Cond.before_iff.mp (show (Jvm.Cond.and given_1 narrow_1).before args s = true from hpre))
  obtain ⟨hct, hg⟩ := and_e hg
  obtain ⟨hv0, hg⟩ := and_e hg
  obtain ⟨hv1, hg⟩ := and_e hg
  obtain ⟨hv2, hg⟩ := and_e hg
  have hv3 := hg
  obtain ⟨w0, w1, w2, w3, rfl⟩ : ∃ w0 w1 w2 w3 : Value, args = #[w0, w1, w2, w3] := by
    have hs : args.size = 4 := by simpa [Cond.value, given_1] using hct
    obtain ⟨L⟩ := args
    match L, hs with
    | [w0, w1, w2, w3], _ => exact ⟨w0, w1, w2, w3, rfl⟩
  have hw : Tw s _ := fun d (hd : d ∈ tables_1) => atoms_spec (ws := Jvm.Cond.code x code maxLocals ret :: tables_1) hat d (List.mem_cons_of_mem _ hd)
  have hfit : Fit s := fun {y c} hc i hi => by
    obtain ⟨ha, rfl⟩ := Array.getElem?_eq_some_iff.mp hc
    have q := List.all_eq_true.mp ((Array.all_eq_true_iff_forall_mem.mp hF) _ (Array.getElem_mem ha)) i (List.mem_range.mpr hi)
    simpa [Array.getElem?_eq_getElem hi] using q
  obtain ⟨i0, ei0⟩ := isL_v hv0
  obtain rfl : w0 = (.long i0) := Option.some.inj ei0
  obtain ⟨i1, ei1⟩ := isL_v hv1
  obtain rfl : w1 = (.long i1) := Option.some.inj ei1
  obtain ⟨i2, ei2⟩ := isL_v hv2
  obtain rfl : w2 = (.long i2) := Option.some.inj ei2
  obtain ⟨i3, ei3⟩ := is_v hv3
  obtain rfl : w3 = (.int i3) := Option.some.inj ei3
  obtain ⟨hn1, hn2⟩ := and_e hn
  obtain ⟨u, eu⟩ := exa_v hn1
  have hS : Sta s s.heap "com/example/pipelined_producer/pipelinedproducer/Appended" "UNANSWERED" "Lcom/example/pipelined_producer/pipelinedproducer/Appended;" (.ref u) := Sta.start eu (Or.inr ⟨hw _ (List.mem_of_getElem? (i := 2) rfl), hw _ (List.mem_of_getElem? (i := 26) rfl)⟩)
  have hE : Exa s s.heap u "com/example/pipelined_producer/pipelinedproducer/Appended" := Exa.start eu hn1
  have hL : Fld s s.heap u "com/example/pipelined_producer/pipelinedproducer/Appended" "logAppendTime" "J" (.long (-1)) := Fld.start (by rw [← fld_at eu]; exact own_eqL hn2)
  obtain ⟨ub, hub⟩ : ∃ ub, Fld s s.heap u "com/example/pipelined_producer/pipelinedproducer/Appended" "baseOffset" "J" ub := by
    obtain ⟨cell, _, _, _, _, c1, _, _, c4, _⟩ := hL
    exact fld_laid hE ⟨cell, c1, c4⟩ (cls0 hw).1 ((cls0 hw).2.1 0 _ rfl).1
  have hU : Is s s.heap u (.inl ("com/example/pipelined_producer/pipelinedproducer/Appended", fs0, [ub, .long (-1)])) := by
    refine ⟨hE, fun i f v h1 h2 => ?_⟩
    match i, h1, h2 with
    | 0, h1, h2 => cases (Option.some.inj h1); cases (Option.some.inj h2); exact hub
    | 1, h1, h2 => cases (Option.some.inj h1); cases (Option.some.inj h2); exact hL
    | (i + 2), h1, _ => exact absurd h1 (by simp [fs0])
  obtain ⟨n, o, h1, h2, h3, _, L, rfl, ⟨Ls', rfl, N, -⟩, hq⟩ := c_law hw l s.heap s.heap.size i0 i1 i2 i3 u ub hS hU s.heap (Hp.start s s) p e ha hc hk s m _ below hf ((Spec.applies_iff_loose hf).mp happ).1 ⟨rfl, State.Warmed39.refl s, rfl⟩ trivial
  refine ⟨n, _, h1, h2, h3, hpost _ _ _ _ _ _ ⟨Cond.after_iff.mpr rfl, Cond.after_iff.mpr (eq_i res_at (Term.int_eval (1)) rfl), trivial⟩ ⟨hq.1, hq.2.1, (hq.2.2.sift fun y hy => Or.inr (N y hy)).mono (by decide) (by decide)⟩⟩
theorem main_1_1 : Claimed_1_1 := comes_1 fun _ _ _ _ _ _ h hF => ⟨h.1, hF⟩
theorem main_1_2 : Claimed_1_2 := comes_1 fun _ _ _ _ _ _ h hF => ⟨h.2.1, hF⟩
end Jvm.Pilot.@@N@@
namespace Jvm.Pilot.@@N@@
open Jvm Jvm.ClassFile Sem Op Lib Jvm.Free Jvm.Stand Jvm.Pilot.@@N@@.Jvm.D
/-! MADE BY PROGRAM (witnessworld.py) out of the Statement's table words and the real class files: 10 classes; the members and pool entries that the words name. The judged class is class 1, her method 1. -/
namespace start1
open Jvm.ClassFile
def u (s : String) : CpInfo := .utf8 (stringToUtf16 s)
/-- a pool by its gaps: so many unusable entries, then the entry; so many at the end -/
def gap : Nat → List CpInfo → List CpInfo
  | 0, r => r
  | n + 1, r => .unusable :: gap n r
def poolList (es : List (Nat × CpInfo)) (last : Nat) : List CpInfo := es.foldr (fun e r => gap e.1 (e.2 :: r)) (gap last [])
def pool (es : List (Nat × CpInfo)) (last : Nat) : Array CpInfo := ⟨poolList es last⟩
def fileOf (pool : Array CpInfo) (this : Nat) (attrs : Array Attribute := #[]) (ms : Array MethodInfo := #[]) (fl : Nat := 33) (sup : Nat := 0) (ifs : Array Nat := #[]) (fds : Array FieldInfo := #[]) : ClassFile where
  minorVersion := 0
  majorVersion := 65
  constantPool := pool
  accessFlags := fl
  thisClass := this
  superClass := sup
  interfaces := ifs
  fields := fds
  methods := ms
  attributes := attrs
def plain (name : String) (sup : Option ClassId) : Class where
  name := name
  kind := .ordinary
  loader := none
  accessFlags := 33
  super := sup
  interfaces := #[]
  cf := none
  fields := #[]
  methods := #[]
  instanceTypes := #[]
  staticTypes := #[]
  resolved := #[]
  callSites := []
  init := .initialized
  statics := none
  mirror := none

def pool0 : Array CpInfo := pool [(5, u "<init>"), (0, u "()V"), (1, .class_ 10), (1, u "java/lang/Object")] 113

def k0c0 : Code := { maxStack := 0, maxLocals := 1, code := object_method_1_code, exceptionTable := #[], attributes := #[] }
def k0m0 : Method := { name := "<init>", desc := "()V", sig := { parameters := [], returnType := none }, accessFlags := 1, code := some k0c0 }
/-- java/lang/Object -/
def k0 : Class := { plain "java/lang/Object" none with
  accessFlags := 33
  interfaces := #[]
  cf := some (fileOf pool0 8 #[] #[{ accessFlags := 1, nameIndex := 5, descriptorIndex := 6, attributes := #[] }] 33 0 #[] #[])
  fields := #[]
  methods := #[k0m0]
  instanceTypes := #[]
  staticTypes := #[]
  resolved := Array.replicate 124 none
  statics := none }

def pool1 : Array CpInfo := pool [(2, .class_ 4), (1, u "java/lang/Object"), (0, u "<init>"), (0, u "()V"), (0, .long 18446744073709551615), (1, .class_ 10), (0, u "com/example/pipelined_producer/pipelinedproducer/Appended"), (0, .methodref 9 12), (0, .nameAndType 5 13), (0, u "(JJ)V"), (0, .methodref 9 15), (0, .nameAndType 16 17), (0, u "timestampOf"), (0, u "(J)J"), (0, .fieldref 9 19), (0, .nameAndType 20 21), (0, u "UNANSWERED"), (0, u "Lcom/example/pipelined_producer/pipelinedproducer/Appended;"), (0, .methodref 9 23), (0, .nameAndType 24 25), (0, u "logAppendTime"), (0, u "()J"), (0, .class_ 27), (0, u "com/example/pipelined_producer/pipelinedproducer/AppendedTimestampOfPinLaw"), (2, u "law"), (0, u "(JJJI)Z")] 3

def k1m0 : Method := { name := "<init>", desc := "()V", sig := { parameters := [], returnType := none }, accessFlags := 1, code := none }
def k1c1 : Code := { maxStack := 6, maxLocals := 16, code := code, exceptionTable := #[], attributes := #[] }
def k1m1 : Method := { name := "law", desc := "(JJJI)Z", sig := { parameters := [.long, .long, .long, .int], returnType := some .boolean }, accessFlags := 9, code := some k1c1 }
/-- com/example/pipelined_producer/pipelinedproducer/AppendedTimestampOfPinLaw -/
def k1 : Class := { plain "com/example/pipelined_producer/pipelinedproducer/AppendedTimestampOfPinLaw" (some 0) with
  accessFlags := 49
  interfaces := #[]
  cf := some (fileOf pool1 26 #[] #[{ accessFlags := 1, nameIndex := 5, descriptorIndex := 6, attributes := #[] }, { accessFlags := 9, nameIndex := 30, descriptorIndex := 31, attributes := #[] }] 49 2 #[] #[])
  fields := #[]
  methods := #[k1m0, k1m1]
  instanceTypes := #[]
  staticTypes := #[]
  resolved := Array.replicate 35 none
  statics := none }

def pool2 : Array CpInfo := pool [(1, .methodref 2 3), (0, .class_ 4), (0, .nameAndType 5 6), (0, u "java/lang/Object"), (0, u "<init>"), (0, u "()V"), (0, .class_ 8), (0, u "java/lang/Record")] 13

def k2c0 : Code := { maxStack := 1, maxLocals := 1, code := jdk_30_method_1_code, exceptionTable := #[], attributes := #[] }
def k2m0 : Method := { name := "<init>", desc := "()V", sig := { parameters := [], returnType := none }, accessFlags := 4, code := some k2c0 }
/-- java/lang/Record -/
def k2 : Class := { plain "java/lang/Record" (some 0) with
  accessFlags := 1057
  interfaces := #[]
  cf := some (fileOf pool2 7 #[] #[{ accessFlags := 4, nameIndex := 5, descriptorIndex := 6, attributes := #[] }] 1057 2 #[] #[])
  fields := #[]
  methods := #[k2m0]
  instanceTypes := #[]
  staticTypes := #[]
  resolved := Array.replicate 22 none
  statics := none }

def pool3 : Array CpInfo := pool [(1, .methodref 2 3), (0, .class_ 4), (0, .nameAndType 5 6), (0, u "java/lang/Record"), (0, u "<init>"), (0, u "()V"), (0, .fieldref 8 9), (0, .class_ 10), (0, .nameAndType 11 12), (0, u "com/example/pipelined_producer/pipelinedproducer/Appended"), (0, u "baseOffset"), (0, u "J"), (0, .fieldref 8 14), (0, .nameAndType 15 12), (0, u "logAppendTime"), (2, .long 18446744073709551615), (15, u "(JJ)V"), (2, u "UNANSWERED"), (0, u "Lcom/example/pipelined_producer/pipelinedproducer/Appended;"), (0, u "NO_TIMESTAMP"), (7, u "timestampOf"), (0, u "(J)J"), (3, u "()J")] 22

def k3c0 : Code := { maxStack := 3, maxLocals := 5, code := prog_2_method_1_code, exceptionTable := #[], attributes := #[] }
def k3m0 : Method := { name := "<init>", desc := "(JJ)V", sig := { parameters := [.long, .long], returnType := none }, accessFlags := 0, code := some k3c0 }
def k3c1 : Code := { maxStack := 4, maxLocals := 3, code := prog_2_method_3_code, exceptionTable := #[], attributes := #[] }
def k3m1 : Method := { name := "timestampOf", desc := "(J)J", sig := { parameters := [.long], returnType := some .long }, accessFlags := 0, code := some k3c1 }
def k3c2 : Code := { maxStack := 2, maxLocals := 1, code := prog_2_method_8_code, exceptionTable := #[], attributes := #[] }
def k3m2 : Method := { name := "logAppendTime", desc := "()J", sig := { parameters := [], returnType := some .long }, accessFlags := 1, code := some k3c2 }
/-- com/example/pipelined_producer/pipelinedproducer/Appended -/
def k3 : Class := { plain "com/example/pipelined_producer/pipelinedproducer/Appended" (some 2) with
  accessFlags := 48
  interfaces := #[]
  cf := some (fileOf pool3 8 #[] #[{ accessFlags := 0, nameIndex := 5, descriptorIndex := 34, attributes := #[] }, { accessFlags := 0, nameIndex := 47, descriptorIndex := 48, attributes := #[] }, { accessFlags := 1, nameIndex := 15, descriptorIndex := 52, attributes := #[] }] 48 2 #[] #[{ accessFlags := 18, nameIndex := 11, descriptorIndex := 12, attributes := #[] }, { accessFlags := 18, nameIndex := 15, descriptorIndex := 12, attributes := #[] }, { accessFlags := 24, nameIndex := 39, descriptorIndex := 12, attributes := #[] }, { accessFlags := 24, nameIndex := 37, descriptorIndex := 38, attributes := #[] }])
  fields := #[{ name := "baseOffset", type := .long, accessFlags := 18, slot := 0, constantValue := 0 }, { name := "logAppendTime", type := .long, accessFlags := 18, slot := 1, constantValue := 0 }, { name := "NO_TIMESTAMP", type := .long, accessFlags := 24, slot := 0, constantValue := 0 }, { name := "UNANSWERED", type := (.object "com/example/pipelined_producer/pipelinedproducer/Appended"), accessFlags := 24, slot := 1, constantValue := 0 }]
  methods := #[k3m0, k3m1, k3m2]
  instanceTypes := #[.long, .long]
  staticTypes := #[.long, (.object "com/example/pipelined_producer/pipelinedproducer/Appended")]
  resolved := Array.replicate 75 none
  statics := some 0 }

def pool4 : Array CpInfo := pool [(1, u "java/lang/Cloneable"), (0, .class_ 1), (0, u "java/lang/Object"), (0, .class_ 3)] 3

/-- java/lang/Cloneable -/
def k4 : Class := { plain "java/lang/Cloneable" (some 0) with
  accessFlags := 1537
  interfaces := #[]
  cf := some (fileOf pool4 2 #[] #[] 1537 4 #[] #[])
  fields := #[]
  methods := #[]
  instanceTypes := #[]
  staticTypes := #[]
  resolved := Array.replicate 8 none
  statics := none }

def pool5 : Array CpInfo := pool [(1, u "java/io/Serializable"), (0, .class_ 1), (0, u "java/lang/Object"), (0, .class_ 3)] 3

/-- java/io/Serializable -/
def k5 : Class := { plain "java/io/Serializable" (some 0) with
  accessFlags := 1537
  interfaces := #[]
  cf := some (fileOf pool5 2 #[] #[] 1537 4 #[] #[])
  fields := #[]
  methods := #[]
  instanceTypes := #[]
  staticTypes := #[]
  resolved := Array.replicate 8 none
  statics := none }

/-- the primitive byte -/
def k6 : Class := { plain "byte" none with kind := .primitive 'B', accessFlags := 0x411 }
/-- [B -/
def k7 : Class := { plain "[B" (some 0) with kind := .array 6 .byte, interfaces := #[4, 5], accessFlags := 1041 }

/-- the primitive int -/
def k8 : Class := { plain "int" none with kind := .primitive 'I', accessFlags := 0x411 }
/-- [I -/
def k9 : Class := { plain "[I" (some 0) with kind := .array 8 .int, interfaces := #[4, 5], accessFlags := 1041 }

def heap : Heap := #[{ cls := 3, slots := #[.long 0, .ref 1], vm := .statics 3 },
  { cls := 3, slots := #[.long (-1), .long (-1)], vm := .none }]
def classes : Array Class := #[k0, k1, k2, k3, k4, k5, k6, k7, k8, k9]
def interned : List (Array UInt16 × Addr) := []
def slotsUsed : Nat := 4
def theMethod : MethodId := ⟨1, 1⟩
def args0 : Array Value := #[.long 5, .long 3, .long 7, .int 0]
def aboutOver (below : List Frame) : State where
  vm := { classes := classes, interned := interned.toArray }
  heap := heap
  slotsUsed := slotsUsed
  threads := #[{ frames := .invoking theMethod args0 :: below }]
def below0 : List Frame := [.native { method := ⟨0, 0⟩, args := #[] }]
def about1 : State := aboutOver below0
def p0 : Program := .bare "" "" ""
def e0 : Env := launch0.env 0 0 0
theorem w_frames : about1.frames = Frame.invoking theMethod args0 :: below0 := rfl
set_option maxRecDepth 65536 in
theorem w_args : argsFit about1.vm theMethod args0 = true := by decide +kernel
set_option maxRecDepth 65536 in
theorem w_heap : heapFits about1 = true := by decide +kernel
set_option maxRecDepth 65536 in
theorem w_runnable : about1.curStatus? = some .runnable := by decide +kernel
set_option maxRecDepth 65536 in
theorem w_alone : about1.alone = true := by decide +kernel
set_option maxRecDepth 65536 in
theorem w_named : about1.methodNamed? x = some theMethod := by decide +kernel
set_option maxRecDepth 65536 in
theorem w_hears : about1.hears theMethod below0 = true := by decide +kernel
set_option maxRecDepth 65536 in
theorem w_ripe : about1.ripe theMethod args0 below0 = true := by decide +kernel
theorem w_running : about1.status = .running := rfl
set_option maxRecDepth 65536 in
theorem w_room : about1.hasRoom e0.platform room_1 = true :=
  launch0.hasRoom_least _ room_1 (by decide +kernel) (by decide +kernel) (by decide +kernel) (by decide +kernel) (by decide +kernel) (by decide +kernel)
theorem allAtoms_all (ts : List Jvm.Cond) (a : Array Jvm.Value) (st : Jvm.State) : (allAtoms ts).before a st = ts.all (fun c => c.before a st) := by
  induction ts with
  | nil => rfl
  | cons c t ih =>
    show (Jvm.Cond.and c (allAtoms t)).before a st = _
    rw [Jvm.Cond.before_and, ih, List.all_cons]
def words1 : List Jvm.Cond := Jvm.Cond.code x code maxLocals ret :: tables_1
/-- a 'code' word, met by the world's own term for the bytes: nothing is compared byte by byte -/
theorem code_word {y : MethodName} {bytes : ByteArray} {mx : Nat} {rt : Option FieldType} {a : Array Value} {s : State} {m : MethodId} {meth : Method} {c : Code} (h1 : s.methodNamed? y = some m) (h2 : s.vm.method? m = some meth) (h3 : meth.code = some c) (h4 : c.code = bytes)
    (h5 : (c.maxLocals == mx && c.exceptionTable.isEmpty && decide (c.maxStack ≤ mostOperands) && decide (meth.sig.returnType = rt) && !meth.locks && decide (parseMethodDescriptor y.desc = some meth.sig)) = true) : (Jvm.Cond.code y bytes mx rt).before a s = true := by
  simp only [Bool.and_eq_true, beq_iff_eq, Bool.not_eq_true', decide_eq_true_eq] at h5
  obtain ⟨⟨⟨⟨⟨g1, g2⟩, g3⟩, g4⟩, g5⟩, g6⟩ := h5
  simp [Cond.before, Cond.holds, Cond.value, h1, h2, h3, h4, g1, g2, g3, g4, g5, g6]
def isCode : Jvm.Cond → Bool
  | .code _ _ _ _ => true
  | _ => false
theorem all_split {L : List Jvm.Cond} {P : Jvm.Cond → Bool} (h1 : L.all (fun c => isCode c || P c) = true) (h2 : ∀ c ∈ L.filter isCode, P c = true) : L.all P = true := by
  refine List.all_eq_true.mpr fun c hc => ?_
  have h := List.all_eq_true.mp h1 c hc
  rcases Bool.eq_false_or_eq_true (isCode c) with hi | hi
  · exact h2 c (List.mem_filter.mpr ⟨hc, hi⟩)
  · simpa [hi] using h
set_option maxRecDepth 65536 in
theorem w_c0 : (Jvm.Cond.code x code maxLocals ret).before args0 about1 = true := code_word (m := ⟨1, 1⟩) (meth := k1m1) (c := k1c1) (by decide +kernel) rfl rfl rfl (by decide +kernel)
set_option maxRecDepth 65536 in
theorem w_c1 : (Jvm.Cond.code ({ cls := "com/example/pipelined_producer/pipelinedproducer/Appended", name := "<init>", desc := "(JJ)V" } : Jvm.MethodName) prog_2_method_1_code (5 : Nat) (Option.none : Option Jvm.ClassFile.FieldType)).before args0 about1 = true := code_word (m := ⟨3, 0⟩) (meth := k3m0) (c := k3c0) (by decide +kernel) rfl rfl rfl (by decide +kernel)
set_option maxRecDepth 65536 in
theorem w_c2 : (Jvm.Cond.code ({ cls := "java/lang/Record", name := "<init>", desc := "()V" } : Jvm.MethodName) jdk_30_method_1_code (1 : Nat) (Option.none : Option Jvm.ClassFile.FieldType)).before args0 about1 = true := code_word (m := ⟨2, 0⟩) (meth := k2m0) (c := k2c0) (by decide +kernel) rfl rfl rfl (by decide +kernel)
set_option maxRecDepth 65536 in
theorem w_c3 : (Jvm.Cond.code ({ cls := "java/lang/Object", name := "<init>", desc := "()V" } : Jvm.MethodName) object_method_1_code (1 : Nat) (Option.none : Option Jvm.ClassFile.FieldType)).before args0 about1 = true := code_word (m := ⟨0, 0⟩) (meth := k0m0) (c := k0c0) (by decide +kernel) rfl rfl rfl (by decide +kernel)
set_option maxRecDepth 65536 in
theorem w_c4 : (Jvm.Cond.code ({ cls := "com/example/pipelined_producer/pipelinedproducer/Appended", name := "timestampOf", desc := "(J)J" } : Jvm.MethodName) prog_2_method_3_code (3 : Nat) (Option.some Jvm.ClassFile.FieldType.long)).before args0 about1 = true := code_word (m := ⟨3, 1⟩) (meth := k3m1) (c := k3c1) (by decide +kernel) rfl rfl rfl (by decide +kernel)
set_option maxRecDepth 65536 in
theorem w_c5 : (Jvm.Cond.code ({ cls := "com/example/pipelined_producer/pipelinedproducer/Appended", name := "logAppendTime", desc := "()J" } : Jvm.MethodName) prog_2_method_8_code (1 : Nat) (Option.some Jvm.ClassFile.FieldType.long)).before args0 about1 = true := code_word (m := ⟨3, 2⟩) (meth := k3m2) (c := k3c2) (by decide +kernel) rfl rfl rfl (by decide +kernel)
def codes1 : List Jvm.Cond := [Jvm.Cond.code x code maxLocals ret, Jvm.Cond.code ({ cls := "com/example/pipelined_producer/pipelinedproducer/Appended", name := "<init>", desc := "(JJ)V" } : Jvm.MethodName) prog_2_method_1_code (5 : Nat) (Option.none : Option Jvm.ClassFile.FieldType), Jvm.Cond.code ({ cls := "java/lang/Record", name := "<init>", desc := "()V" } : Jvm.MethodName) jdk_30_method_1_code (1 : Nat) (Option.none : Option Jvm.ClassFile.FieldType), Jvm.Cond.code ({ cls := "java/lang/Object", name := "<init>", desc := "()V" } : Jvm.MethodName) object_method_1_code (1 : Nat) (Option.none : Option Jvm.ClassFile.FieldType), Jvm.Cond.code ({ cls := "com/example/pipelined_producer/pipelinedproducer/Appended", name := "timestampOf", desc := "(J)J" } : Jvm.MethodName) prog_2_method_3_code (3 : Nat) (Option.some Jvm.ClassFile.FieldType.long), Jvm.Cond.code ({ cls := "com/example/pipelined_producer/pipelinedproducer/Appended", name := "logAppendTime", desc := "()J" } : Jvm.MethodName) prog_2_method_8_code (1 : Nat) (Option.some Jvm.ClassFile.FieldType.long)]
set_option maxRecDepth 65536 in
theorem codes_eq : words1.filter isCode = codes1 := rfl
theorem w_codes : ∀ c ∈ words1.filter isCode, c.before args0 about1 = true := by
  rw [codes_eq]
  intro c hc
  simp only [codes1, List.mem_cons, List.not_mem_nil, or_false] at hc
  rcases hc with rfl | rfl | rfl | rfl | rfl | rfl
  · exact w_c0
  · exact w_c1
  · exact w_c2
  · exact w_c3
  · exact w_c4
  · exact w_c5
set_option maxRecDepth 65536 in
theorem w_t1 : (words1.take 24).all (fun c => isCode c || c.before args0 about1) = true := by decide +kernel
set_option maxRecDepth 65536 in
theorem w_t2 : (words1.drop 24).all (fun c => isCode c || c.before args0 about1) = true := by decide +kernel
theorem w_tables : (allAtoms (Jvm.Cond.code x code maxLocals ret :: tables_1)).before args0 about1 = true := by
  rw [allAtoms_all]
  show words1.all (fun c => c.before args0 about1) = true
  refine all_split ?_ w_codes
  rw [← List.take_append_drop 24 words1, List.all_append, w_t1, w_t2]
  rfl
set_option maxRecDepth 65536 in
theorem w_case : (Jvm.Cond.and given_1 narrow_1).before args0 about1 = true := by decide +kernel
theorem w_applies : (headSpec (Jvm.Cond.code x code maxLocals ret :: tables_1) room_1).applies x e0.platform about1 = true :=
  (Spec.applies_iff w_frames).mpr ⟨w_running, w_runnable, w_alone, w_named, w_hears, w_ripe, w_room, w_tables⟩
theorem atStart : AtStart classFile x code maxLocals ret World_1 tables_1 room_1 Calls_1 rest_1 Pre_1 launch0 p0 e0 about1 theMethod args0 below0 :=
  ⟨lists_1, trivial, launch0.admits_env _ _ _, launch0.least_env, fairChoices_fair.cas, fairChoices_fair.clock, w_frames, w_args, w_heap, w_applies, trivial, trivial, w_case⟩
end start1
theorem witness_1 : WitnessClaimed_1 := ⟨start1.p0, start1.e0, start1.about1, start1.theMethod, start1.args0, start1.below0, start1.atStart⟩
end Jvm.Pilot.@@N@@
