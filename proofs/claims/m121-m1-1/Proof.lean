import JvmDerived
import JvmDerived.Pilot.@@N@@Statement
import JvmDerived.Pilot.@@N@@Code
set_option linter.unusedVariables false
set_option linter.unusedSimpArgs false
namespace Jvm.Pilot.@@N@@
open Jvm Jvm.ClassFile Sem Op Lib Jvm.Free Jvm.Stand Jvm.LawKit Jvm.RoadKit Bundle Jvm.Pilot.@@N@@.Jvm.D
/-! ## OWN KIT: a symbolic heap (Ob, Is, Hp), the place of a walk (St), what is still to run (Go), contracts (Con) -/
abbrev Ob := Sum (String × List (String × String × String) × List Value) (FieldType × List Value)
def Is (Z : State) (h : Heap) (a : Addr) : Ob → Prop
  | .inl (C, fs, vs) => Exa Z h a C ∧ ∀ (i : Nat) (f : String × String × String) (v : Value), fs[i]? = some f → vs[i]? = some v → Fld Z h a f.1 f.2.1 f.2.2 v
  | .inr (ty, vs) => ∃ c : Cell, Arr Z h a c ty ∧ (∀ C, ty = .object C → Ovr Z c.cls C) ∧ c.slots = vs.toArray ∧ vs.length < 2 ^ 31 ∧ ∀ v ∈ vs, fits ty v = true
def Hp (Z : State) (h0 : Heap) (n0 : Nat) (Ls : List Ob) (h : Heap) : Prop := h0.size = n0 ∧ Ext h0 h ∧ h.size = n0 + Ls.length ∧ ∀ (k : Nat) (o : Ob), Ls[k]? = some o → Is Z h (n0 + k) o
/-- the object at the address a: one of the new ones, or one of the start's -/
def Lk (Z : State) (h0 : Heap) (n0 : Nat) (Ls : List Ob) (a : Addr) (o : Ob) : Prop := (∃ k, a = n0 + k ∧ Ls[k]? = some o) ∨ Is Z h0 a o
def St (p : Program) (l : Launch) (e : Env) (R : Room) (s : State) (m : MethodId) (args : Array Value) (below : List Frame) (meth : Method) (c : Code) (Z : State) (y : MethodName) (bytes : ByteArray) (ml : Nat) (ret : Option FieldType) (h0 : Heap) (n0 : Nat) (T : State) (Ls : List Ob) (cells slots : Nat) : Prop :=
  (p.tables.exec = Jvm.exec ∧ Z.Warmed39 s.vm ∧ s.vm.findClass y.cls = some m.cls ∧ c.code = bytes ∧ c.maxLocals = ml ∧ meth.name = y.name ∧ meth.sig.returnType = ret ∧ meth.locks = false) ∧
  ∃ locs, Stand p l e R s m args below meth c T locs cells slots ∧ Fr n0 locs ∧ Hp Z h0 n0 Ls T.heap
def Go (p : Program) (e : Env) (below : List Frame) (F : State → Outcome → Prop) (T : State) (g : JFrame) : Prop := ∃ t o, Steps p.tables e below (T.setTop g) t ∧ t.status = .running ∧ Ended t below o ∧ F t o
/-- what a method's end must be: it returns v with the heap Ls', as P says -/
def Fin1 (Z : State) (h0 : Heap) (n0 : Nat) (s : State) (rm : Room) (P : Option Value → List Ob → Prop) (t : State) (o : Outcome) : Prop :=
  ∃ v L, o = .returned v ∧ (∃ Ls', P v Ls' ∧ Fr n0 L ∧ Hp Z h0 n0 Ls' t.heap) ∧ FrameEnd s o t L rm.cells rm.slots
def Met1 (l : Launch) (Z : State) (y : MethodName) (bytes : ByteArray) (ml : Nat) (ret : Option FieldType) (rm : Room) (as' : Array Value) (h0 : Heap) (n0 : Nat) (Ls : List Ob) (P : Option Value → List Ob → Prop) (ws : List Jvm.Cond) : Prop :=
  ∀ h, Hp Z h0 n0 Ls h → MetFree l y (head1 (Cond.code y bytes ml ret :: ws) rm) (fun a U => a = as' ∧ Z.Warmed39 U.vm ∧ U.heap = h) (fun _ _ _ _ _ => True) (fun _ U o U' => ∃ v L, o = .returned v ∧ (∃ Ls', P v Ls' ∧ Fr n0 L ∧ Hp Z h0 n0 Ls' U'.heap) ∧ FrameEnd U o U' L rm.cells rm.slots)
abbrev Con (l : Launch) (Z : State) (y : MethodName) (bytes : ByteArray) (ml : Nat) (ret : Option FieldType) (rm : Room) (as' : Array Value) (h0 : Heap) (n0 : Nat) (Ls : List Ob) (P : Option Value → List Ob → Prop) : Prop := Met1 l Z y bytes ml ret rm as' h0 n0 Ls P []
/-- a class as the sheet lays it: its fields fs (owner, name, descriptor) -/
def Cls (Z : State) (a0 : Array Value) (C : String) (kk : Nat) (fs : List (String × String × String)) : Prop :=
  (Cond.instantiable C kk).before a0 Z = true ∧ (∀ (i : Nat) (f : String × String × String), fs[i]? = some f → Laid Z a0 C f.1 f.2.1 f.2.2 ∧ ∃ t, parseFieldDescriptor f.2.2 = some t) ∧ ∀ (i j : Nat) (f g : String × String × String), fs[i]? = some f → fs[j]? = some g → f.2.1 = g.2.1 → i = j
section Own
variable {p : Program} {l : Launch} {e : Env} {R : Room} {s : State} {m : MethodId} {args : Array Value} {below : List Frame} {meth : Method} {c : Code} {Z : State} {a0 : Array Value} {y : MethodName} {bytes : ByteArray} {ml : Nat} {ret : Option FieldType} {h0 h h' : Heap} {n0 : Nat} {T T' : State} {Ls Ls' : List Ob} {cells slots : Nat} {F : State → Outcome → Prop} {g g' : JFrame} {pc pc' : Nat} {ls : Array Slot} {st rest : List Value} {a b : Addr} {sl : Nat} {v : Value} {o : Ob}
theorem Is.ext (E : Ext h h') (q : Is Z h a o) : Is Z h' a o := by
  rcases o with ⟨C, fs, vs⟩ | ⟨ty, vs⟩
  · exact ⟨q.1.ext E, fun i f v h1 h2 => (q.2 i f v h1 h2).ext E⟩
  · obtain ⟨c, A, r⟩ := q; exact ⟨c, A.ext E, r⟩
theorem Is.other (W : Wr h h' b sl v) (q : Is Z h a o) (ne : a ≠ b) : Is Z h' a o := by
  rcases o with ⟨C, fs, vs⟩ | ⟨ty, vs⟩
  · exact ⟨q.1.wr W, fun i f v h1 h2 => (q.2 i f v h1 h2).other W (Or.inl ne)⟩
  · obtain ⟨c, A, r⟩ := q; exact ⟨c, A.other W ne, r⟩
theorem Is.keep {ws : List Addr} (K : Keep h h' ws) (q : Is Z h a o) (ne : a ∉ ws) : Is Z h' a o := by
  rcases o with ⟨C, fs, vs⟩ | ⟨ty, vs⟩
  · exact ⟨q.1.keep K, fun i f v h1 h2 => (q.2 i f v h1 h2).keep K ne⟩
  · obtain ⟨c, A, r⟩ := q; exact ⟨c, ⟨K.2.1 a c A.1 ne, A.2⟩, r⟩
theorem ext_trans {h1 h2 h3 : Heap} (E : Ext h1 h2) (E' : Ext h2 h3) : Ext h1 h3 := ⟨Nat.le_trans E.1 E'.1, fun a c q => E'.2 a c (E.2 a c q)⟩
theorem ext_keep {ws : List Addr} (E : Ext h0 h) (K : Keep h h' ws) (q : ∀ x ∈ ws, h0.size ≤ x) : Ext h0 h' :=
  ⟨Nat.le_trans E.1 K.1, fun a c r => K.2.1 a c (E.2 a c r) fun z => absurd (Array.getElem?_eq_some_iff.mp r).1 (Nat.not_lt.mpr (q a z))⟩
theorem Hp.start (s : State) (Z : State) : Hp Z s.heap s.heap.size [] s.heap := ⟨rfl, ⟨Nat.le_refl _, fun _ _ q => q⟩, rfl, fun k o q => by simp at q⟩
theorem Hp.at {k : Nat} (H : Hp Z h0 n0 Ls h) (q : Ls[k]? = some o) : Is Z h (n0 + k) o := H.2.2.2 k o q
theorem Hp.lk (H : Hp Z h0 n0 Ls h) (q : Lk Z h0 n0 Ls a o) : Is Z h a o := by
  rcases q with ⟨k, rfl, q⟩ | q
  · exact H.at q
  · exact q.ext H.2.1
theorem Lk.new {k : Nat} (q : Ls[k]? = some o) : Lk Z h0 n0 Ls (n0 + k) o := Or.inl ⟨k, rfl, q⟩
/-- one more cell at the end -/
theorem Hp.push {cell : Cell} (H : Hp Z h0 n0 Ls h) (q : Is Z (h.push cell) (n0 + Ls.length) o) : Hp Z h0 n0 (Ls ++ [o]) (h.push cell) := by
  obtain ⟨q1, E, q2, q3⟩ := H
  have E' : Ext h (h.push cell) := ⟨by simp, fun a c r => by
    rw [Array.getElem?_push_lt (Array.getElem?_eq_some_iff.mp r).1]; exact (Array.getElem?_eq_getElem _).symm.trans r⟩
  refine ⟨q1, ext_trans E E', by simp [q2]; omega, fun k o' r => ?_⟩
  by_cases hk : k < Ls.length
  · rw [List.getElem?_append_left hk] at r; exact (q3 k o' r).ext E'
  · rw [List.getElem?_append_right (Nat.le_of_not_lt hk)] at r
    have e0 : k - Ls.length = 0 := by
      rcases Nat.eq_zero_or_pos (k - Ls.length) with z | z
      · exact z
      · rw [List.getElem?_eq_none (by simp; omega)] at r; cases r
    rw [e0] at r
    have e1 : k = Ls.length := by omega
    cases (Option.some.inj r : o = o'); rw [e1]; exact q
/-- one object written -/
theorem Hp.wr {k : Nat} {o' : Ob} (H : Hp Z h0 n0 Ls h) (hk : Ls[k]? = some o') (W : Wr h h' (n0 + k) sl v) (q : Is Z h' (n0 + k) o) : Hp Z h0 n0 (Ls.set k o) h' := by
  obtain ⟨q1, E, q2, q3⟩ := H
  have E' : Ext h0 h' := ext_keep E (Keep.of_wr W) fun x hx => by cases List.mem_singleton.mp hx; omega
  refine ⟨q1, E', by rw [W.size, q2]; simp, fun j o2 r => ?_⟩
  rw [List.getElem?_set] at r
  by_cases e : k = j
  · subst e
    have hl : k < Ls.length := (List.getElem?_eq_some_iff.mp hk).1
    simp [hl] at r; subst r; exact q
  · rw [if_neg e] at r
    exact (q3 j o2 r).other W (fun z => e (Nat.add_left_cancel z).symm)
/-- one object written over, all else kept -/
theorem Hp.keep {k : Nat} {o' : Ob} (H : Hp Z h0 n0 Ls h) (hk : Ls[k]? = some o') (K : Keep h h' [n0 + k]) (hs : h'.size = h.size) (q : Is Z h' (n0 + k) o) : Hp Z h0 n0 (Ls.set k o) h' := by
  obtain ⟨q1, E, q2, q3⟩ := H
  have E' : Ext h0 h' := ext_keep E K fun x hx => by cases List.mem_singleton.mp hx; omega
  refine ⟨q1, E', by rw [hs, q2]; simp, fun j o2 r => ?_⟩
  rw [List.getElem?_set] at r
  by_cases e : k = j
  · subst e
    have hl : k < Ls.length := (List.getElem?_eq_some_iff.mp hk).1
    simp [hl] at r; subst r; exact q
  · rw [if_neg e] at r
    exact (q3 j o2 r).keep K (fun z => e (Nat.add_left_cancel (List.mem_singleton.mp z)).symm)
theorem lk_set {k : Nat} {o' : Ob} (q : Ls[k]? = some o') : (Ls.set k o)[k]? = some o := by have := (List.getElem?_eq_some_iff.mp q).1; simp [this]
theorem lk_ne {j k : Nat} {o' : Ob} (q : Ls[j]? = some o') (ne : k ≠ j) : (Ls.set k o)[j]? = some o' := by rw [List.getElem?_set_ne ne]; exact q
theorem lk_app {j : Nat} {M : List Ob} (q : Ls[j]? = some o) : (Ls ++ M)[j]? = some o := by rw [List.getElem?_append_left (List.getElem?_eq_some_iff.mp q).1]; exact q
theorem lk_last : (Ls ++ [o])[Ls.length]? = some o := by simp
theorem set_last {o' : Ob} : (Ls ++ [o]).set Ls.length o' = Ls ++ [o'] := by simp
theorem set_app {k : Nat} {o' o2 : Ob} {M : List Ob} (q : Ls[k]? = some o2) : (Ls ++ M).set k o' = Ls.set k o' ++ M := List.set_append_left _ _ (List.getElem?_eq_some_iff.mp q).1
theorem set_suf {Pre Bs : List Ob} {N j : Nat} (hN : Pre.length = N) : (Pre ++ Bs).set (N + j) o = Pre ++ Bs.set j o := by subst hN; rw [List.set_append_right _ _ (Nat.le_add_right _ _), Nat.add_sub_cancel_left]
theorem lk_suf {Pre Bs : List Ob} {N j : Nat} (hN : Pre.length = N) (q : Bs[j]? = some o) : (Pre ++ Bs)[N + j]? = some o := by subst hN; rw [List.getElem?_append_right (Nat.le_add_right _ _), Nat.add_sub_cancel_left]; exact q
theorem ad_ne {i j : Nat} (e : i ≠ j) : n0 + i ≠ n0 + j := fun z => e (Nat.add_left_cancel z)
theorem Lk.set {k : Nat} {o' o2 : Ob} (q : Lk Z h0 n0 Ls a o) (hk : Ls[k]? = some o') (ne : a ≠ n0 + k) : Lk Z h0 n0 (Ls.set k o2) a o := by
  rcases q with ⟨j, rfl, q⟩ | q
  · exact Or.inl ⟨j, rfl, lk_ne q (fun z => ne (by rw [z]))⟩
  · exact Or.inr q
theorem Lk.app {M : List Ob} (q : Lk Z h0 n0 Ls a o) : Lk Z h0 n0 (Ls ++ M) a o := by
  rcases q with ⟨j, rfl, q⟩ | q
  · exact Or.inl ⟨j, rfl, lk_app q⟩
  · exact Or.inr q
theorem St.more {cells' slots' : Nat} (w : St p l e R s m args below meth c Z y bytes ml ret h0 n0 T Ls cells slots) (h1 : cells ≤ cells') (h2 : slots ≤ slots') : St p l e R s m args below meth c Z y bytes ml ret h0 n0 T Ls cells' slots' := by
  obtain ⟨w1, locs, X, r⟩ := w; exact ⟨w1, locs, X.more h1 h2, r⟩
theorem Go.via (k : Go p e below F T' g' → Go p e below F T g) (G : Go p e below F T' g') : Go p e below F T g := k G
theorem Go.viaAll {α : Type} {G' : α → JFrame} (k : (∀ z : α, Go p e below F T' (G' z)) → Go p e below F T g) (K : ∀ z, Go p e below F T' (G' z)) : Go p e below F T g := k K
theorem St.exec (w : St p l e R s m args below meth c Z y bytes ml ret h0 n0 T Ls cells slots) : p.tables.exec = Jvm.exec := w.1.1
theorem St.here (w : St p l e R s m args below meth c Z y bytes ml ret h0 n0 T Ls cells slots) : At T m c below := by obtain ⟨-, _, X, -⟩ := w; exact X.here
theorem St.code (w : St p l e R s m args below meth c Z y bytes ml ret h0 n0 T Ls cells slots) : c.code = bytes := w.1.2.2.2.1
theorem Go.of (k : ∀ t, Steps p.tables e below (T'.setTop g') t → Steps p.tables e below (T.setTop g) t) (G : Go p e below F T' g') : Go p e below F T g := by
  obtain ⟨t, o, q, r⟩ := G; exact ⟨t, o, k t q, r⟩
theorem Go.cast (q : g = g') (G : Go p e below F T g') : Go p e below F T g := q ▸ G
theorem Met1.of {rm : Room} {as' : Array Value} {Q : Option Value → List Ob → Prop} {ws : List Jvm.Cond} (hp : plainFor y = true) (ef : ∀ m, entryFrame m as' ml = mkF m 0 ls [])
    (body : ∀ (p : Program) (e : Env) (s : State) (m : MethodId) (below : List Frame) (meth : Method) (c : Code) (T : State), St p l e rm s m as' below meth c Z y bytes ml ret h0 n0 T Ls 0 0 → Go p e below (Fin1 Z h0 n0 s rm Q) T (mkF m 0 ls [])) :
    Met1 l Z y bytes ml ret rm as' h0 n0 Ls Q ws := by
  intro h H
  refine MetFree.of_bodySF hp hisR ?_
  intro p e s m args below meth c s₁ Bd hml hP hK
  obtain ⟨rfl, hZ, hh⟩ := hP
  have e0 : s₁.heap = h := by rw [← hh, Bd.state]; rfl
  have G := body p e s m below meth c s₁ ⟨⟨Bd.exec, hZ, findClass_of_methodNamed Bd.named, Bd.bytes, hml, (name_of_methodNamed Bd.named Bd.method).1, Bd.returns, Bd.notSynchronized⟩, [], Stand.of_body Bd, Fr.nil _, by rw [e0]; exact H⟩
  rw [← ef m] at G
  exact G

theorem s_iadd {x z : Int32} (w : St p l e R s m args below meth c Z y bytes ml ret h0 n0 T Ls cells slots) (d : decode bytes pc = .ok (.iadd, 1)) (hp : pc + 1 = pc') (G : Go p e below F T (mkF m pc' ls (.int (x + z) :: st))) : Go p e below F T (mkF m pc ls (.int z :: .int x :: st)) := by
  subst hp; exact Go.of (fun t q => XS.iadd w.here w.exec rfl (hb w.code d) rfl q) G
theorem s_isub {x z : Int32} (w : St p l e R s m args below meth c Z y bytes ml ret h0 n0 T Ls cells slots) (d : decode bytes pc = .ok (.isub, 1)) (hp : pc + 1 = pc') (G : Go p e below F T (mkF m pc' ls (.int (x - z) :: st))) : Go p e below F T (mkF m pc ls (.int z :: .int x :: st)) := by
  subst hp; exact Go.of (fun t q => XS.isub w.here w.exec rfl (hb w.code d) rfl q) G
theorem s_iand {x z : Int32} (w : St p l e R s m args below meth c Z y bytes ml ret h0 n0 T Ls cells slots) (d : decode bytes pc = .ok (.iand, 1)) (hp : pc + 1 = pc') (G : Go p e below F T (mkF m pc' ls (.int (x &&& z) :: st))) : Go p e below F T (mkF m pc ls (.int z :: .int x :: st)) := by
  subst hp; exact Go.of (fun t q => XS.iand w.here w.exec rfl (hb w.code d) rfl q) G
theorem s_imul {x z : Int32} (w : St p l e R s m args below meth c Z y bytes ml ret h0 n0 T Ls cells slots) (d : decode bytes pc = .ok (.imul, 1)) (hp : pc + 1 = pc') (G : Go p e below F T (mkF m pc' ls (.int (x * z) :: st))) : Go p e below F T (mkF m pc ls (.int z :: .int x :: st)) := by
  subst hp; exact Go.of (fun t q => XS.imul w.here w.exec rfl (hb w.code d) rfl q) G
theorem s_ixor {x z : Int32} (w : St p l e R s m args below meth c Z y bytes ml ret h0 n0 T Ls cells slots) (d : decode bytes pc = .ok (.ixor, 1)) (hp : pc + 1 = pc') (G : Go p e below F T (mkF m pc' ls (.int (x ^^^ z) :: st))) : Go p e below F T (mkF m pc ls (.int z :: .int x :: st)) := by
  subst hp; exact Go.of (fun t q => XT.ixor w.here w.exec rfl (hb w.code d) rfl q) G
theorem s_ior {x z : Int32} (w : St p l e R s m args below meth c Z y bytes ml ret h0 n0 T Ls cells slots) (d : decode bytes pc = .ok (.ior, 1)) (hp : pc + 1 = pc') (G : Go p e below F T (mkF m pc' ls (.int (x ||| z) :: st))) : Go p e below F T (mkF m pc ls (.int z :: .int x :: st)) := by
  subst hp; exact Go.of (fun t q => XT.ior w.here w.exec rfl (hb w.code d) rfl q) G
theorem s_iushr {x z : Int32} (w : St p l e R s m args below meth c Z y bytes ml ret h0 n0 T Ls cells slots) (d : decode bytes pc = .ok (.iushr, 1)) (hp : pc + 1 = pc') (G : Go p e below F T (mkF m pc' ls (.int (Jvm.Free.XT.ushr x z) :: st))) : Go p e below F T (mkF m pc ls (.int z :: .int x :: st)) := by
  subst hp; exact Go.of (fun t q => XT.iushr w.here w.exec rfl (hb w.code d) rfl q) G
theorem s_ishl {x z : Int32} (w : St p l e R s m args below meth c Z y bytes ml ret h0 n0 T Ls cells slots) (d : decode bytes pc = .ok (.ishl, 1)) (hp : pc + 1 = pc') (G : Go p e below F T (mkF m pc' ls (.int (x <<< (z &&& 31)) :: st))) : Go p e below F T (mkF m pc ls (.int z :: .int x :: st)) := by
  subst hp; exact Go.of (fun t q => XT.ishl w.here w.exec rfl (hb w.code d) rfl q) G
theorem s_ishr {x z : Int32} (w : St p l e R s m args below meth c Z y bytes ml ret h0 n0 T Ls cells slots) (d : decode bytes pc = .ok (.ishr, 1)) (hp : pc + 1 = pc') (G : Go p e below F T (mkF m pc' ls (.int (x >>> (z &&& 31)) :: st))) : Go p e below F T (mkF m pc ls (.int z :: .int x :: st)) := by
  subst hp; exact Go.of (fun t q => XT.ishr w.here w.exec rfl (hb w.code d) rfl q) G
theorem s_ineg {x : Int32} (w : St p l e R s m args below meth c Z y bytes ml ret h0 n0 T Ls cells slots) (d : decode bytes pc = .ok (.ineg, 1)) (hp : pc + 1 = pc') (G : Go p e below F T (mkF m pc' ls (.int (-x) :: st))) : Go p e below F T (mkF m pc ls (.int x :: st)) := by
  subst hp; exact Go.of (fun t q => XS.ineg w.here w.exec rfl (hb w.code d) rfl q) G
theorem s_irem {x z : Int32} (w : St p l e R s m args below meth c Z y bytes ml ret h0 n0 T Ls cells slots) (d : decode bytes pc = .ok (.irem, 1)) (hz : z ≠ 0) (hp : pc + 1 = pc') (G : Go p e below F T (mkF m pc' ls (.int (x - (x / z) * z) :: st))) : Go p e below F T (mkF m pc ls (.int z :: .int x :: st)) := by
  subst hp; exact Go.of (fun t q => XS.irem w.here w.exec rfl (hb w.code d) rfl hz q) G
theorem s_ladd {x z : Int64} (w : St p l e R s m args below meth c Z y bytes ml ret h0 n0 T Ls cells slots) (d : decode bytes pc = .ok (.ladd, 1)) (hp : pc + 1 = pc') (G : Go p e below F T (mkF m pc' ls (.long (x + z) :: st))) : Go p e below F T (mkF m pc ls (.long z :: .long x :: st)) := by
  subst hp; exact Go.of (fun t q => XT.ladd w.here w.exec rfl (hb w.code d) rfl q) G
theorem s_lsub {x z : Int64} (w : St p l e R s m args below meth c Z y bytes ml ret h0 n0 T Ls cells slots) (d : decode bytes pc = .ok (.lsub, 1)) (hp : pc + 1 = pc') (G : Go p e below F T (mkF m pc' ls (.long (x - z) :: st))) : Go p e below F T (mkF m pc ls (.long z :: .long x :: st)) := by
  subst hp; exact Go.of (fun t q => XT.lsub w.here w.exec rfl (hb w.code d) rfl q) G
theorem s_lmul {x z : Int64} (w : St p l e R s m args below meth c Z y bytes ml ret h0 n0 T Ls cells slots) (d : decode bytes pc = .ok (.lmul, 1)) (hp : pc + 1 = pc') (G : Go p e below F T (mkF m pc' ls (.long (x * z) :: st))) : Go p e below F T (mkF m pc ls (.long z :: .long x :: st)) := by
  subst hp; exact Go.of (fun t q => XT.lmul w.here w.exec rfl (hb w.code d) rfl q) G
theorem s_land {x z : Int64} (w : St p l e R s m args below meth c Z y bytes ml ret h0 n0 T Ls cells slots) (d : decode bytes pc = .ok (.land, 1)) (hp : pc + 1 = pc') (G : Go p e below F T (mkF m pc' ls (.long (x &&& z) :: st))) : Go p e below F T (mkF m pc ls (.long z :: .long x :: st)) := by
  subst hp; exact Go.of (fun t q => XT.land w.here w.exec rfl (hb w.code d) rfl q) G
theorem s_lor {x z : Int64} (w : St p l e R s m args below meth c Z y bytes ml ret h0 n0 T Ls cells slots) (d : decode bytes pc = .ok (.lor, 1)) (hp : pc + 1 = pc') (G : Go p e below F T (mkF m pc' ls (.long (x ||| z) :: st))) : Go p e below F T (mkF m pc ls (.long z :: .long x :: st)) := by
  subst hp; exact Go.of (fun t q => XT.lor w.here w.exec rfl (hb w.code d) rfl q) G
theorem s_lxor {x z : Int64} (w : St p l e R s m args below meth c Z y bytes ml ret h0 n0 T Ls cells slots) (d : decode bytes pc = .ok (.lxor, 1)) (hp : pc + 1 = pc') (G : Go p e below F T (mkF m pc' ls (.long (x ^^^ z) :: st))) : Go p e below F T (mkF m pc ls (.long z :: .long x :: st)) := by
  subst hp; exact Go.of (fun t q => XT.lxor w.here w.exec rfl (hb w.code d) rfl q) G
theorem s_lshl {x : Int64} {z : Int32} (w : St p l e R s m args below meth c Z y bytes ml ret h0 n0 T Ls cells slots) (d : decode bytes pc = .ok (.lshl, 1)) (hp : pc + 1 = pc') (G : Go p e below F T (mkF m pc' ls (.long (x <<< (z.toInt64 &&& 63)) :: st))) : Go p e below F T (mkF m pc ls (.int z :: .long x :: st)) := by
  subst hp; exact Go.of (fun t q => XT.lshl w.here w.exec rfl (hb w.code d) rfl q) G
theorem s_lshr {x : Int64} {z : Int32} (w : St p l e R s m args below meth c Z y bytes ml ret h0 n0 T Ls cells slots) (d : decode bytes pc = .ok (.lshr, 1)) (hp : pc + 1 = pc') (G : Go p e below F T (mkF m pc' ls (.long (x >>> (z.toInt64 &&& 63)) :: st))) : Go p e below F T (mkF m pc ls (.int z :: .long x :: st)) := by
  subst hp; exact Go.of (fun t q => XT.lshr w.here w.exec rfl (hb w.code d) rfl q) G
theorem s_lushr {x : Int64} {z : Int32} (w : St p l e R s m args below meth c Z y bytes ml ret h0 n0 T Ls cells slots) (d : decode bytes pc = .ok (.lushr, 1)) (hp : pc + 1 = pc') (G : Go p e below F T (mkF m pc' ls (.long (Jvm.Free.XT.ushrL x z) :: st))) : Go p e below F T (mkF m pc ls (.int z :: .long x :: st)) := by
  subst hp; exact Go.of (fun t q => XT.lushr w.here w.exec rfl (hb w.code d) rfl q) G
theorem s_ldiv {x z : Int64} (w : St p l e R s m args below meth c Z y bytes ml ret h0 n0 T Ls cells slots) (d : decode bytes pc = .ok (.ldiv, 1)) (hz : z ≠ 0) (hp : pc + 1 = pc') (G : Go p e below F T (mkF m pc' ls (.long (x / z) :: st))) : Go p e below F T (mkF m pc ls (.long z :: .long x :: st)) := by
  subst hp; exact Go.of (fun t q => XT.ldiv w.here w.exec rfl (hb w.code d) rfl hz q) G
theorem s_lrem {x z : Int64} (w : St p l e R s m args below meth c Z y bytes ml ret h0 n0 T Ls cells slots) (d : decode bytes pc = .ok (.lrem, 1)) (hz : z ≠ 0) (hp : pc + 1 = pc') (G : Go p e below F T (mkF m pc' ls (.long (x - (x / z) * z) :: st))) : Go p e below F T (mkF m pc ls (.long z :: .long x :: st)) := by
  subst hp; exact Go.of (fun t q => XT.lrem w.here w.exec rfl (hb w.code d) rfl hz q) G
theorem s_lneg {x : Int64} (w : St p l e R s m args below meth c Z y bytes ml ret h0 n0 T Ls cells slots) (d : decode bytes pc = .ok (.lneg, 1)) (hp : pc + 1 = pc') (G : Go p e below F T (mkF m pc' ls (.long (-x) :: st))) : Go p e below F T (mkF m pc ls (.long x :: st)) := by
  subst hp; exact Go.of (fun t q => XT.lneg w.here w.exec rfl (hb w.code d) rfl q) G
theorem s_i2l {x : Int32} (w : St p l e R s m args below meth c Z y bytes ml ret h0 n0 T Ls cells slots) (d : decode bytes pc = .ok (.i2l, 1)) (hp : pc + 1 = pc') (G : Go p e below F T (mkF m pc' ls (.long x.toInt64 :: st))) : Go p e below F T (mkF m pc ls (.int x :: st)) := by
  subst hp; exact Go.of (fun t q => XT.i2l w.here w.exec rfl (hb w.code d) rfl q) G
theorem s_l2i {x : Int64} (w : St p l e R s m args below meth c Z y bytes ml ret h0 n0 T Ls cells slots) (d : decode bytes pc = .ok (.l2i, 1)) (hp : pc + 1 = pc') (G : Go p e below F T (mkF m pc' ls (.int x.toInt32 :: st))) : Go p e below F T (mkF m pc ls (.long x :: st)) := by
  subst hp; exact Go.of (fun t q => XT.l2i w.here w.exec rfl (hb w.code d) rfl q) G
theorem s_lcmp {x z : Int64} (w : St p l e R s m args below meth c Z y bytes ml ret h0 n0 T Ls cells slots) (d : decode bytes pc = .ok (.lcmp, 1)) (hp : pc + 1 = pc') (G : Go p e below F T (mkF m pc' ls (.int (Jvm.Free.XT.cmpL x z) :: st))) : Go p e below F T (mkF m pc ls (.long z :: .long x :: st)) := by
  subst hp; exact Go.of (fun t q => XT.lcmp w.here w.exec rfl (hb w.code d) rfl q) G
theorem s_iloadN {k : Fin 4} {x : Int32} (w : St p l e R s m args below meth c Z y bytes ml ret h0 n0 T Ls cells slots) (d : decode bytes pc = .ok (.iload_n k, 1)) (hl : ls[k.val]? = some (.val (.int x))) (hp : pc + 1 = pc') (G : Go p e below F T (mkF m pc' ls (.int x :: st))) : Go p e below F T (mkF m pc ls st) := by
  subst hp; exact Go.of (fun t q => XS.iloadN w.here w.exec rfl (hb w.code d) hl q) G
theorem s_iload {k : Nat} {x : Int32} (w : St p l e R s m args below meth c Z y bytes ml ret h0 n0 T Ls cells slots) (d : decode bytes pc = .ok (.iload k, 2)) (hl : ls[k]? = some (.val (.int x))) (hp : pc + 2 = pc') (G : Go p e below F T (mkF m pc' ls (.int x :: st))) : Go p e below F T (mkF m pc ls st) := by
  subst hp; exact Go.of (fun t q => XS.iload w.here w.exec rfl (hb w.code d) hl q) G
theorem s_istoreN {k : Fin 4} {x : Int32} {ls' : Array Slot} (w : St p l e R s m args below meth c Z y bytes ml ret h0 n0 T Ls cells slots) (d : decode bytes pc = .ok (.istore_n k, 1)) (hl : storeLocals ls k.val (.int x) = some ls') (hp : pc + 1 = pc') (G : Go p e below F T (mkF m pc' ls' st)) : Go p e below F T (mkF m pc ls (.int x :: st)) := by
  subst hp; exact Go.of (fun t q => XS.istoreN w.here w.exec rfl (hb w.code d) rfl hl q) G
theorem s_istore {k : Nat} {x : Int32} {ls' : Array Slot} (w : St p l e R s m args below meth c Z y bytes ml ret h0 n0 T Ls cells slots) (d : decode bytes pc = .ok (.istore k, 2)) (hl : storeLocals ls k (.int x) = some ls') (hp : pc + 2 = pc') (G : Go p e below F T (mkF m pc' ls' st)) : Go p e below F T (mkF m pc ls (.int x :: st)) := by
  subst hp; exact Go.of (fun t q => XS.istore w.here w.exec rfl (hb w.code d) rfl hl q) G
theorem s_lloadN {k : Fin 4} {x : Int64} (w : St p l e R s m args below meth c Z y bytes ml ret h0 n0 T Ls cells slots) (d : decode bytes pc = .ok (.lload_n k, 1)) (hl : ls[k.val]? = some (.val (.long x))) (hp : pc + 1 = pc') (G : Go p e below F T (mkF m pc' ls (.long x :: st))) : Go p e below F T (mkF m pc ls st) := by
  subst hp; exact Go.of (fun t q => XT.lloadN w.here w.exec rfl (hb w.code d) hl q) G
theorem s_lload {k : Nat} {x : Int64} (w : St p l e R s m args below meth c Z y bytes ml ret h0 n0 T Ls cells slots) (d : decode bytes pc = .ok (.lload k, 2)) (hl : ls[k]? = some (.val (.long x))) (hp : pc + 2 = pc') (G : Go p e below F T (mkF m pc' ls (.long x :: st))) : Go p e below F T (mkF m pc ls st) := by
  subst hp; exact Go.of (fun t q => XT.lload w.here w.exec rfl (hb w.code d) hl q) G
theorem s_lstoreN {k : Fin 4} {x : Int64} {ls' : Array Slot} (w : St p l e R s m args below meth c Z y bytes ml ret h0 n0 T Ls cells slots) (d : decode bytes pc = .ok (.lstore_n k, 1)) (hl : storeLocals ls k.val (.long x) = some ls') (hp : pc + 1 = pc') (G : Go p e below F T (mkF m pc' ls' st)) : Go p e below F T (mkF m pc ls (.long x :: st)) := by
  subst hp; exact Go.of (fun t q => XT.lstoreN w.here w.exec rfl (hb w.code d) rfl hl q) G
theorem s_lstore {k : Nat} {x : Int64} {ls' : Array Slot} (w : St p l e R s m args below meth c Z y bytes ml ret h0 n0 T Ls cells slots) (d : decode bytes pc = .ok (.lstore k, 2)) (hl : storeLocals ls k (.long x) = some ls') (hp : pc + 2 = pc') (G : Go p e below F T (mkF m pc' ls' st)) : Go p e below F T (mkF m pc ls (.long x :: st)) := by
  subst hp; exact Go.of (fun t q => XT.lstore w.here w.exec rfl (hb w.code d) rfl hl q) G
theorem s_aloadN {k : Fin 4} (w : St p l e R s m args below meth c Z y bytes ml ret h0 n0 T Ls cells slots) (d : decode bytes pc = .ok (.aload_n k, 1)) (hl : ls[k.val]? = some (.val v)) (hv : v.isRef = true) (hp : pc + 1 = pc') (G : Go p e below F T (mkF m pc' ls (v :: st))) : Go p e below F T (mkF m pc ls st) := by
  subst hp; exact Go.of (fun t q => XS.aloadN w.here w.exec rfl (hb w.code d) hl hv q) G
theorem s_aload {k : Nat} (w : St p l e R s m args below meth c Z y bytes ml ret h0 n0 T Ls cells slots) (d : decode bytes pc = .ok (.aload k, 2)) (hl : ls[k]? = some (.val v)) (hv : v.isRef = true) (hp : pc + 2 = pc') (G : Go p e below F T (mkF m pc' ls (v :: st))) : Go p e below F T (mkF m pc ls st) := by
  subst hp; exact Go.of (fun t q => XS.aload w.here w.exec rfl (hb w.code d) hl hv q) G
theorem s_astoreN {k : Fin 4} {ls' : Array Slot} (w : St p l e R s m args below meth c Z y bytes ml ret h0 n0 T Ls cells slots) (d : decode bytes pc = .ok (.astore_n k, 1)) (hv : v.isRef = true) (hl : storeLocals ls k.val v = some ls') (hp : pc + 1 = pc') (G : Go p e below F T (mkF m pc' ls' st)) : Go p e below F T (mkF m pc ls (v :: st)) := by
  subst hp; exact Go.of (fun t q => XS.astoreN w.here w.exec rfl (hb w.code d) rfl hv hl q) G
theorem s_astore {k : Nat} {ls' : Array Slot} (w : St p l e R s m args below meth c Z y bytes ml ret h0 n0 T Ls cells slots) (d : decode bytes pc = .ok (.astore k, 2)) (hv : v.isRef = true) (hl : storeLocals ls k v = some ls') (hp : pc + 2 = pc') (G : Go p e below F T (mkF m pc' ls' st)) : Go p e below F T (mkF m pc ls (v :: st)) := by
  subst hp; exact Go.of (fun t q => XS.astore w.here w.exec rfl (hb w.code d) rfl hv hl q) G
theorem s_iconst {i : Int} (x : Int32) (w : St p l e R s m args below meth c Z y bytes ml ret h0 n0 T Ls cells slots) (d : decode bytes pc = .ok (.iconst i, 1)) (hv : Int32.ofInt i = x) (hp : pc + 1 = pc') (G : Go p e below F T (mkF m pc' ls (.int x :: st))) : Go p e below F T (mkF m pc ls st) := by
  subst hp; exact Go.of (fun t q => XT.iconstV w.here w.exec rfl x (hb w.code d) hv q) G
theorem s_bipush {i : Int} (x : Int32) (w : St p l e R s m args below meth c Z y bytes ml ret h0 n0 T Ls cells slots) (d : decode bytes pc = .ok (.bipush i, 2)) (hv : (Int8.ofInt i).toInt32 = x) (hp : pc + 2 = pc') (G : Go p e below F T (mkF m pc' ls (.int x :: st))) : Go p e below F T (mkF m pc ls st) := by
  subst hp; exact Go.of (fun t q => XT.bipushV w.here w.exec rfl x (hb w.code d) hv q) G
theorem s_sipush {i : Int} (x : Int32) (w : St p l e R s m args below meth c Z y bytes ml ret h0 n0 T Ls cells slots) (d : decode bytes pc = .ok (.sipush i, 3)) (hv : (Int16.ofInt i).toInt32 = x) (hp : pc + 3 = pc') (G : Go p e below F T (mkF m pc' ls (.int x :: st))) : Go p e below F T (mkF m pc ls st) := by
  subst hp; exact Go.of (fun t q => XT.sipushV w.here w.exec rfl x (hb w.code d) hv q) G
theorem s_lconst {i : Fin 2} (x : Int64) (w : St p l e R s m args below meth c Z y bytes ml ret h0 n0 T Ls cells slots) (d : decode bytes pc = .ok (.lconst i, 1)) (hv : Int64.ofNat i = x) (hp : pc + 1 = pc') (G : Go p e below F T (mkF m pc' ls (.long x :: st))) : Go p e below F T (mkF m pc ls st) := by
  subst hp; exact Go.of (fun t q => XT.lconstV w.here w.exec rfl x (hb w.code d) hv q) G
theorem s_iinc {k : Nat} {i : Int} {x : Int32} {ls' : Array Slot} (z : Int32) (w : St p l e R s m args below meth c Z y bytes ml ret h0 n0 T Ls cells slots) (d : decode bytes pc = .ok (.iinc k i, 3)) (hv : Int32.ofInt i = z) (hl : ls[k]? = some (.val (.int x))) (hl' : storeLocals ls k (.int (x + z)) = some ls') (hp : pc + 3 = pc') (G : Go p e below F T (mkF m pc' ls' st)) : Go p e below F T (mkF m pc ls st) := by
  subst hp; exact Go.of (fun t q => XT.iincV w.here w.exec rfl z (hb w.code d) hv hl hl' q) G
theorem s_aconst_null  (w : St p l e R s m args below meth c Z y bytes ml ret h0 n0 T Ls cells slots) (d : decode bytes pc = .ok (.aconst_null, 1)) (hp : pc + 1 = pc') (G : Go p e below F T (mkF m pc' ls (.null :: st))) : Go p e below F T (mkF m pc ls st) := by
  subst hp; exact Go.of (fun t q => XS.aconstNull w.here w.exec rfl (hb w.code d)  q) G
theorem s_dup  (w : St p l e R s m args below meth c Z y bytes ml ret h0 n0 T Ls cells slots) (d : decode bytes pc = .ok (.dup, 1)) (hc : v.category = 1) (hp : pc + 1 = pc') (G : Go p e below F T (mkF m pc' ls (v :: v :: st))) : Go p e below F T (mkF m pc ls (v :: st)) := by
  subst hp; exact Go.of (fun t q => XS.dup w.here w.exec rfl (hb w.code d) rfl hc q) G
theorem s_pop  (w : St p l e R s m args below meth c Z y bytes ml ret h0 n0 T Ls cells slots) (d : decode bytes pc = .ok (.pop, 1)) (hc : v.category = 1) (hp : pc + 1 = pc') (G : Go p e below F T (mkF m pc' ls st)) : Go p e below F T (mkF m pc ls (v :: st)) := by
  subst hp; exact Go.of (fun t q => XT.pop w.here w.exec rfl (hb w.code d) rfl hc q) G
theorem s_dup_x1 {v' : Value} (w : St p l e R s m args below meth c Z y bytes ml ret h0 n0 T Ls cells slots) (d : decode bytes pc = .ok (.dup_x1, 1)) (hc : v.category = 1) (hc' : v'.category = 1) (hp : pc + 1 = pc') (G : Go p e below F T (mkF m pc' ls (v :: v' :: v :: st))) : Go p e below F T (mkF m pc ls (v :: v' :: st)) := by
  subst hp; exact Go.of (fun t q => XT.dupX1 w.here w.exec rfl (hb w.code d) rfl hc hc' q) G
theorem s_dup2 {v' : Value} (w : St p l e R s m args below meth c Z y bytes ml ret h0 n0 T Ls cells slots) (d : decode bytes pc = .ok (.dup2, 1)) (hc : v.category = 1) (hc' : v'.category = 1) (hp : pc + 1 = pc') (G : Go p e below F T (mkF m pc' ls (v :: v' :: v :: v' :: st))) : Go p e below F T (mkF m pc ls (v :: v' :: st)) := by
  subst hp; exact Go.of (fun t q => XT.dup2 w.here w.exec rfl (hb w.code d) rfl hc hc' q) G
theorem s_dup2_x1L {x : Int64} (w : St p l e R s m args below meth c Z y bytes ml ret h0 n0 T Ls cells slots) (d : decode bytes pc = .ok (.dup2_x1, 1)) (hc : v.category = 1) (hp : pc + 1 = pc') (G : Go p e below F T (mkF m pc' ls (.long x :: v :: .long x :: st))) : Go p e below F T (mkF m pc ls (.long x :: v :: st)) := by
  subst hp
  obtain ⟨t, o, q, r⟩ := G
  refine ⟨t, o, ?_, r⟩
  have hd := hb w.code d
  have H := w.here
  have hx := w.exec
  jvm_step H [H.top, hx, hd, Value.category]
  exact ⟨hc, q⟩
theorem s_dup2L {x : Int64} (w : St p l e R s m args below meth c Z y bytes ml ret h0 n0 T Ls cells slots) (d : decode bytes pc = .ok (.dup2, 1)) (hp : pc + 1 = pc') (G : Go p e below F T (mkF m pc' ls (.long x :: .long x :: st))) : Go p e below F T (mkF m pc ls (.long x :: st)) := by
  subst hp; exact Go.of (fun t q => XT.dup2L w.here w.exec rfl (hb w.code d) rfl q) G
theorem s_goto {o : Int} (w : St p l e R s m args below meth c Z y bytes ml ret h0 n0 T Ls cells slots) (d : decode bytes pc = .ok (.goto o, 3)) (h1 : 0 ≤ (pc : Int) + o) (h2 : ((pc : Int) + o).toNat = pc') (G : Go p e below F T (mkF m pc' ls st)) : Go p e below F T (mkF m pc ls st) :=
  Go.of (fun t q => XS.goto w.here w.exec rfl rfl (hb w.code d) h1 h2 q) G
theorem s_ifY {cd : ClassFile.Cond} {o : Int} {x : Int32} (w : St p l e R s m args below meth c Z y bytes ml ret h0 n0 T Ls cells slots) (d : decode bytes pc = .ok (.ifCond cd o, 3)) (hc : ifCond.holds cd x = true) (h1 : 0 ≤ (pc : Int) + o) (h2 : ((pc : Int) + o).toNat = pc') (G : Go p e below F T (mkF m pc' ls st)) : Go p e below F T (mkF m pc ls (.int x :: st)) :=
  Go.of (fun t q => XS.ifYes w.here w.exec rfl rfl (hb w.code d) rfl hc h1 h2 q) G
theorem s_ifN {cd : ClassFile.Cond} {o : Int} {x : Int32} (w : St p l e R s m args below meth c Z y bytes ml ret h0 n0 T Ls cells slots) (d : decode bytes pc = .ok (.ifCond cd o, 3)) (hc : ifCond.holds cd x = false) (hp : pc + 3 = pc') (G : Go p e below F T (mkF m pc' ls st)) : Go p e below F T (mkF m pc ls (.int x :: st)) := by
  subst hp; exact Go.of (fun t q => XS.ifNo w.here w.exec rfl (hb w.code d) rfl hc q) G
theorem s_icmpY {cd : ClassFile.Cond} {o : Int} {x z : Int32} (w : St p l e R s m args below meth c Z y bytes ml ret h0 n0 T Ls cells slots) (d : decode bytes pc = .ok (.if_icmp cd o, 3)) (hc : if_icmp.holds cd x z = true) (h1 : 0 ≤ (pc : Int) + o) (h2 : ((pc : Int) + o).toNat = pc') (G : Go p e below F T (mkF m pc' ls st)) : Go p e below F T (mkF m pc ls (.int z :: .int x :: st)) :=
  Go.of (fun t q => XS.icmpYes w.here w.exec rfl rfl (hb w.code d) rfl hc h1 h2 q) G
theorem s_icmpN {cd : ClassFile.Cond} {o : Int} {x z : Int32} (w : St p l e R s m args below meth c Z y bytes ml ret h0 n0 T Ls cells slots) (d : decode bytes pc = .ok (.if_icmp cd o, 3)) (hc : if_icmp.holds cd x z = false) (hp : pc + 3 = pc') (G : Go p e below F T (mkF m pc' ls st)) : Go p e below F T (mkF m pc ls (.int z :: .int x :: st)) := by
  subst hp; exact Go.of (fun t q => XS.icmpNo w.here w.exec rfl (hb w.code d) rfl hc q) G
theorem s_acmpY {cd : ClassFile.ACond} {o : Int} {v' : Value} (w : St p l e R s m args below meth c Z y bytes ml ret h0 n0 T Ls cells slots) (d : decode bytes pc = .ok (.if_acmp cd o, 3)) (r1 : v.isRef = true) (r2 : v'.isRef = true) (hc : Jvm.Free.XT.acmp cd v v' = true) (h1 : 0 ≤ (pc : Int) + o) (h2 : ((pc : Int) + o).toNat = pc') (G : Go p e below F T (mkF m pc' ls st)) : Go p e below F T (mkF m pc ls (v' :: v :: st)) :=
  Go.of (fun t q => XT.acmpYes w.here w.exec rfl rfl (hb w.code d) rfl r1 r2 hc h1 h2 q) G
theorem s_acmpN {cd : ClassFile.ACond} {o : Int} {v' : Value} (w : St p l e R s m args below meth c Z y bytes ml ret h0 n0 T Ls cells slots) (d : decode bytes pc = .ok (.if_acmp cd o, 3)) (r1 : v.isRef = true) (r2 : v'.isRef = true) (hc : Jvm.Free.XT.acmp cd v v' = false) (hp : pc + 3 = pc') (G : Go p e below F T (mkF m pc' ls st)) : Go p e below F T (mkF m pc ls (v' :: v :: st)) := by
  subst hp; exact Go.of (fun t q => XT.acmpNo w.here w.exec rfl (hb w.code d) rfl r1 r2 hc q) G
theorem s_ifnonnullY {o : Int} (w : St p l e R s m args below meth c Z y bytes ml ret h0 n0 T Ls cells slots) (d : decode bytes pc = .ok (.ifnonnull o, 3)) (h1 : 0 ≤ (pc : Int) + o) (h2 : ((pc : Int) + o).toNat = pc') (G : Go p e below F T (mkF m pc' ls st)) : Go p e below F T (mkF m pc ls (.ref a :: st)) :=
  Go.of (fun t q => XT.ifnonnullYes w.here w.exec rfl rfl (hb w.code d) rfl h1 h2 q) G
theorem s_ldc {i : Nat} {x : Int32} (w : St p l e R s m args below meth c Z y bytes ml ret h0 n0 T Ls cells slots) (k : (Cond.constant y.cls i x).before a0 Z = true) (d : decode bytes pc = .ok (.ldc i, 2)) (hp : pc + 2 = pc') (G : Go p e below F T (mkF m pc' ls (.int x :: st))) : Go p e below F T (mkF m pc ls st) := by
  subst hp; obtain ⟨⟨hx, hZ, hown, hby, -⟩, _, X, -⟩ := w; exact Go.of (X.ldcInt hx hown (mvT hZ k) rfl (hb hby d)) G
theorem s_ldcw {i : Nat} {x : Int32} (w : St p l e R s m args below meth c Z y bytes ml ret h0 n0 T Ls cells slots) (k : (Cond.constant y.cls i x).before a0 Z = true) (d : decode bytes pc = .ok (.ldc_w i, 3)) (hp : pc + 3 = pc') (G : Go p e below F T (mkF m pc' ls (.int x :: st))) : Go p e below F T (mkF m pc ls st) := by
  subst hp; obtain ⟨⟨hx, hZ, hown, hby, -⟩, _, X, -⟩ := w; exact Go.of (X.ldcWInt hx hown (mvT hZ k) rfl (hb hby d)) G
theorem s_ldc2 {i : Nat} {x : Int64} (w : St p l e R s m args below meth c Z y bytes ml ret h0 n0 T Ls cells slots) (k : (Cond.constantLong y.cls i x).before a0 Z = true) (d : decode bytes pc = .ok (.ldc2_w i, 3)) (hp : pc + 3 = pc') (G : Go p e below F T (mkF m pc' ls (.long x :: st))) : Go p e below F T (mkF m pc ls st) := by
  subst hp; obtain ⟨⟨hx, hZ, hown, hby, -⟩, _, X, -⟩ := w; exact Go.of (X.ldc2Long hx hown (mvT hZ k) rfl (hb hby d)) G
theorem s_ireturn {rm : Room} {Q : Option Value → List Ob → Prop} {z : Int32} (w : St p l e rm s m args below meth c Z y bytes ml (some .int) h0 n0 T Ls cells slots) (d : decode bytes pc = .ok (.ireturn, 1)) (hc : cells ≤ rm.cells) (hn : slots ≤ rm.slots) (q : Q (some (.int z)) Ls) : Go p e below (Fin1 Z h0 n0 s rm Q) T (mkF m pc ls (.int z :: rest)) := by
  obtain ⟨⟨hx, hZ, hown, hby, hml, hnm, hret, hlk⟩, locs, X, N, H⟩ := w
  obtain ⟨fs, hr, hrun, hended, hW, hsame⟩ := X.leave (v := (some (.int z))) (fun h => by rw [hret] at h; cases h) hlk
  refine ⟨_, _, ?_, hrun, hended, _, locs, rfl, ⟨Ls, q, N, H⟩, ⟨_, rfl⟩, hW, hsame.mono hc hn⟩
  exact retOut X hx hret rfl (Or.inl ⟨rfl, Or.inl rfl, z, rfl⟩) (hb hby d) hr
theorem s_zreturn {rm : Room} {Q : Option Value → List Ob → Prop} {z : Int32} (hz : narrow .boolean (.int z) = .int z) (w : St p l e rm s m args below meth c Z y bytes ml (some .boolean) h0 n0 T Ls cells slots) (d : decode bytes pc = .ok (.ireturn, 1)) (hc : cells ≤ rm.cells) (hn : slots ≤ rm.slots) (q : Q (some (.int z)) Ls) : Go p e below (Fin1 Z h0 n0 s rm Q) T (mkF m pc ls (.int z :: rest)) := by
  obtain ⟨⟨hx, hZ, hown, hby, hml, hnm, hret, hlk⟩, locs, X, N, H⟩ := w
  obtain ⟨fs, hr, hrun, hended, hW, hsame⟩ := X.leave (v := (some (.int z))) (fun h => by rw [hret] at h; cases h) hlk
  refine ⟨_, _, ?_, hrun, hended, _, locs, rfl, ⟨Ls, q, N, H⟩, ⟨_, rfl⟩, hW, hsame.mono hc hn⟩
  exact retOut X hx hret hz (Or.inl ⟨rfl, Or.inr (Or.inl rfl), z, rfl⟩) (hb hby d) hr
theorem s_lreturn {rm : Room} {Q : Option Value → List Ob → Prop} {z : Int64} (w : St p l e rm s m args below meth c Z y bytes ml (some .long) h0 n0 T Ls cells slots) (d : decode bytes pc = .ok (.lreturn, 1)) (hc : cells ≤ rm.cells) (hn : slots ≤ rm.slots) (q : Q (some (.long z)) Ls) : Go p e below (Fin1 Z h0 n0 s rm Q) T (mkF m pc ls (.long z :: rest)) := by
  obtain ⟨⟨hx, hZ, hown, hby, hml, hnm, hret, hlk⟩, locs, X, N, H⟩ := w
  obtain ⟨fs, hr, hrun, hended, hW, hsame⟩ := X.leave (v := (some (.long z))) (fun h => by rw [hret] at h; cases h) hlk
  refine ⟨_, _, ?_, hrun, hended, _, locs, rfl, ⟨Ls, q, N, H⟩, ⟨_, rfl⟩, hW, hsame.mono hc hn⟩
  exact retOut X hx hret rfl (Or.inr (Or.inl ⟨rfl, rfl, z, rfl⟩)) (hb hby d) hr
theorem s_areturn {rm : Room} {Q : Option Value → List Ob → Prop} {t : FieldType} (w : St p l e rm s m args below meth c Z y bytes ml (some t) h0 n0 T Ls cells slots) (d : decode bytes pc = .ok (.areturn, 1)) (ht : t.isReference = true) (hv : v.isRef = true) (hc : cells ≤ rm.cells) (hn : slots ≤ rm.slots) (q : Q (some v) Ls) : Go p e below (Fin1 Z h0 n0 s rm Q) T (mkF m pc ls (v :: rest)) := by
  obtain ⟨⟨hx, hZ, hown, hby, hml, hnm, hret, hlk⟩, locs, X, N, H⟩ := w
  obtain ⟨fs, hr, hrun, hended, hW, hsame⟩ := X.leave (v := some v) (fun h => by rw [hret] at h; cases h) hlk
  refine ⟨_, _, ?_, hrun, hended, _, locs, rfl, ⟨Ls, q, N, H⟩, ⟨_, rfl⟩, hW, hsame.mono hc hn⟩
  have hn' : narrow t v = v := by rcases ref_cases hv with rfl | ⟨a, rfl⟩ <;> cases t <;> first | rfl | (cases ht; done)
  exact retOut X hx hret hn' (Or.inr (Or.inr (Or.inr (Or.inr ⟨rfl, ht, hv⟩)))) (hb hby d) hr
theorem s_return {rm : Room} {Q : Option Value → List Ob → Prop}  (w : St p l e rm s m args below meth c Z y bytes ml none h0 n0 T Ls cells slots) (d : decode bytes pc = .ok (.return_, 1)) (hc : cells ≤ rm.cells) (hn : slots ≤ rm.slots) (q : Q none Ls) : Go p e below (Fin1 Z h0 n0 s rm Q) T (mkF m pc ls []) := by
  obtain ⟨⟨hx, hZ, hown, hby, hml, hnm, hret, hlk⟩, locs, X, N, H⟩ := w
  obtain ⟨fs, hr, hrun, hended, hW, hsame⟩ := X.leave (v := none) (fun _ => rfl) hlk
  refine ⟨_, _, ?_, hrun, hended, _, locs, rfl, ⟨Ls, q, N, H⟩, ⟨_, rfl⟩, hW, hsame.mono hc hn⟩
  exact X.returnOut hx hret (hb hby d) hr

/-! ### fields -/
theorem s_getL {i j : Nat} {R0 O f d host C : String} {fs : List (String × String × String)} {vs : List Value} (w : St p l e R s m args below meth c Z y bytes ml ret h0 n0 T Ls cells slots) (k : (Cond.fieldLink y.cls i R0 f d).before a0 Z = true ∨ (Cond.fieldLinkNest y.cls i R0 f d host).before a0 Z = true) (via : Via Z R0 O f d) (q : Lk Z h0 n0 Ls a (.inl (C, fs, vs))) (hf : fs[j]? = some (O, f, d)) (hv : vs[j]? = some v) (hd : decode bytes pc = .ok (.getfield i, 3)) (hp : pc + 3 = pc')
    (G : ∀ T', St p l e R s m args below meth c Z y bytes ml ret h0 n0 T' Ls cells slots → Go p e below F T' (mkF m pc' ls (v :: st))) : Go p e below F T (mkF m pc ls (.ref a :: st)) := by
  subst hp
  obtain ⟨w1, locs, X, N, H⟩ := w
  have w1' := w1
  obtain ⟨hx, hZ, hown, hby, -⟩ := w1
  obtain ⟨T', X', e', st'⟩ := getF X hx hZ hown k via rfl ((H.lk q).2 j _ v hf hv) (g := mkF m pc ls (.ref a :: st)) rfl rfl (hb hby hd)
  exact Go.of st' (G T' ⟨w1', locs, X', N, by rw [e']; exact H⟩)
theorem s_put {i j k kk : Nat} {R0 O f d host C : String} {ty : FieldType} {fs : List (String × String × String)} {vs : List Value} (w : St p l e R s m args below meth c Z y bytes ml ret h0 n0 T Ls cells slots) (kl : (Cond.fieldLink y.cls i R0 f d).before a0 Z = true ∨ (Cond.fieldLinkNest y.cls i R0 f d host).before a0 Z = true) (via : Via Z R0 O f d) (cl : Cls Z a0 C kk fs) (q : Ls[k]? = some (.inl (C, fs, vs))) (hf : fs[j]? = some (O, f, d)) (hj : j < vs.length)
    (la : (Cond.lays C O f d).before a0 Z = true ∨ ((Cond.laysFinal C O f d).before a0 Z = true ∧ y.cls = O ∧ y.name = "<init>")) (hty : parseFieldDescriptor d = some ty) (hna : narrow ty v = v) (hfi : fits ty v = true) (hd : decode bytes pc = .ok (.putfield i, 3)) (hp : pc + 3 = pc')
    (G : ∀ T', St p l e R s m args below meth c Z y bytes ml ret h0 n0 T' (Ls.set k (.inl (C, fs, vs.set j v))) cells slots → Go p e below F T' (mkF m pc' ls st)) : Go p e below F T (mkF m pc ls (v :: .ref (n0 + k) :: st)) := by
  subst hp
  obtain ⟨w1, locs, X, N, H⟩ := w
  have w1' := w1
  obtain ⟨hx, hZ, hown, hby, -, hnm, -⟩ := w1
  have I := H.at q
  obtain ⟨v0, hv0⟩ : ∃ v0, vs[j]? = some v0 := ⟨_, List.getElem?_eq_getElem hj⟩
  have la' : (Cond.lays C O f d).before a0 Z = true ∨ ((Cond.laysFinal C O f d).before a0 Z = true ∧ y.cls = O ∧ meth.name = "<init>") := la.imp id fun r => ⟨r.1, r.2.1, hnm.trans r.2.2⟩
  obtain ⟨T', h', X', e', W', st'⟩ := putF X hx hZ hown kl via rfl (I.2 j _ v0 hf hv0) I.1 la' cl.1 hty hna hfi (g := mkF m pc ls (v :: .ref (n0 + k) :: st)) rfl rfl (hb hby hd)
  refine Go.of st' (G T' ⟨w1', _, X', Fr.snoc X' N (Nat.le_add_right _ _), ?_⟩)
  rw [e']
  refine H.wr q W' ⟨I.1.wr W', fun i' f' v' h1 h2 => ?_⟩
  rw [List.getElem?_set] at h2
  by_cases e : j = i'
  · subst e
    cases hf.symm.trans h1
    simp [hj] at h2; subst h2
    exact (I.2 j _ v0 hf hv0).same W'
  · rw [if_neg e] at h2
    have hne : f'.2.1 ≠ f := fun q => e (cl.2.2 j i' _ _ hf h1 q.symm)
    obtain ⟨L1, t1, p1⟩ := cl.2.1 j _ hf
    obtain ⟨L2, t2, p2⟩ := cl.2.1 i' _ h1
    exact (I.2 i' _ v' h1 h2).other W' (Or.inr (slot_ne L2 L1 hne p2 p1))
theorem s_getS {i : Nat} {R0 O f d host : String} (w : St p l e R s m args below meth c Z y bytes ml ret h0 n0 T Ls cells slots) (k : (Cond.fieldLink y.cls i R0 f d).before a0 Z = true ∨ (Cond.fieldLinkNest y.cls i R0 f d host).before a0 Z = true) (via : Via Z R0 O f d) (q : Sta Z h0 O f d v) (hd : decode bytes pc = .ok (.getstatic i, 3)) (hp : pc + 3 = pc')
    (G : ∀ T', St p l e R s m args below meth c Z y bytes ml ret h0 n0 T' Ls cells slots → Go p e below F T' (mkF m pc' ls (v :: st))) : Go p e below F T (mkF m pc ls st) := by
  subst hp
  obtain ⟨w1, locs, X, N, H⟩ := w
  have w1' := w1
  obtain ⟨hx, hZ, hown, hby, -⟩ := w1
  obtain ⟨T', X', e', st'⟩ := getS2 X hx hZ hown k via rfl (q.ext H.2.1) (g := mkF m pc ls st) rfl (hb hby hd)
  exact Go.of st' (G T' ⟨w1', locs, X', N, by rw [e']; exact H⟩)
/-! ### making -/
theorem s_new {i kk : Nat} {C : String} {fs : List (String × String × String)} (vs : List Value) (w : St p l e R s m args below meth c Z y bytes ml ret h0 n0 T Ls cells slots) (k1 : (Cond.classLink y.cls i C).before a0 Z = true) (k2 : (Cond.initialized C).before a0 Z = true) (cl : Cls Z a0 C kk fs) (hd : decode bytes pc = .ok (.new i, 3)) (hvs : ∀ (j : Nat) f v, fs[j]? = some f → vs[j]? = some v → ∃ t, parseFieldDescriptor f.2.2 = some t ∧ v = defaultValue t)
    (hc : cells + 1 ≤ R.cells) (hl : slots + kk ≤ R.slots) (N : Nat) (hN0 : Ls.length = N) (hp : pc + 3 = pc')
    (G : ∀ T', St p l e R s m args below meth c Z y bytes ml ret h0 n0 T' (Ls ++ [.inl (C, fs, vs)]) (cells + 1) (slots + kk) → Go p e below F T' (mkF m pc' ls (.ref (n0 + N) :: st))) : Go p e below F T (mkF m pc ls st) := by
  subst hp; subst hN0
  obtain ⟨w1, locs, X, N, H⟩ := w
  have w1' := w1
  obtain ⟨hx, hZ, hown, hby, -⟩ := w1
  obtain ⟨vm', cC, kC, q1, q2, q3, q4, X', st'⟩ := X.newCold hx hown (mv hZ k1) (mv hZ cl.1) (mv hZ k2) (g := mkF m pc ls st) rfl (hb hby hd) hc hl
  rw [show T.heap.size = n0 + Ls.length from H.2.2.1] at st'
  refine Go.of st' (G _ ⟨w1', locs, X', N, ?_⟩)
  rw [hZ.alike.findClass] at q1
  obtain ⟨kZ, z1, -⟩ := Vm.findClass_spec q1
  obtain ⟨k', z2, z3⟩ := hZ.alike.2.2 _ _ z1
  cases q2.symm.trans z2
  have ei : kC.instanceTypes = kZ.instanceTypes := by rw [z3]
  have hN : (T.heap.push ({ cls := cC, slots := kC.instanceTypes.map defaultValue, vm := .none } : Cell))[n0 + Ls.length]? = some { cls := cC, slots := kC.instanceTypes.map defaultValue, vm := .none } := by rw [← H.2.2.1]; simp
  refine Hp.push (h := T.heap) H ⟨⟨_, kZ, hN, q1, z1, rfl, fun _ => by simp [ei]⟩, fun j f v h1 h2 => ?_⟩
  obtain ⟨t, ht, rfl⟩ := hvs j f v h1 h2
  obtain ⟨c1, k1, cf, kf, i', f', a1, a2, a3, a4, a5, a6, -⟩ := (cl.2.1 j f h1).1.spec
  cases q1.symm.trans a1
  cases z1.symm.trans a2
  exact ⟨_, cf, kf, i', f', hN, a3, a4, by simp, rfl, a5, by simp [ei, a6, (State.fieldFound?_type a3 ht).2]⟩
theorem s_newarray {aty : ArrayType} {x : Int32} {ty : FieldType} (w : St p l e R s m args below meth c Z y bytes ml ret h0 n0 T Ls cells slots) (k : (Cond.arrayClass ty).before a0 Z = true) (hty : newarray.typeOf aty = ty) (hno : ∀ C, ty ≠ .object C) (hd : decode bytes pc = .ok (.newarray aty, 2)) (hx0 : ¬ x < 0) (cap : Nat) (hcap : x.toNatClampNeg ≤ cap) (hbig : cap * 8 ≤ 536870912) (hc : cells + 1 ≤ R.cells) (hl : slots + cap ≤ R.slots) (N : Nat) (hN0 : Ls.length = N) (hp : pc + 2 = pc')
    (G : ∀ T', St p l e R s m args below meth c Z y bytes ml ret h0 n0 T' (Ls ++ [.inr (ty, List.replicate x.toNatClampNeg (defaultValue ty))]) (cells + 1) (slots + cap) → Go p e below F T' (mkF m pc' ls (.ref (n0 + N) :: st))) : Go p e below F T (mkF m pc ls (.int x :: st)) := by
  subst hp; subst hty; subst hN0
  obtain ⟨w1, locs, X, N, H⟩ := w
  have w1' := w1
  obtain ⟨hx, hZ, hown, hby, -⟩ := w1
  have hcb : componentBytes (newarray.typeOf aty) ≤ 8 := by cases aty <;> decide
  obtain ⟨cA, kA, comp, q1, q2, q3, X', st'⟩ := X.newarrayPrim hx (mvA hZ k) (g := mkF m pc ls (.int x :: st)) rfl (hb hby hd) rfl hx0 (Nat.le_trans (Nat.mul_le_mul hcap hcb) hbig) hc (by omega)
  rw [show T.heap.size = n0 + Ls.length from H.2.2.1] at st'
  refine Go.of st' (G _ ⟨w1', locs, X'.more (Nat.le_refl _) (by omega), N, ?_⟩)
  rw [hZ.alike.findClass] at q1
  obtain ⟨kZ, z1, -⟩ := Vm.findClass_spec q1
  obtain ⟨k', z2, z3⟩ := hZ.alike.2.2 _ _ z1
  cases q2.symm.trans z2
  have kk : kZ.kind = .array comp (newarray.typeOf aty) := by rw [← q3, z3]
  have hN : (T.heap.push ({ cls := cA, slots := Array.replicate x.toNatClampNeg (defaultValue (newarray.typeOf aty)), vm := .none } : Cell))[n0 + Ls.length]? = some { cls := cA, slots := Array.replicate x.toNatClampNeg (defaultValue (newarray.typeOf aty)), vm := .none } := by rw [← H.2.2.1]; simp
  refine Hp.push (h := T.heap) H ⟨_, ⟨hN, ⟨by simp, kZ, z1, comp, kk⟩, by simp⟩, fun C q => absurd q (hno C), by simp, by simpa using (back32 hx0).2, fun v hv => ?_⟩
  rw [List.eq_of_mem_replicate hv]; cases aty <;> rfl
theorem s_anewarray {i : Nat} {x : Int32} {C : String} (w : St p l e R s m args below meth c Z y bytes ml ret h0 n0 T Ls cells slots) (k1 : (Cond.classLink y.cls i C).before a0 Z = true) (k2 : (Cond.arrayOver (.object C)).before a0 Z = true) (hd : decode bytes pc = .ok (.anewarray i, 3)) (hx0 : ¬ x < 0) (cap : Nat) (hcap : x.toNatClampNeg ≤ cap) (hbig : cap * 8 ≤ 536870912) (hc : cells + 1 ≤ R.cells) (hl : slots + cap ≤ R.slots) (N : Nat) (hN0 : Ls.length = N) (hp : pc + 3 = pc')
    (G : ∀ T', St p l e R s m args below meth c Z y bytes ml ret h0 n0 T' (Ls ++ [.inr (.object C, List.replicate x.toNatClampNeg .null)]) (cells + 1) (slots + cap) → Go p e below F T' (mkF m pc' ls (.ref (n0 + N) :: st))) : Go p e below F T (mkF m pc ls (.int x :: st)) := by
  subst hp; subst hN0
  obtain ⟨w1, locs, X, N, H⟩ := w
  have w1' := w1
  obtain ⟨hx, hZ, hown, hby, -⟩ := w1
  obtain ⟨vm₁, cA, kA, comp, -, q1, q2, q3, q4, X', st'⟩ := X.anewarrayRefK hx hown (mv hZ k1) (Cond.arrayOver_alike hZ.alike k2) (g := mkF m pc ls (.int x :: st)) rfl (hb hby hd) rfl hx0 (by omega) hc (by omega)
  rw [show T.heap.size = n0 + Ls.length from H.2.2.1] at st'
  refine Go.of st' (G _ ⟨w1', locs, X'.more (Nat.le_refl _) (by omega), N, ?_⟩)
  rw [hZ.alike.findClass] at q1 q4
  obtain ⟨kZ, z1, -⟩ := Vm.findClass_spec q1
  obtain ⟨k', z2, z3⟩ := hZ.alike.2.2 _ _ z1
  cases q2.symm.trans z2
  have kk : kZ.kind = .array comp (.object C) := by rw [← q3, z3]
  have hN : (T.heap.push ({ cls := cA, slots := Array.replicate x.toNatClampNeg .null, vm := .none } : Cell))[n0 + Ls.length]? = some { cls := cA, slots := Array.replicate x.toNatClampNeg .null, vm := .none } := by rw [← H.2.2.1]; simp
  refine Hp.push (h := T.heap) H ⟨_, ⟨hN, ⟨by simp, kZ, z1, comp, kk⟩, by simp⟩, fun C' q => by cases q; exact ⟨kZ, comp, z1, kk, q4⟩, by simp, by simpa using (back32 hx0).2, fun v hv => ?_⟩
  rw [List.eq_of_mem_replicate hv]; rfl
/-! ### arrays -/
theorem inb {vs : List Value} {x : Int32} {cl : Cell} (hs : cl.slots = vs.toArray) (hx0 : ¬ x < 0) {v : Value} (hv : vs[x.toNatClampNeg]? = some v) : ¬ (x < 0 ∨ cl.slots.size ≤ x.toNatClampNeg) := by
  have := (List.getElem?_eq_some_iff.mp hv).1
  rw [hs]; simp [hx0]; exact this
theorem s_arraylength {ty : FieldType} {vs : List Value} (z : Int32) (w : St p l e R s m args below meth c Z y bytes ml ret h0 n0 T Ls cells slots) (q : Lk Z h0 n0 Ls a (.inr (ty, vs))) (hd : decode bytes pc = .ok (.arraylength, 1)) (hz : vs.length.toInt32 = z) (hp : pc + 1 = pc') (G : Go p e below F T (mkF m pc' ls (.int z :: st))) : Go p e below F T (mkF m pc ls (.ref a :: st)) := by
  subst hp; subst hz
  obtain ⟨⟨hx, hZ, hown, hby, -⟩, locs, X, N, H⟩ := w
  obtain ⟨cl, A, -, hs, -⟩ := H.lk q
  refine Go.of (fun t k => X.arraylength hx A.1 (State.isArrayOf_alike hZ.alike A.2.1) (g := mkF m pc ls (.ref a :: st)) rfl rfl (hb hby hd) t ?_) G
  rw [show cl.slots.size.toInt32 = vs.length.toInt32 by rw [hs]; simp]; exact k
theorem s_iaload {vs : List Value} {x : Int32} (w : St p l e R s m args below meth c Z y bytes ml ret h0 n0 T Ls cells slots) (q : Lk Z h0 n0 Ls a (.inr (.int, vs))) (hd : decode bytes pc = .ok (.iaload, 1)) (hx0 : ¬ x < 0) (hv : vs[x.toNatClampNeg]? = some v) (hp : pc + 1 = pc') (G : Go p e below F T (mkF m pc' ls (v :: st))) : Go p e below F T (mkF m pc ls (.int x :: .ref a :: st)) := by
  subst hp
  obtain ⟨⟨hx, hZ, hown, hby, -⟩, locs, X, N, H⟩ := w
  obtain ⟨cl, A, -, hs, -⟩ := H.lk q
  exact Go.of (fun t k => X.iaload hx A.1 (State.isArrayOf_alike hZ.alike A.2.1) A.2.2 (inb hs hx0 hv) (by rw [hs]; simpa using hv) (g := mkF m pc ls (.int x :: .ref a :: st)) rfl rfl (hb hby hd) t k) G
theorem s_laload {vs : List Value} {x : Int32} (w : St p l e R s m args below meth c Z y bytes ml ret h0 n0 T Ls cells slots) (q : Lk Z h0 n0 Ls a (.inr (.long, vs))) (hd : decode bytes pc = .ok (.laload, 1)) (hx0 : ¬ x < 0) (hv : vs[x.toNatClampNeg]? = some v) (hp : pc + 1 = pc') (G : Go p e below F T (mkF m pc' ls (v :: st))) : Go p e below F T (mkF m pc ls (.int x :: .ref a :: st)) := by
  subst hp
  obtain ⟨⟨hx, hZ, hown, hby, -⟩, locs, X, N, H⟩ := w
  obtain ⟨cl, A, -, hs, -⟩ := H.lk q
  exact Go.of (fun t k => X.laload hx A.1 (State.isArrayOf_alike hZ.alike A.2.1) A.2.2 (inb hs hx0 hv) (by rw [hs]; simpa using hv) (g := mkF m pc ls (.int x :: .ref a :: st)) rfl rfl (hb hby hd) t k) G
theorem s_aaload {vs : List Value} {x : Int32} {ty : FieldType} (w : St p l e R s m args below meth c Z y bytes ml ret h0 n0 T Ls cells slots) (q : Lk Z h0 n0 Ls a (.inr (ty, vs))) (hty : ty.isReference = true) (hd : decode bytes pc = .ok (.aaload, 1)) (hx0 : ¬ x < 0) (hv : vs[x.toNatClampNeg]? = some v) (hp : pc + 1 = pc') (G : Go p e below F T (mkF m pc' ls (v :: st))) : Go p e below F T (mkF m pc ls (.int x :: .ref a :: st)) := by
  subst hp
  obtain ⟨⟨hx, hZ, hown, hby, -⟩, locs, X, N, H⟩ := w
  obtain ⟨cl, A, -, hs, -⟩ := H.lk q
  exact Go.of (fun t k => X.aaload hx A.1 (State.isArrayOf_alike hZ.alike A.2.1) hty A.2.2 (inb hs hx0 hv) (by rw [hs]; simpa using hv) (g := mkF m pc ls (.int x :: .ref a :: st)) rfl rfl (hb hby hd) t k) G
theorem s_aaloadA {cl : Cell} {x : Int32} {ty : FieldType} (w : St p l e R s m args below meth c Z y bytes ml ret h0 n0 T Ls cells slots) (A : Arr Z h0 a cl ty) (hty : ty.isReference = true) (hd : decode bytes pc = .ok (.aaload, 1)) (hin : ¬ (x < 0 ∨ cl.slots.size ≤ x.toNatClampNeg)) (hv : cl.slots[x.toNatClampNeg]? = some v) (hp : pc + 1 = pc') (G : Go p e below F T (mkF m pc' ls (v :: st))) : Go p e below F T (mkF m pc ls (.int x :: .ref a :: st)) := by
  subst hp
  obtain ⟨⟨hx, hZ, hown, hby, -⟩, locs, X, N, H⟩ := w
  have A := A.ext H.2.1
  exact Go.of (fun t k => X.aaload hx A.1 (State.isArrayOf_alike hZ.alike A.2.1) hty A.2.2 hin hv (g := mkF m pc ls (.int x :: .ref a :: st)) rfl rfl (hb hby hd) t k) G
theorem s_arraylengthA {cl : Cell} {ty : FieldType} (z : Int32) (w : St p l e R s m args below meth c Z y bytes ml ret h0 n0 T Ls cells slots) (A : Arr Z h0 a cl ty) (hd : decode bytes pc = .ok (.arraylength, 1)) (hz : cl.slots.size.toInt32 = z) (hp : pc + 1 = pc') (G : Go p e below F T (mkF m pc' ls (.int z :: st))) : Go p e below F T (mkF m pc ls (.ref a :: st)) := by
  subst hp; subst hz
  obtain ⟨⟨hx, hZ, hown, hby, -⟩, locs, X, N, H⟩ := w
  have A := A.ext H.2.1
  exact Go.of (fun t k => X.arraylength hx A.1 (State.isArrayOf_alike hZ.alike A.2.1) (g := mkF m pc ls (.ref a :: st)) rfl rfl (hb hby hd) t k) G
theorem Is.aset {vs : List Value} {ty : FieldType} {cl : Cell} {j : Nat} (A : Arr Z h a cl ty) (O : ∀ C, ty = .object C → Ovr Z cl.cls C) (hs : cl.slots = vs.toArray) (hl : vs.length < 2 ^ 31) (hf : ∀ v ∈ vs, fits ty v = true) (hv : fits ty v = true) (W : Wr h h' a j v) : Is Z h' a (.inr (ty, vs.set j v)) :=
  ⟨cl.setSlot j v, A.same W, O, by simp [Cell.setSlot, hs], by simpa using hl, fun u hu => (List.mem_or_eq_of_mem_set hu).elim (hf u) fun e => e ▸ hv⟩
theorem s_iastore {vs : List Value} {x z : Int32} {k : Nat} (w : St p l e R s m args below meth c Z y bytes ml ret h0 n0 T Ls cells slots) (q : Ls[k]? = some (.inr (.int, vs))) (hd : decode bytes pc = .ok (.iastore, 1)) (hx0 : ¬ x < 0) (hv : x.toNatClampNeg < vs.length) (hp : pc + 1 = pc')
    (G : ∀ T', St p l e R s m args below meth c Z y bytes ml ret h0 n0 T' (Ls.set k (.inr (.int, vs.set x.toNatClampNeg (.int z)))) cells slots → Go p e below F T' (mkF m pc' ls st)) : Go p e below F T (mkF m pc ls (.int z :: .int x :: .ref (n0 + k) :: st)) := by
  subst hp
  obtain ⟨w1, locs, X, N, H⟩ := w
  have w1' := w1
  obtain ⟨hx, hZ, hown, hby, -⟩ := w1
  obtain ⟨cl, A, O, hs, hl, hf⟩ := H.at q
  obtain ⟨T', h', X', e', W', st'⟩ := stI X hx hZ rfl A (inb hs hx0 (List.getElem?_eq_getElem hv)) (g := mkF m pc ls (.int z :: .int x :: .ref (n0 + k) :: st)) rfl rfl (hb hby hd)
  exact Go.of st' (G T' ⟨w1', _, X', Fr.snoc X' N (Nat.le_add_right _ _), by rw [e']; exact H.wr q W' (Is.aset A O hs hl hf rfl W')⟩)
theorem s_lastore {vs : List Value} {x : Int32} {z : Int64} {k : Nat} (w : St p l e R s m args below meth c Z y bytes ml ret h0 n0 T Ls cells slots) (q : Ls[k]? = some (.inr (.long, vs))) (hd : decode bytes pc = .ok (.lastore, 1)) (hx0 : ¬ x < 0) (hv : x.toNatClampNeg < vs.length) (hp : pc + 1 = pc')
    (G : ∀ T', St p l e R s m args below meth c Z y bytes ml ret h0 n0 T' (Ls.set k (.inr (.long, vs.set x.toNatClampNeg (.long z)))) cells slots → Go p e below F T' (mkF m pc' ls st)) : Go p e below F T (mkF m pc ls (.long z :: .int x :: .ref (n0 + k) :: st)) := by
  subst hp
  obtain ⟨w1, locs, X, N, H⟩ := w
  have w1' := w1
  obtain ⟨hx, hZ, hown, hby, -⟩ := w1
  obtain ⟨cl, A, O, hs, hl, hf⟩ := H.at q
  obtain ⟨T', h', X', e', W', st'⟩ := stJ X hx hZ rfl A (inb hs hx0 (List.getElem?_eq_getElem hv)) (g := mkF m pc ls (.long z :: .int x :: .ref (n0 + k) :: st)) rfl rfl (hb hby hd)
  exact Go.of st' (G T' ⟨w1', _, X', Fr.snoc X' N (Nat.le_add_right _ _), by rw [e']; exact H.wr q W' (Is.aset A O hs hl hf rfl W')⟩)
theorem Lk.ins {C K : String} {fs : List (String × String × String)} {vs : List Value} (H : Hp Z h0 n0 Ls h) (q : Lk Z h0 n0 Ls a (.inl (C, fs, vs))) (k : C = K ∨ (Cond.castable C K).before a0 Z = true) : Ins Z h a K true := by
  rcases k with rfl | k
  · exact Ins.self (H.lk q).1
  · exact Ins.of_exa (H.lk q).1 k
theorem s_aastore {vs us : List Value} {x : Int32} {k : Nat} {C K : String} {fs : List (String × String × String)} (w : St p l e R s m args below meth c Z y bytes ml ret h0 n0 T Ls cells slots) (q : Ls[k]? = some (.inr (.object K, vs))) (qb : Lk Z h0 n0 Ls b (.inl (C, fs, us))) (kc : C = K ∨ (Cond.castable C K).before a0 Z = true) (hd : decode bytes pc = .ok (.aastore, 1)) (hx0 : ¬ x < 0) (hv : x.toNatClampNeg < vs.length) (hp : pc + 1 = pc')
    (G : ∀ T', St p l e R s m args below meth c Z y bytes ml ret h0 n0 T' (Ls.set k (.inr (.object K, vs.set x.toNatClampNeg (.ref b)))) cells slots → Go p e below F T' (mkF m pc' ls st)) : Go p e below F T (mkF m pc ls (.ref b :: .int x :: .ref (n0 + k) :: st)) := by
  subst hp
  obtain ⟨w1, locs, X, N, H⟩ := w
  have w1' := w1
  obtain ⟨hx, hZ, hown, hby, -⟩ := w1
  obtain ⟨cl, A, O, hs, hl, hf⟩ := H.at q
  obtain ⟨T', h', X', e', W', st'⟩ := stR X hx hZ rfl A (inb hs hx0 (List.getElem?_eq_getElem hv)) rfl (Sto.of A (O K rfl) (Lk.ins H qb kc)) (g := mkF m pc ls (.ref b :: .int x :: .ref (n0 + k) :: st)) rfl rfl (hb hby hd)
  exact Go.of st' (G T' ⟨w1', _, X', Fr.snoc X' N (Nat.le_add_right _ _), by rw [e']; exact H.wr q W' (Is.aset A O hs hl hf rfl W')⟩)
theorem s_checkcast {i : Nat} {C K : String} {fs : List (String × String × String)} {vs : List Value} (w : St p l e R s m args below meth c Z y bytes ml ret h0 n0 T Ls cells slots) (k : (Cond.classLink y.cls i K).before a0 Z = true) (q : Lk Z h0 n0 Ls a (.inl (C, fs, vs))) (kc : C = K ∨ (Cond.castable C K).before a0 Z = true) (hd : decode bytes pc = .ok (.checkcast i, 3)) (hp : pc + 3 = pc')
    (G : ∀ T', St p l e R s m args below meth c Z y bytes ml ret h0 n0 T' Ls cells slots → Go p e below F T' (mkF m pc' ls (.ref a :: st))) : Go p e below F T (mkF m pc ls (.ref a :: st)) := by
  subst hp
  obtain ⟨w1, locs, X, N, H⟩ := w
  have w1' := w1
  obtain ⟨hx, hZ, hown, hby, -⟩ := w1
  obtain ⟨T', X', e', st'⟩ := castY X hx hZ hown k rfl (Lk.ins H q kc) (g := mkF m pc ls (.ref a :: st)) rfl rfl (hb hby hd)
  exact Go.of st' (G T' ⟨w1', locs, X', N, by rw [e']; exact H⟩)
theorem copied_slots {cs cd : Cell} {vs vd : List Value} {sp dp nn : Int32} (hs : cs.slots = vs.toArray) (hd : cd.slots = vd.toArray) (h4 : sp.toNatClampNeg + nn.toNatClampNeg ≤ vs.length) (h5 : dp.toNatClampNeg + nn.toNatClampNeg ≤ vd.length) :
    (cd.storeRun dp.toNatClampNeg (cs.stretch sp.toNatClampNeg nn.toNatClampNeg)).slots = (vd.take dp.toNatClampNeg ++ (vs.drop sp.toNatClampNeg).take nn.toNatClampNeg ++ vd.drop (dp.toNatClampNeg + nn.toNatClampNeg)).toArray := by
  have est : cs.stretch sp.toNatClampNeg nn.toNatClampNeg = (vs.drop sp.toNatClampNeg).take nn.toNatClampNeg := by
    apply List.ext_getElem?
    intro i
    by_cases hi : i < nn.toNatClampNeg
    · rw [List.getElem?_take_of_lt hi, List.getElem?_drop]
      simp only [Cell.stretch, List.getElem?_map, List.getElem?_range hi, Option.map_some, hs, Array.getD_eq_getD_getElem?, List.getElem?_toArray]
      rw [List.getElem?_eq_getElem (by omega)]; rfl
    · rw [List.getElem?_eq_none (by simp [Cell.stretch]; omega), List.getElem?_eq_none (by simp; omega)]
  have ul : ((vs.drop sp.toNatClampNeg).take nn.toNatClampNeg).length = nn.toNatClampNeg := by simp; omega
  rw [est]
  generalize (vs.drop sp.toNatClampNeg).take nn.toNatClampNeg = us at *
  apply Array.ext_getElem?
  intro j
  rw [Cell.storeRun_get _ _ _ _ (by rw [ul, hd]; simpa using h5), ul, hd]
  simp only [List.getElem?_toArray]
  have lt : (vd.take dp.toNatClampNeg).length = dp.toNatClampNeg := by rw [List.length_take]; omega
  by_cases c1 : j < dp.toNatClampNeg
  · rw [if_neg (by omega), List.append_assoc, List.getElem?_append_left (by omega), List.getElem?_take_of_lt c1]
  · by_cases c2 : j < dp.toNatClampNeg + nn.toNatClampNeg
    · rw [if_pos ⟨by omega, c2⟩, List.getElem?_append_left (by rw [List.length_append]; omega), List.getElem?_append_right (by omega), lt]
    · rw [if_neg (by omega), List.getElem?_append_right (by rw [List.length_append]; omega), List.length_append, lt, ul, List.getElem?_drop, show dp.toNatClampNeg + nn.toNatClampNeg + (j - (dp.toNatClampNeg + nn.toNatClampNeg)) = j by omega]
theorem s_arraycopy {ty : FieldType} {vs vd : List Value} {sp dp nn : Int32} {i k : Nat} (W : Nat) (w : St p l e R s m args below meth c Z y bytes ml ret h0 n0 T Ls cells slots) (qa : Lk Z h0 n0 Ls a (.inr (ty, vs))) (qb : Ls[k]? = some (.inr (ty, vd))) (hty : refKind ty = false)
    (k1 : (Cond.methodLink y.cls i Jvm.Stand.acN).before a0 Z = true) (k2 : (Cond.native Jvm.Stand.acN).before a0 Z = true) (k3 : (Cond.static Jvm.Stand.acN).before a0 Z = true) (k4 : (Cond.initialized "java/lang/System").before a0 Z = true)
    (h1 : ¬ sp < 0) (h2 : ¬ dp < 0) (h3 : ¬ nn < 0) (h4 : sp.toNatClampNeg + nn.toNatClampNeg ≤ vs.length) (h5 : dp.toNatClampNeg + nn.toNatClampNeg ≤ vd.length)
    (hd : decode bytes pc = .ok (.invokestatic i, 3)) (hsz : ls.size = ml) (hf : 1 ≤ R.frames) (hW : (st.map fun v => v.category).sum ≤ W) (hlo : W + (nativeFrameWords "java/lang/System" "arraycopy" 5 + 11) ≤ R.locals) (hp : pc + 3 = pc')
    (G : ∀ T', St p l e R s m args below meth c Z y bytes ml ret h0 n0 T' (Ls.set k (.inr (ty, vd.take dp.toNatClampNeg ++ (vs.drop sp.toNatClampNeg).take nn.toNatClampNeg ++ vd.drop (dp.toNatClampNeg + nn.toNatClampNeg)))) cells slots → Go p e below F T' (mkF m pc' ls st)) :
    Go p e below F T (mkF m pc ls (.int nn :: .int dp :: .ref (n0 + k) :: .int sp :: .ref a :: st)) := by
  subst hp
  obtain ⟨w1, locs, X, N, H⟩ := w
  have w1' := w1
  obtain ⟨hx, hZ, hown, hby, hml, -⟩ := w1
  obtain ⟨cs, As, Os, hs, hls, hfs⟩ := H.lk qa
  obtain ⟨cd, Ad, Od, hdd, hld, hfd⟩ := H.at qb
  obtain ⟨os, ks, hks, sc, hsk⟩ := State.isArrayOf_alike (T := s) hZ.alike As.2.1
  obtain ⟨od, kd, hkd, dc, hdk⟩ := State.isArrayOf_alike (T := s) hZ.alike Ad.2.1
  have ss : cs.slots.size = vs.length := by rw [hs]; simp
  have sd : cd.slots.size = vd.length := by rw [hdd]; simp
  have fit : ∀ i, i < nn.toNatClampNeg → fits ty (cs.slots.getD (sp.toNatClampNeg + i) .null) = true := fun i hi => by
    rw [hs, Array.getD_eq_getD_getElem?, List.getElem?_toArray, List.getElem?_eq_getElem (by omega)]
    exact hfs _ (List.getElem_mem _)
  obtain ⟨vm₁, hW₁, X', st'⟩ := X.arraycopyK hx hown (mvT hZ k1) (mvT hZ k2) (mvT hZ k3) (mvT hZ k4) As.1 Ad.1 os od As.2.2 Ad.2.2 hks hkd hsk hdk (by simp [hty]) h1 h2 h3 (by rw [nat_of h1, nat_of h3, ss]; omega) (by rw [nat_of h2, nat_of h3, sd]; omega)
    (fun vm₁ hw i hi => by
      have q := fit i hi
      refine ⟨q, ?_⟩
      generalize cs.slots.getD (sp.toNatClampNeg + i) .null = u at q ⊢
      cases u <;> first | trivial | exact (prim_no_ref hty q).elim)
    (g := mkF m pc ls (.int nn :: .int dp :: .ref (n0 + k) :: .int sp :: .ref a :: st)) rfl (by rw [hml]; exact hsz) rfl (hb hby hd) hf (by show 2 * 0 + _ + _ ≤ _; omega)
  refine Go.of st' (G _ ⟨w1', _, X', N.app fun y hy => by rw [Jvm.Stand.copyLocs_base hy]; omega, ?_⟩)
  have cf := cd.storeRun_facts dp.toNatClampNeg (cs.stretch sp.toNatClampNeg nn.toNatClampNeg)
  have eh : ((T.setVm vm₁).setCell (n0 + k) (copied cs cd sp dp nn)).heap = T.heap.setIfInBounds (n0 + k) (cd.storeRun dp.toNatClampNeg (cs.stretch sp.toNatClampNeg nn.toNatClampNeg)) := rfl
  rw [eh]
  have hb' : n0 + k < T.heap.size := Ad.lt
  refine H.keep qb ⟨by simp, fun x c q r => ?_, fun x c q => ?_⟩ (by simp) ⟨_, ⟨by rw [Array.getElem?_setIfInBounds_self_of_lt hb'], ?_, by rw [cf.2.1]; exact Ad.2.2⟩, fun C e => ?_, copied_slots hs hdd h4 h5, by simp; omega, fun v hv => ?_⟩
  · have : n0 + k ≠ x := fun z => r (by simp [z])
    rw [Array.getElem?_setIfInBounds_ne this]; exact q
  · by_cases u : n0 + k = x
    · subst u; cases Ad.1.symm.trans q
      exact ⟨_, by rw [Array.getElem?_setIfInBounds_self_of_lt hb'], cf.1, cf.2.1, cf.2.2.1⟩
    · exact ⟨c, by rw [Array.getElem?_setIfInBounds_ne u]; exact q, rfl, rfl, rfl⟩
  · have := Ad.2.1; unfold State.isArrayOf at this ⊢; rw [cf.1, cf.2.1]; exact this
  · rw [e] at hty; cases hty
  · rcases List.mem_append.mp hv with hv | hv
    · rcases List.mem_append.mp hv with hv | hv
      · exact hfd _ (List.mem_of_mem_take hv)
      · exact hfs _ (List.mem_of_mem_drop (List.mem_of_mem_take hv))
    · exact hfd _ (List.mem_of_mem_drop hv)
/-! ### calls -/
theorem backC {y' : MethodName} {by' : ByteArray} {ml' : Nat} {ret' : Option FieldType} {rm : Room} {as' : Array Value} {Q : Option Value → List Ob → Prop} {len W : Nat} (K : Con l Z y' by' ml' ret' rm as' h0 n0 Ls Q) (H : Hp Z h0 n0 Ls h) (hZ : Z.Warmed39 s.vm) (wc : (Cond.code y' by' ml' ret').before a0 Z = true) (wz : (Cond.initialized y'.cls).before a0 Z = true) (hf : rm.frames + 1 ≤ R.frames) (hl : W + (ml' + 11) + rm.locals ≤ R.locals) :
    Back l R p e below s args y' len W (fun A a => a = as' ∧ A.U.heap = h ∧ A.cells + rm.cells ≤ R.cells ∧ A.slots + rm.slots ≤ R.slots)
      (fun A _ v B => ∃ L, (∃ Ls', Q v Ls' ∧ Fr n0 L ∧ Hp Z h0 n0 Ls' B.U.heap) ∧ B.locs = A.locs ++ L ∧ B.cells = A.cells + rm.cells ∧ B.slots = A.slots + rm.slots) :=
  backOf (Q := fun v h L => ∃ Ls', Q v Ls' ∧ Fr n0 L ∧ Hp Z h0 n0 Ls' h) (K h H) hZ wc wz hf hl
theorem s_static {i : Nat} {y' : MethodName} {by' : ByteArray} {ml' : Nat} {ret' : Option FieldType} {rm : Room} {as' : Array Value} {Q : Option Value → List Ob → Prop} {ps : List FieldType} {rr : Option FieldType} (W : Nat) (argsL : List Value) (w : St p l e R s m args below meth c Z y bytes ml ret h0 n0 T Ls cells slots) (K : Con l Z y' by' ml' ret' rm as' h0 n0 Ls Q)
    (k1 : (Cond.methodLink y.cls i y').before a0 Z = true) (k2 : (Cond.static y').before a0 Z = true) (k3 : (Cond.initialized y'.cls).before a0 Z = true) (k4 : (Cond.code y' by' ml' ret').before a0 Z = true) (hy : y'.cls ≠ "java/lang/invoke/MethodHandle" ∧ y'.cls ≠ "java/lang/invoke/VarHandle") (pd : parseMethodDescriptor y'.desc = some ⟨ps, rr⟩) (hd : decode bytes pc = .ok (.invokestatic i, 3))
    (hrm : rm.frames + 1 ≤ R.frames ∧ W + (ml' + 11) + rm.locals ≤ R.locals ∧ cells + rm.cells ≤ R.cells ∧ slots + rm.slots ≤ R.slots) (hsz : ls.size = ml) (hpl : argsL.length = ps.length) (has : argsL.toArray = as') (hst : st = argsL.reverse ++ rest) (hW : (rest.map fun v => v.category).sum ≤ W) (hp : pc + 3 = pc')
    (G : ∀ T' v Ls', Q v Ls' → St p l e R s m args below meth c Z y bytes ml ret h0 n0 T' Ls' (cells + rm.cells) (slots + rm.slots) → Go p e below F T' (mkF m pc' ls (v.toList ++ rest))) : Go p e below F T (mkF m pc ls st) := by
  subst hp; subst hst
  obtain ⟨w1, locs, X, N, H⟩ := w
  have w1' := w1
  obtain ⟨hx, hZ, hown, hby, hml, -⟩ := w1
  obtain ⟨v, _, ⟨T', L', c', n'⟩, -, X', ⟨Lc, ⟨Ls', hQ, N', H'⟩, l', z1, z2⟩, st'⟩ := Jvm.LawKit.callS X hx hown (mvT hZ k1) (mvT hZ k2) (mvT hZ k3) (mvT hZ k4) hy (backC (W := W) K H hZ k4 k3 hrm.1 hrm.2.1) (g := mkF m pc ls (argsL.reverse ++ rest)) rfl (by rw [hml]; exact hsz) (argsL := argsL) (rest := rest) (lenOf pd hpl) rfl (by show 2 * 0 + _ ≤ _; omega) (hb hby hd) (fun _ _ => ⟨has, rfl, hrm.2.2.1, hrm.2.2.2⟩)
  dsimp only [Pt.U, Pt.locs, Pt.cells, Pt.slots] at X' l' z1 z2 st' H'
  subst l' z1 z2
  exact Go.of st' (G T' v Ls' hQ ⟨w1', _, X', Fr.app N N', H'⟩)
theorem s_special {i : Nat} {y' : MethodName} {by' : ByteArray} {ml' : Nat} {rm : Room} {as' : Array Value} {Q : Option Value → List Ob → Prop} {ps : List FieldType} {rr : Option FieldType} (W : Nat) (argsL : List Value) (w : St p l e R s m args below meth c Z y bytes ml ret h0 n0 T Ls cells slots) (K : Con l Z y' by' ml' none rm as' h0 n0 Ls Q)
    (hy1 : y'.name = "<init>") (k1 : (Cond.methodLink y.cls i y').before a0 Z = true) (k2 : (Cond.instanceMethod y').before a0 Z = true) (k3 : (Cond.initialized y'.cls).before a0 Z = true) (k4 : (Cond.code y' by' ml' none).before a0 Z = true) (hy : y'.cls ≠ "java/lang/invoke/MethodHandle" ∧ y'.cls ≠ "java/lang/invoke/VarHandle") (pd : parseMethodDescriptor y'.desc = some ⟨ps, rr⟩) (hd : decode bytes pc = .ok (.invokespecial i, 3))
    (hrm : rm.frames + 1 ≤ R.frames ∧ W + (ml' + 11) + rm.locals ≤ R.locals ∧ cells + rm.cells ≤ R.cells ∧ slots + rm.slots ≤ R.slots) (hsz : ls.size = ml) (hpl : argsL.length = ps.length) (has : (.ref a :: argsL).toArray = as') (hst : st = argsL.reverse ++ .ref a :: rest) (hW : (rest.map fun v => v.category).sum ≤ W) (hp : pc + 3 = pc')
    (G : ∀ T' v Ls', Q v Ls' → St p l e R s m args below meth c Z y bytes ml ret h0 n0 T' Ls' (cells + rm.cells) (slots + rm.slots) → Go p e below F T' (mkF m pc' ls (v.toList ++ rest))) : Go p e below F T (mkF m pc ls st) := by
  subst hp; subst hst
  obtain ⟨w1, locs, X, N, H⟩ := w
  have w1' := w1
  obtain ⟨hx, hZ, hown, hby, hml, -⟩ := w1
  obtain ⟨v, _, ⟨T', L', c', n'⟩, -, X', ⟨Lc, ⟨Ls', hQ, N', H'⟩, l', z1, z2⟩, st'⟩ := X.specialBack hx hy1 hown (mvT hZ k1) (mvT hZ k2) (mvT hZ k4) hy (backC (W := W) K H hZ k4 k3 hrm.1 hrm.2.1) (g := mkF m pc ls (argsL.reverse ++ .ref a :: rest)) rfl (by rw [hml]; exact hsz) (Steps.refl _) (argsL := argsL) (rest := rest) (lenOf pd hpl) rfl (by show 2 * 0 + _ ≤ _; omega) (hb hby hd) (fun _ _ => ⟨has, rfl, hrm.2.2.1, hrm.2.2.2⟩)
  dsimp only [Pt.U, Pt.locs, Pt.cells, Pt.slots] at X' l' z1 z2 st' H'
  subst l' z1 z2
  exact Go.of (fun t q => st'.trans q) (G T' v Ls' hQ ⟨w1', _, X', Fr.app N N', H'⟩)
theorem s_virtual {i : Nat} {C : String} {fs : List (String × String × String)} {vs : List Value} {y1 y' : MethodName} {by' : ByteArray} {ml' : Nat} {ret' : Option FieldType} {rm : Room} {as' : Array Value} {Q : Option Value → List Ob → Prop} {ps : List FieldType} {rr : Option FieldType} (W : Nat) (argsL : List Value) (w : St p l e R s m args below meth c Z y bytes ml ret h0 n0 T Ls cells slots) (K : Con l Z y' by' ml' ret' rm as' h0 n0 Ls Q) (q : Lk Z h0 n0 Ls a (.inl (C, fs, vs)))
    (k1 : (Cond.methodLink y.cls i y1).before a0 Z = true) (k2 : (Cond.declares y1).before a0 Z = true) (k5 : NotFace s y1) (k6 : (Cond.selects C y1 y').before a0 Z = true) (k7 : (Cond.instanceMethod y').before a0 Z = true) (k3 : (Cond.initialized y'.cls).before a0 Z = true) (k4 : (Cond.code y' by' ml' ret').before a0 Z = true) (hy : y1.cls ≠ "java/lang/invoke/MethodHandle" ∧ y1.cls ≠ "java/lang/invoke/VarHandle") (pd : parseMethodDescriptor y1.desc = some ⟨ps, rr⟩) (hd : decode bytes pc = .ok (.invokevirtual i, 3))
    (hrm : rm.frames + 1 ≤ R.frames ∧ W + (ml' + 11) + rm.locals ≤ R.locals ∧ cells + rm.cells ≤ R.cells ∧ slots + rm.slots ≤ R.slots) (hsz : ls.size = ml) (hpl : argsL.length = ps.length) (has : (.ref a :: argsL).toArray = as') (hst : st = argsL.reverse ++ .ref a :: rest) (hW : (rest.map fun v => v.category).sum ≤ W) (hp : pc + 3 = pc')
    (G : ∀ T' v Ls', Q v Ls' → St p l e R s m args below meth c Z y bytes ml ret h0 n0 T' Ls' (cells + rm.cells) (slots + rm.slots) → Go p e below F T' (mkF m pc' ls (v.toList ++ rest))) : Go p e below F T (mkF m pc ls st) := by
  subst hp; subst hst
  obtain ⟨w1, locs, X, N, H⟩ := w
  have w1' := w1
  obtain ⟨hx, hZ, hown, hby, hml, -⟩ := w1
  obtain ⟨cq, kq, qa, qb, qc⟩ := isOf (s := s) (T := T) hZ rfl (H.lk q).1
  obtain ⟨v, _, ⟨T', L', c', n'⟩, -, X', ⟨Lc, ⟨Ls', hQ, N', H'⟩, l', z1, z2⟩, st'⟩ := X.virtualBack hx hown (mvT hZ k1) (mvT hZ k2) k5 (mvT hZ k6) (mvT hZ k7) hy (backC (W := W) K H hZ k4 k3 hrm.1 hrm.2.1) qa qc (g := mkF m pc ls (argsL.reverse ++ .ref a :: rest)) rfl (by rw [hml]; exact hsz) (Steps.refl _) (argsL := argsL) (rest := rest) (lenOf pd hpl) rfl (by show 2 * 0 + _ ≤ _; omega) (hb hby hd) (fun _ _ => ⟨has, rfl, hrm.2.2.1, hrm.2.2.2⟩)
  dsimp only [Pt.U, Pt.locs, Pt.cells, Pt.slots] at X' l' z1 z2 st' H'
  subst l' z1 z2
  exact Go.of (fun t q => st'.trans q) (G T' v Ls' hQ ⟨w1', _, X', Fr.app N N', H'⟩)
theorem St.notFace {C : String} {y1 : MethodName} (w : St p l e R s m args below meth c Z y bytes ml ret h0 n0 T Ls cells slots) (k : (Cond.selects C y1 y1).before a0 Z = true) : NotFace s y1 := by
  exact notFace_of_selects (args := #[]) (mvT w.1.2.1 k)
theorem s_face {i n : Nat} {C : String} {fs : List (String × String × String)} {vs : List Value} {y1 y' : MethodName} {by' : ByteArray} {ml' : Nat} {ret' : Option FieldType} {rm : Room} {as' : Array Value} {Q : Option Value → List Ob → Prop} {ps : List FieldType} {rr : Option FieldType} (W : Nat) (argsL : List Value) (w : St p l e R s m args below meth c Z y bytes ml ret h0 n0 T Ls cells slots) (K : Con l Z y' by' ml' ret' rm as' h0 n0 Ls Q) (q : Lk Z h0 n0 Ls a (.inl (C, fs, vs)))
    (k1 : (Cond.methodLink y.cls i y1).before a0 Z = true) (k2 : (Cond.declares y1).before a0 Z = true) (k5 : (Cond.interfaceMethod y1.cls y1.cls y1.name y1.desc).before a0 Z = true) (k6 : (Cond.selects C y1 y').before a0 Z = true) (k7 : (Cond.instanceMethod y').before a0 Z = true) (k8 : (Cond.publicMethod y').before a0 Z = true) (k9 : (Cond.unhidden C y1.name y1.desc).before a0 Z = true) (k10 : (Cond.castable C y1.cls).before a0 Z = true) (k3 : (Cond.initialized y'.cls).before a0 Z = true) (k4 : (Cond.code y' by' ml' ret').before a0 Z = true) (hy : y1.cls ≠ "java/lang/invoke/MethodHandle" ∧ y1.cls ≠ "java/lang/invoke/VarHandle") (pd : parseMethodDescriptor y1.desc = some ⟨ps, rr⟩) (hd : decode bytes pc = .ok (.invokeinterface i n, 5))
    (hrm : rm.frames + 1 ≤ R.frames ∧ W + (ml' + 11) + rm.locals ≤ R.locals ∧ cells + rm.cells ≤ R.cells ∧ slots + rm.slots ≤ R.slots) (hsz : ls.size = ml) (hpl : argsL.length = ps.length) (has : (.ref a :: argsL).toArray = as') (hst : st = argsL.reverse ++ .ref a :: rest) (hW : (rest.map fun v => v.category).sum ≤ W) (hp : pc + 5 = pc')
    (G : ∀ T' v Ls', Q v Ls' → St p l e R s m args below meth c Z y bytes ml ret h0 n0 T' Ls' (cells + rm.cells) (slots + rm.slots) → Go p e below F T' (mkF m pc' ls (v.toList ++ rest))) : Go p e below F T (mkF m pc ls st) := by
  subst hp; subst hst
  obtain ⟨w1, locs, X, N, H⟩ := w
  have w1' := w1
  obtain ⟨hx, hZ, hown, hby, hml, -⟩ := w1
  obtain ⟨cq, kq, qa, qb, qc⟩ := isOf (s := s) (T := T) hZ rfl (H.lk q).1
  obtain ⟨v, _, ⟨T', L', c', n'⟩, -, X', ⟨Lc, ⟨Ls', hQ, N', H'⟩, l', z1, z2⟩, st'⟩ := X.interfaceBack hx hown (mvT hZ k1) (mvT hZ k2) (mvT hZ k5 (by simp [Cond.onTables, Cond.keepsFace, Cond.keeps, Cond.steady, Cond.faceAtom]; exact hy)) (mvT hZ k6) (mvT hZ k7) (mvT hZ k8) (mvT hZ k9) (mvT hZ k10) hy (backC (W := W) K H hZ k4 k3 hrm.1 hrm.2.1) qa qb qc (g := mkF m pc ls (argsL.reverse ++ .ref a :: rest)) rfl (by rw [hml]; exact hsz) (Steps.refl _) (argsL := argsL) (rest := rest) (lenOf pd hpl) rfl (by show 2 * 0 + _ ≤ _; omega) (hb hby hd) (fun _ _ => ⟨has, rfl, hrm.2.2.1, hrm.2.2.2⟩)
  dsimp only [Pt.U, Pt.locs, Pt.cells, Pt.slots] at X' l' z1 z2 st' H'
  subst l' z1 z2
  exact Go.of (fun t q => st'.trans q) (G T' v Ls' hQ ⟨w1', _, X', Fr.app N N', H'⟩)
theorem s_private {i : Nat} {C : String} {fs : List (String × String × String)} {vs : List Value} {y1 y' : MethodName} {by' : ByteArray} {ml' : Nat} {ret' : Option FieldType} {rm : Room} {as' : Array Value} {Q : Option Value → List Ob → Prop} {ps : List FieldType} {rr : Option FieldType} (W : Nat) (argsL : List Value) (w : St p l e R s m args below meth c Z y bytes ml ret h0 n0 T Ls cells slots) (K : Con l Z y' by' ml' ret' rm as' h0 n0 Ls Q) (q : Lk Z h0 n0 Ls a (.inl (C, fs, vs)))
    (k1 : (Cond.methodLink y.cls i y').before a0 Z = true) (k7 : (Cond.instanceMethod y').before a0 Z = true) (k6 : (Cond.selects y'.cls y1 y1).before a0 Z = true) (hy1 : y1.cls = y'.cls) (k5 : (Cond.privateMethod y').before a0 Z = true) (k3 : (Cond.initialized y'.cls).before a0 Z = true) (k4 : (Cond.code y' by' ml' ret').before a0 Z = true) (hy : y'.cls ≠ "java/lang/invoke/MethodHandle" ∧ y'.cls ≠ "java/lang/invoke/VarHandle") (pd : parseMethodDescriptor y'.desc = some ⟨ps, rr⟩) (hd : decode bytes pc = .ok (.invokevirtual i, 3))
    (hrm : rm.frames + 1 ≤ R.frames ∧ W + (ml' + 11) + rm.locals ≤ R.locals ∧ cells + rm.cells ≤ R.cells ∧ slots + rm.slots ≤ R.slots) (hsz : ls.size = ml) (hpl : argsL.length = ps.length) (has : (.ref a :: argsL).toArray = as') (hst : st = argsL.reverse ++ .ref a :: rest) (hW : (rest.map fun v => v.category).sum ≤ W) (hp : pc + 3 = pc')
    (G : ∀ T' v Ls', Q v Ls' → St p l e R s m args below meth c Z y bytes ml ret h0 n0 T' Ls' (cells + rm.cells) (slots + rm.slots) → Go p e below F T' (mkF m pc' ls (v.toList ++ rest))) : Go p e below F T (mkF m pc ls st) := by
  subst hp; subst hst
  obtain ⟨w1, locs, X, N, H⟩ := w
  have w1' := w1
  obtain ⟨hx, hZ, hown, hby, hml, -⟩ := w1
  obtain ⟨cq, qa, qb⟩ := (H.lk q).1.cell
  obtain ⟨c2, r2, m2, -, -, q3, -, kP, hkP, hkPi⟩ := Cond.selects_spec (mvT hZ k6 : (Cond.selects y'.cls y1 y1).before args s = true)
  have hpr : s.PrivateAt y' := Cond.privateMethod_at (mvP hZ k5 (args := #[]))
  have hsel : (Cond.selects y'.cls y' y').before args s = true := selects_self_of_private (hy1 ▸ findClass_of_methodNamed q3) hkP hkPi hpr (mvT hZ k7) hy
  obtain ⟨v, _, ⟨T', L', c', n'⟩, -, X', ⟨Lc, ⟨Ls', hQ, N', H'⟩, l', z1, z2⟩, st'⟩ := X.privateBack hx hown (mvT hZ k1) (mvT hZ k7) hsel hpr (mvT hZ k4) hy (backC (W := W) K H hZ k4 k3 hrm.1 hrm.2.1) (g := mkF m pc ls (argsL.reverse ++ .ref a :: rest)) rfl (by rw [hml]; exact hsz) (Steps.refl _) (a := a) qa qb (argsL := argsL) (rest := rest) (lenOf pd hpl) rfl (by show 2 * 0 + _ ≤ _; omega) (hb hby hd) (fun _ _ => ⟨has, rfl, hrm.2.2.1, hrm.2.2.2⟩)
  dsimp only [Pt.U, Pt.locs, Pt.cells, Pt.slots] at X' l' z1 z2 st' H'
  subst l' z1 z2
  exact Go.of (fun t q => st'.trans q) (G T' v Ls' hQ ⟨w1', _, X', Fr.app N N', H'⟩)
theorem s_initO {i : Nat} (W : Nat) (w : St p l e R s m args below meth c Z y bytes ml ret h0 n0 T Ls cells slots) (k1 : (Cond.methodLink y.cls i Lib.objectInit).before a0 Z = true) (k2 : (Cond.instanceMethod Lib.objectInit).before a0 Z = true) (k3 : (Cond.code Lib.objectInit ⟨#[0xb1]⟩ 1 none).before a0 Z = true) (hd : decode bytes pc = .ok (.invokespecial i, 3)) (hsz : ls.size = ml) (hf : 1 ≤ R.frames) (hW : (st.map fun v => v.category).sum ≤ W) (hl : W + 12 ≤ R.locals) (hp : pc + 3 = pc')
    (G : ∀ T', St p l e R s m args below meth c Z y bytes ml ret h0 n0 T' Ls cells slots → Go p e below F T' (mkF m pc' ls st)) : Go p e below F T (mkF m pc ls (.ref a :: st)) := by
  subst hp
  obtain ⟨w1, locs, X, N, H⟩ := w
  have w1' := w1
  obtain ⟨hx, hZ, hown, hby, hml, -⟩ := w1
  obtain ⟨T', X', e', st'⟩ := initO X hx hZ hown k1 k2 k3 rfl (g := mkF m pc ls (.ref a :: st)) rfl (by rw [hml]; exact hsz) rfl (hb hby hd) hf (W := W) (by show 2 * 0 + _ ≤ _; omega) hl
  exact Go.of st' (G T' ⟨w1', locs, X', N, by rw [e']; exact H⟩)

end Own

theorem cache_in {x : Int32} (h1 : ¬ x < -128) (h2 : ¬ (127 : Int32) < x) : ¬ (x + (128 : Int32)) < 0 ∧ (x + (128 : Int32)).toNatClampNeg < 256 := by
  have c1 : (-128 : Int32).toInt = -128 := by decide
  have c2 : (127 : Int32).toInt = 127 := by decide
  have c3 : (128 : Int32).toInt = 128 := by decide
  have c4 : (0 : Int32).toInt = 0 := rfl
  rw [Int32.lt_iff_toInt_lt] at h1 h2 ⊢
  rw [c1] at h1; rw [c2] at h2
  have e : (x + (128 : Int32)).toInt = x.toInt + 128 := by rw [Jvm.Free.XT.add32 (by rw [c3]; constructor <;> omega), c3]
  simp only [Int32.toNatClampNeg, e, c4]
  omega
theorem nar_ref {v : Value} {C : String} (h : v.isRef = true) : narrow (.object C) v = v := by rcases ref_cases h with rfl | ⟨a, rfl⟩ <;> rfl
theorem fit_ref {v : Value} {C : String} (h : v.isRef = true) : fits (.object C) v = true := by rcases ref_cases h with rfl | ⟨a, rfl⟩ <;> rfl

theorem own_eqI {args : Array Value} {s : State} {t : Term} {z : Int32} (h : (Cond.eq t (.int z)).value args s none s [] = some true) : t.eval args s none [] s = some (.int z) := by
  cases ht : t.eval args s none [] s with
  | none => simp [Cond.value, ht] at h
  | some x => cases x <;> simp [Cond.value, ht, Term.eval] at h ⊢; exact h
theorem own_len {args : Array Value} {s : State} {t : Term} {a : Addr} {cl : Cell} {z : Int32} (ev : t.eval args s none [] s = some (.ref a)) (ha : s.arrayAt? a = some cl) (h : (Cond.eq (.length t) (.int z)).value args s none s [] = some true) : cl.slots.size < 2 ^ 31 ∧ cl.slots.size.toInt32 = z := by
  have e := own_eqI h
  by_cases hl : cl.slots.size < 2 ^ 31
  · rw [len_f ev ha hl] at e
    exact ⟨hl, by simpa using e⟩
  · simp [Term.eval, ev, ha, hl] at e

abbrev aI (vs : List Value) : Ob := .inr (.int, vs)
abbrev aJ (vs : List Value) : Ob := .inr (.long, vs)
abbrev aO (vs : List Value) : Ob := .inr (.object "java/lang/Object", vs)
def Tw (Z : State) (a0 : Array Value) : Prop := ∀ d ∈ tables_1, d.before a0 Z = true
theorem t0 {Z : State} {a0 : Array Value} (hw : Tw Z a0) : ((Jvm.Cond.methodLink "org/tidemark/state/CurrentSetPinLaw" (7 : Nat) ({ cls := "java/lang/Integer", name := "valueOf", desc := "(I)Ljava/lang/Integer;" } : Jvm.MethodName))).before a0 Z = true := hw _ (List.mem_of_getElem? (i := 0) rfl)
theorem t1 {Z : State} {a0 : Array Value} (hw : Tw Z a0) : ((Jvm.Cond.static ({ cls := "java/lang/Integer", name := "valueOf", desc := "(I)Ljava/lang/Integer;" } : Jvm.MethodName))).before a0 Z = true := hw _ (List.mem_of_getElem? (i := 1) rfl)
theorem t2 {Z : State} {a0 : Array Value} (hw : Tw Z a0) : ((Jvm.Cond.initialized "java/lang/Integer")).before a0 Z = true := hw _ (List.mem_of_getElem? (i := 2) rfl)
theorem t3 {Z : State} {a0 : Array Value} (hw : Tw Z a0) : ((Jvm.Cond.code ({ cls := "java/lang/Integer", name := "valueOf", desc := "(I)Ljava/lang/Integer;" } : Jvm.MethodName) jdk_33_method_22_code (1 : Nat) (Option.some (Jvm.ClassFile.FieldType.object "java/lang/Integer")))).before a0 Z = true := hw _ (List.mem_of_getElem? (i := 3) rfl)
theorem t4 {Z : State} {a0 : Array Value} (hw : Tw Z a0) : ((Jvm.Cond.fieldLink "java/lang/Integer" (191 : Nat) "java/lang/Integer$IntegerCache" "high" "I")).before a0 Z = true := hw _ (List.mem_of_getElem? (i := 4) rfl)
theorem t6 {Z : State} {a0 : Array Value} (hw : Tw Z a0) : ((Jvm.Cond.fieldLink "java/lang/Integer" (195 : Nat) "java/lang/Integer$IntegerCache" "cache" "[Ljava/lang/Integer;")).before a0 Z = true := hw _ (List.mem_of_getElem? (i := 6) rfl)
theorem t7 {Z : State} {a0 : Array Value} (hw : Tw Z a0) : ((Jvm.Cond.classLink "org/tidemark/state/CurrentSetPinLaw" (13 : Nat) "org/tidemark/state/Current")).before a0 Z = true := hw _ (List.mem_of_getElem? (i := 7) rfl)
theorem t8 {Z : State} {a0 : Array Value} (hw : Tw Z a0) : ((Jvm.Cond.instantiable "org/tidemark/state/Current" (2 : Nat))).before a0 Z = true := hw _ (List.mem_of_getElem? (i := 8) rfl)
theorem t9 {Z : State} {a0 : Array Value} (hw : Tw Z a0) : ((Jvm.Cond.initialized "org/tidemark/state/Current")).before a0 Z = true := hw _ (List.mem_of_getElem? (i := 9) rfl)
theorem t10 {Z : State} {a0 : Array Value} (hw : Tw Z a0) : ((Jvm.Cond.methodLink "org/tidemark/state/CurrentSetPinLaw" (15 : Nat) ({ cls := "org/tidemark/state/Current", name := "<init>", desc := "()V" } : Jvm.MethodName))).before a0 Z = true := hw _ (List.mem_of_getElem? (i := 10) rfl)
theorem t11 {Z : State} {a0 : Array Value} (hw : Tw Z a0) : ((Jvm.Cond.instanceMethod ({ cls := "org/tidemark/state/Current", name := "<init>", desc := "()V" } : Jvm.MethodName))).before a0 Z = true := hw _ (List.mem_of_getElem? (i := 11) rfl)
theorem t12 {Z : State} {a0 : Array Value} (hw : Tw Z a0) : ((Jvm.Cond.code ({ cls := "org/tidemark/state/Current", name := "<init>", desc := "()V" } : Jvm.MethodName) prog_115_method_1_code (1 : Nat) (Option.none : Option Jvm.ClassFile.FieldType))).before a0 Z = true := hw _ (List.mem_of_getElem? (i := 12) rfl)
theorem t13 {Z : State} {a0 : Array Value} (hw : Tw Z a0) : ((Jvm.Cond.methodLink "org/tidemark/state/Current" (1 : Nat) ({ cls := "java/lang/Object", name := "<init>", desc := "()V" } : Jvm.MethodName))).before a0 Z = true := hw _ (List.mem_of_getElem? (i := 13) rfl)
theorem t14 {Z : State} {a0 : Array Value} (hw : Tw Z a0) : ((Jvm.Cond.instanceMethod ({ cls := "java/lang/Object", name := "<init>", desc := "()V" } : Jvm.MethodName))).before a0 Z = true := hw _ (List.mem_of_getElem? (i := 14) rfl)
theorem t15 {Z : State} {a0 : Array Value} (hw : Tw Z a0) : ((Jvm.Cond.code ({ cls := "java/lang/Object", name := "<init>", desc := "()V" } : Jvm.MethodName) object_method_1_code (1 : Nat) (Option.none : Option Jvm.ClassFile.FieldType))).before a0 Z = true := hw _ (List.mem_of_getElem? (i := 15) rfl)
theorem t16 {Z : State} {a0 : Array Value} (hw : Tw Z a0) : ((Jvm.Cond.methodLink "org/tidemark/state/CurrentSetPinLaw" (16 : Nat) ({ cls := "org/tidemark/state/Current", name := "sets", desc := "()J" } : Jvm.MethodName))).before a0 Z = true := hw _ (List.mem_of_getElem? (i := 16) rfl)
theorem t17 {Z : State} {a0 : Array Value} (hw : Tw Z a0) : ((Jvm.Cond.declares ({ cls := "org/tidemark/state/Current", name := "sets", desc := "()J" } : Jvm.MethodName))).before a0 Z = true := hw _ (List.mem_of_getElem? (i := 17) rfl)
theorem t18 {Z : State} {a0 : Array Value} (hw : Tw Z a0) : ((Jvm.Cond.instanceMethod ({ cls := "org/tidemark/state/Current", name := "sets", desc := "()J" } : Jvm.MethodName))).before a0 Z = true := hw _ (List.mem_of_getElem? (i := 18) rfl)
theorem t19 {Z : State} {a0 : Array Value} (hw : Tw Z a0) : ((Jvm.Cond.selects "org/tidemark/state/Current" ({ cls := "org/tidemark/state/Current", name := "sets", desc := "()J" } : Jvm.MethodName) ({ cls := "org/tidemark/state/Current", name := "sets", desc := "()J" } : Jvm.MethodName))).before a0 Z = true := hw _ (List.mem_of_getElem? (i := 19) rfl)
theorem t20 {Z : State} {a0 : Array Value} (hw : Tw Z a0) : ((Jvm.Cond.code ({ cls := "org/tidemark/state/Current", name := "sets", desc := "()J" } : Jvm.MethodName) prog_115_method_3_code (1 : Nat) (Option.some Jvm.ClassFile.FieldType.long))).before a0 Z = true := hw _ (List.mem_of_getElem? (i := 20) rfl)
theorem t21 {Z : State} {a0 : Array Value} (hw : Tw Z a0) : ((Jvm.Cond.fieldLink "org/tidemark/state/Current" (13 : Nat) "org/tidemark/state/Current" "sets" "J")).before a0 Z = true := hw _ (List.mem_of_getElem? (i := 21) rfl)
theorem t22 {Z : State} {a0 : Array Value} (hw : Tw Z a0) : ((Jvm.Cond.lays "org/tidemark/state/Current" "org/tidemark/state/Current" "sets" "J")).before a0 Z = true := hw _ (List.mem_of_getElem? (i := 22) rfl)
theorem t23 {Z : State} {a0 : Array Value} (hw : Tw Z a0) : ((Jvm.Cond.methodLink "org/tidemark/state/CurrentSetPinLaw" (20 : Nat) ({ cls := "org/tidemark/state/Current", name := "set", desc := "(Ljava/lang/Object;)Z" } : Jvm.MethodName))).before a0 Z = true := hw _ (List.mem_of_getElem? (i := 23) rfl)
theorem t24 {Z : State} {a0 : Array Value} (hw : Tw Z a0) : ((Jvm.Cond.declares ({ cls := "org/tidemark/state/Current", name := "set", desc := "(Ljava/lang/Object;)Z" } : Jvm.MethodName))).before a0 Z = true := hw _ (List.mem_of_getElem? (i := 24) rfl)
theorem t25 {Z : State} {a0 : Array Value} (hw : Tw Z a0) : ((Jvm.Cond.instanceMethod ({ cls := "org/tidemark/state/Current", name := "set", desc := "(Ljava/lang/Object;)Z" } : Jvm.MethodName))).before a0 Z = true := hw _ (List.mem_of_getElem? (i := 25) rfl)
theorem t26 {Z : State} {a0 : Array Value} (hw : Tw Z a0) : ((Jvm.Cond.selects "org/tidemark/state/Current" ({ cls := "org/tidemark/state/Current", name := "set", desc := "(Ljava/lang/Object;)Z" } : Jvm.MethodName) ({ cls := "org/tidemark/state/Current", name := "set", desc := "(Ljava/lang/Object;)Z" } : Jvm.MethodName))).before a0 Z = true := hw _ (List.mem_of_getElem? (i := 26) rfl)
theorem t27 {Z : State} {a0 : Array Value} (hw : Tw Z a0) : ((Jvm.Cond.code ({ cls := "org/tidemark/state/Current", name := "set", desc := "(Ljava/lang/Object;)Z" } : Jvm.MethodName) prog_115_method_4_code (2 : Nat) (Option.some Jvm.ClassFile.FieldType.boolean))).before a0 Z = true := hw _ (List.mem_of_getElem? (i := 27) rfl)
theorem t28 {Z : State} {a0 : Array Value} (hw : Tw Z a0) : ((Jvm.Cond.fieldLink "org/tidemark/state/Current" (7 : Nat) "org/tidemark/state/Current" "held" "Ljava/lang/Object;")).before a0 Z = true := hw _ (List.mem_of_getElem? (i := 28) rfl)
theorem t29 {Z : State} {a0 : Array Value} (hw : Tw Z a0) : ((Jvm.Cond.lays "org/tidemark/state/Current" "org/tidemark/state/Current" "held" "Ljava/lang/Object;")).before a0 Z = true := hw _ (List.mem_of_getElem? (i := 29) rfl)
theorem t30 {Z : State} {a0 : Array Value} (hw : Tw Z a0) : ((Jvm.Cond.constantLong "org/tidemark/state/Current" (17 : Nat) (4095 : Int64))).before a0 Z = true := hw _ (List.mem_of_getElem? (i := 30) rfl)
theorem t31 {Z : State} {a0 : Array Value} (hw : Tw Z a0) : ((Jvm.Cond.methodLink "org/tidemark/state/CurrentSetPinLaw" (24 : Nat) ({ cls := "org/tidemark/state/Current", name := "get", desc := "()Ljava/lang/Object;" } : Jvm.MethodName))).before a0 Z = true := hw _ (List.mem_of_getElem? (i := 31) rfl)
theorem t32 {Z : State} {a0 : Array Value} (hw : Tw Z a0) : ((Jvm.Cond.declares ({ cls := "org/tidemark/state/Current", name := "get", desc := "()Ljava/lang/Object;" } : Jvm.MethodName))).before a0 Z = true := hw _ (List.mem_of_getElem? (i := 32) rfl)
theorem t33 {Z : State} {a0 : Array Value} (hw : Tw Z a0) : ((Jvm.Cond.instanceMethod ({ cls := "org/tidemark/state/Current", name := "get", desc := "()Ljava/lang/Object;" } : Jvm.MethodName))).before a0 Z = true := hw _ (List.mem_of_getElem? (i := 33) rfl)
theorem t34 {Z : State} {a0 : Array Value} (hw : Tw Z a0) : ((Jvm.Cond.selects "org/tidemark/state/Current" ({ cls := "org/tidemark/state/Current", name := "get", desc := "()Ljava/lang/Object;" } : Jvm.MethodName) ({ cls := "org/tidemark/state/Current", name := "get", desc := "()Ljava/lang/Object;" } : Jvm.MethodName))).before a0 Z = true := hw _ (List.mem_of_getElem? (i := 34) rfl)
theorem t35 {Z : State} {a0 : Array Value} (hw : Tw Z a0) : ((Jvm.Cond.code ({ cls := "org/tidemark/state/Current", name := "get", desc := "()Ljava/lang/Object;" } : Jvm.MethodName) prog_115_method_2_code (1 : Nat) (Option.some (Jvm.ClassFile.FieldType.object "java/lang/Object")))).before a0 Z = true := hw _ (List.mem_of_getElem? (i := 35) rfl)
theorem t36 {Z : State} {a0 : Array Value} (hw : Tw Z a0) : ((Jvm.Cond.constantLong "org/tidemark/state/CurrentSetPinLaw" (28 : Nat) (2 : Int64))).before a0 Z = true := hw _ (List.mem_of_getElem? (i := 36) rfl)
theorem t37 {Z : State} {a0 : Array Value} (hw : Tw Z a0) : ((Jvm.Cond.classLink "java/lang/Integer" (1 : Nat) "java/lang/Integer")).before a0 Z = true := hw _ (List.mem_of_getElem? (i := 37) rfl)
theorem t38 {Z : State} {a0 : Array Value} (hw : Tw Z a0) : ((Jvm.Cond.instantiable "java/lang/Integer" (1 : Nat))).before a0 Z = true := hw _ (List.mem_of_getElem? (i := 38) rfl)
theorem t39 {Z : State} {a0 : Array Value} (hw : Tw Z a0) : ((Jvm.Cond.methodLink "java/lang/Integer" (199 : Nat) ({ cls := "java/lang/Integer", name := "<init>", desc := "(I)V" } : Jvm.MethodName))).before a0 Z = true := hw _ (List.mem_of_getElem? (i := 39) rfl)
theorem t40 {Z : State} {a0 : Array Value} (hw : Tw Z a0) : ((Jvm.Cond.instanceMethod ({ cls := "java/lang/Integer", name := "<init>", desc := "(I)V" } : Jvm.MethodName))).before a0 Z = true := hw _ (List.mem_of_getElem? (i := 40) rfl)
theorem t42 {Z : State} {a0 : Array Value} (hw : Tw Z a0) : ((Jvm.Cond.code ({ cls := "java/lang/Integer", name := "<init>", desc := "(I)V" } : Jvm.MethodName) jdk_33_method_23_code (2 : Nat) (Option.none : Option Jvm.ClassFile.FieldType))).before a0 Z = true := hw _ (List.mem_of_getElem? (i := 42) rfl)
theorem t43 {Z : State} {a0 : Array Value} (hw : Tw Z a0) : ((Jvm.Cond.methodLink "java/lang/Integer" (202 : Nat) ({ cls := "java/lang/Number", name := "<init>", desc := "()V" } : Jvm.MethodName))).before a0 Z = true := hw _ (List.mem_of_getElem? (i := 43) rfl)
theorem t44 {Z : State} {a0 : Array Value} (hw : Tw Z a0) : ((Jvm.Cond.instanceMethod ({ cls := "java/lang/Number", name := "<init>", desc := "()V" } : Jvm.MethodName))).before a0 Z = true := hw _ (List.mem_of_getElem? (i := 44) rfl)
theorem t47 {Z : State} {a0 : Array Value} (hw : Tw Z a0) : ((Jvm.Cond.initialized "java/lang/Number")).before a0 Z = true := hw _ (List.mem_of_getElem? (i := 47) rfl)
theorem t48 {Z : State} {a0 : Array Value} (hw : Tw Z a0) : ((Jvm.Cond.code ({ cls := "java/lang/Number", name := "<init>", desc := "()V" } : Jvm.MethodName) jdk_18_method_1_code (1 : Nat) (Option.none : Option Jvm.ClassFile.FieldType))).before a0 Z = true := hw _ (List.mem_of_getElem? (i := 48) rfl)
theorem t49 {Z : State} {a0 : Array Value} (hw : Tw Z a0) : ((Jvm.Cond.methodLink "java/lang/Number" (1 : Nat) ({ cls := "java/lang/Object", name := "<init>", desc := "()V" } : Jvm.MethodName))).before a0 Z = true := hw _ (List.mem_of_getElem? (i := 49) rfl)
theorem t50 {Z : State} {a0 : Array Value} (hw : Tw Z a0) : ((Jvm.Cond.fieldLink "java/lang/Integer" (205 : Nat) "java/lang/Integer" "value" "I")).before a0 Z = true := hw _ (List.mem_of_getElem? (i := 50) rfl)
theorem t51 {Z : State} {a0 : Array Value} (hw : Tw Z a0) : ((Jvm.Cond.laysFinal "java/lang/Integer" "java/lang/Integer" "value" "I")).before a0 Z = true := hw _ (List.mem_of_getElem? (i := 51) rfl)
def fs0 : List (String × String × String) := [("java/lang/Integer", "value", "I")]
abbrev o0 (w0 : Value) : Ob := .inl ("java/lang/Integer", fs0, [w0])
theorem cls0 {Z : State} {a0 : Array Value} (hw : Tw Z a0) : Cls Z a0 "java/lang/Integer" 1 fs0 := by
  refine ⟨(t38 hw), fun i f hf => ?_, fun i j f g hf hg e => ?_⟩
  · match i, hf with
    | 0, hf => cases (Option.some.inj hf); exact ⟨Or.inr (t51 hw), .int, by decide +kernel⟩
    | (i + 1), hf => exact absurd hf (by simp [fs0])
  · have hi : i < 1 := (List.getElem?_eq_some_iff.mp hf).1
    have hj : j < 1 := (List.getElem?_eq_some_iff.mp hg).1
    have key : ∀ (i j : Fin 1), (fs0[i.val]?.map (·.2.1)) = (fs0[j.val]?.map (·.2.1)) → i = j := by decide +kernel
    exact congrArg Fin.val (key ⟨i, hi⟩ ⟨j, hj⟩ (by simp only [hf, hg, Option.map_some, e]))
def fs1 : List (String × String × String) := [("org/tidemark/state/Current", "sets", "J"), ("org/tidemark/state/Current", "held", "Ljava/lang/Object;")]
abbrev o1 (w0 w1 : Value) : Ob := .inl ("org/tidemark/state/Current", fs1, [w0, w1])
theorem cls1 {Z : State} {a0 : Array Value} (hw : Tw Z a0) : Cls Z a0 "org/tidemark/state/Current" 2 fs1 := by
  refine ⟨(t8 hw), fun i f hf => ?_, fun i j f g hf hg e => ?_⟩
  · match i, hf with
    | 0, hf => cases (Option.some.inj hf); exact ⟨Or.inl (t22 hw), .long, by decide +kernel⟩
    | 1, hf => cases (Option.some.inj hf); exact ⟨Or.inl (t29 hw), (.object "java/lang/Object"), by decide +kernel⟩
    | (i + 2), hf => exact absurd hf (by simp [fs1])
  · have hi : i < 2 := (List.getElem?_eq_some_iff.mp hf).1
    have hj : j < 2 := (List.getElem?_eq_some_iff.mp hg).1
    have key : ∀ (i j : Fin 2), (fs1[i.val]?.map (·.2.1)) = (fs1[j.val]?.map (·.2.1)) → i = j := by decide +kernel
    exact congrArg Fin.val (key ⟨i, hi⟩ ⟨j, hj⟩ (by simp only [hf, hg, Option.map_some, e]))
theorem pd0 : parseMethodDescriptor "()V" = some ⟨[], none⟩ := by decide +kernel
theorem pd1 : parseMethodDescriptor "(I)V" = some ⟨[.int], none⟩ := by decide +kernel
theorem pd2 : parseMethodDescriptor "(I)Ljava/lang/Integer;" = some ⟨[.int], some (.object "java/lang/Integer")⟩ := by decide +kernel
theorem pd3 : parseMethodDescriptor "()J" = some ⟨[], some .long⟩ := by decide +kernel
theorem pd4 : parseMethodDescriptor "(Ljava/lang/Object;)Z" = some ⟨[(.object "java/lang/Object")], some .boolean⟩ := by decide +kernel
theorem pd5 : parseMethodDescriptor "()Ljava/lang/Object;" = some ⟨[], some (.object "java/lang/Object")⟩ := by decide +kernel
theorem pn0 : plainName "java/lang/Number" = true := by first | (simp [plainName, overriddenIn]; done) | decide +kernel
theorem pn1 : plainName "org/tidemark/state/Current" = true := by first | (simp [plainName, overriddenIn]; done) | decide +kernel
theorem pn2 : plainName "java/lang/Integer" = true := by first | (simp [plainName, overriddenIn]; done) | decide +kernel
theorem pn3 : plainName "org/tidemark/state/CurrentSetPinLaw" = true := by first | (simp [plainName, overriddenIn]; done) | decide +kernel
theorem d1_0 : decode jdk_33_method_22_code 0 = .ok (.iload_n 0, 1) := by decide +kernel
theorem d1_1 : decode jdk_33_method_22_code 1 = .ok (.bipush (-128), 2) := by decide +kernel
theorem d1_3 : decode jdk_33_method_22_code 3 = .ok (.if_icmp .lt 20, 3) := by decide +kernel
theorem d1_6 : decode jdk_33_method_22_code 6 = .ok (.iload_n 0, 1) := by decide +kernel
theorem d1_7 : decode jdk_33_method_22_code 7 = .ok (.getstatic 191, 3) := by decide +kernel
theorem d1_10 : decode jdk_33_method_22_code 10 = .ok (.if_icmp .gt 13, 3) := by decide +kernel
theorem d1_13 : decode jdk_33_method_22_code 13 = .ok (.getstatic 195, 3) := by decide +kernel
theorem d1_16 : decode jdk_33_method_22_code 16 = .ok (.iload_n 0, 1) := by decide +kernel
theorem d1_17 : decode jdk_33_method_22_code 17 = .ok (.sipush 128, 3) := by decide +kernel
theorem d1_20 : decode jdk_33_method_22_code 20 = .ok (.iadd, 1) := by decide +kernel
theorem d1_21 : decode jdk_33_method_22_code 21 = .ok (.aaload, 1) := by decide +kernel
theorem d1_22 : decode jdk_33_method_22_code 22 = .ok (.areturn, 1) := by decide +kernel
theorem d1_23 : decode jdk_33_method_22_code 23 = .ok (.new 1, 3) := by decide +kernel
theorem d1_26 : decode jdk_33_method_22_code 26 = .ok (.dup, 1) := by decide +kernel
theorem d1_27 : decode jdk_33_method_22_code 27 = .ok (.iload_n 0, 1) := by decide +kernel
theorem d1_28 : decode jdk_33_method_22_code 28 = .ok (.invokespecial 199, 3) := by decide +kernel
theorem d1_31 : decode jdk_33_method_22_code 31 = .ok (.areturn, 1) := by decide +kernel
theorem d2_0 : decode prog_115_method_1_code 0 = .ok (.aload_n 0, 1) := by decide +kernel
theorem d2_1 : decode prog_115_method_1_code 1 = .ok (.invokespecial 1, 3) := by decide +kernel
theorem d2_4 : decode prog_115_method_1_code 4 = .ok (.return_, 1) := by decide +kernel
theorem d4_0 : decode prog_115_method_3_code 0 = .ok (.aload_n 0, 1) := by decide +kernel
theorem d4_1 : decode prog_115_method_3_code 1 = .ok (.getfield 13, 3) := by decide +kernel
theorem d4_4 : decode prog_115_method_3_code 4 = .ok (.lreturn, 1) := by decide +kernel
theorem d5_0 : decode prog_115_method_4_code 0 = .ok (.aload_n 0, 1) := by decide +kernel
theorem d5_1 : decode prog_115_method_4_code 1 = .ok (.aload_n 1, 1) := by decide +kernel
theorem d5_2 : decode prog_115_method_4_code 2 = .ok (.putfield 7, 3) := by decide +kernel
theorem d5_5 : decode prog_115_method_4_code 5 = .ok (.aload_n 0, 1) := by decide +kernel
theorem d5_6 : decode prog_115_method_4_code 6 = .ok (.dup, 1) := by decide +kernel
theorem d5_7 : decode prog_115_method_4_code 7 = .ok (.getfield 13, 3) := by decide +kernel
theorem d5_10 : decode prog_115_method_4_code 10 = .ok (.lconst 1, 1) := by decide +kernel
theorem d5_11 : decode prog_115_method_4_code 11 = .ok (.ladd, 1) := by decide +kernel
theorem d5_12 : decode prog_115_method_4_code 12 = .ok (.dup2_x1, 1) := by decide +kernel
theorem d5_13 : decode prog_115_method_4_code 13 = .ok (.putfield 13, 3) := by decide +kernel
theorem d5_16 : decode prog_115_method_4_code 16 = .ok (.ldc2_w 17, 3) := by decide +kernel
theorem d5_19 : decode prog_115_method_4_code 19 = .ok (.land, 1) := by decide +kernel
theorem d5_20 : decode prog_115_method_4_code 20 = .ok (.lconst 0, 1) := by decide +kernel
theorem d5_21 : decode prog_115_method_4_code 21 = .ok (.lcmp, 1) := by decide +kernel
theorem d5_22 : decode prog_115_method_4_code 22 = .ok (.ifCond .eq 7, 3) := by decide +kernel
theorem d5_25 : decode prog_115_method_4_code 25 = .ok (.iconst 1, 1) := by decide +kernel
theorem d5_26 : decode prog_115_method_4_code 26 = .ok (.goto 4, 3) := by decide +kernel
theorem d5_29 : decode prog_115_method_4_code 29 = .ok (.iconst 0, 1) := by decide +kernel
theorem d5_30 : decode prog_115_method_4_code 30 = .ok (.ireturn, 1) := by decide +kernel
theorem d6_0 : decode prog_115_method_2_code 0 = .ok (.aload_n 0, 1) := by decide +kernel
theorem d6_1 : decode prog_115_method_2_code 1 = .ok (.getfield 7, 3) := by decide +kernel
theorem d6_4 : decode prog_115_method_2_code 4 = .ok (.areturn, 1) := by decide +kernel
theorem d7_0 : decode jdk_33_method_23_code 0 = .ok (.aload_n 0, 1) := by decide +kernel
theorem d7_1 : decode jdk_33_method_23_code 1 = .ok (.invokespecial 202, 3) := by decide +kernel
theorem d7_4 : decode jdk_33_method_23_code 4 = .ok (.aload_n 0, 1) := by decide +kernel
theorem d7_5 : decode jdk_33_method_23_code 5 = .ok (.iload_n 1, 1) := by decide +kernel
theorem d7_6 : decode jdk_33_method_23_code 6 = .ok (.putfield 205, 3) := by decide +kernel
theorem d7_9 : decode jdk_33_method_23_code 9 = .ok (.return_, 1) := by decide +kernel
theorem d8_0 : decode jdk_18_method_1_code 0 = .ok (.aload_n 0, 1) := by decide +kernel
theorem d8_1 : decode jdk_18_method_1_code 1 = .ok (.invokespecial 1, 3) := by decide +kernel
theorem d8_4 : decode jdk_18_method_1_code 4 = .ok (.return_, 1) := by decide +kernel
set_option maxRecDepth 65536 in
set_option maxHeartbeats 40000000 in
theorem c_num {Z : State} {a0 : Array Value} (hw : Tw Z a0) (l : Launch) (h0 : Heap) (n0 : Nat) (a : Addr) (Ls : List Ob) :
    Met1 l Z (⟨"java/lang/Number", "<init>", "()V"⟩ : MethodName) jdk_18_method_1_code 1 none ({ frames := 1, cells := 0, slots := 0, locals := 12 } : Room) #[(.ref a)] h0 n0 Ls (fun v L => v = none ∧ L = Ls) [] := by
  refine Met1.of (ls := #[.val (.ref a)]) (plainFor_of_name pn0) (fun m => by first | (simp [entryFrame, mkF, argsToLocals, Value.category]; done) | rfl) ?_
  intro p e s m below meth c T w
  refine s_aloadN (pc' := 1) w d8_0 rfl rfl rfl ?_
  refine s_initO (pc' := 4) 0 w (t49 hw) (t14 hw) (t15 hw) d8_1 rfl (by decide) (Nat.le_of_eq rfl) (by decide) rfl ?_
  intro T w
  exact s_return w d8_4 (by decide) (by decide) ⟨rfl, rfl⟩
set_option maxRecDepth 65536 in
set_option maxHeartbeats 40000000 in
theorem c_cur {Z : State} {a0 : Array Value} (hw : Tw Z a0) (l : Launch) (h0 : Heap) (n0 : Nat) (a : Addr) (Ls : List Ob) :
    Met1 l Z (⟨"org/tidemark/state/Current", "<init>", "()V"⟩ : MethodName) prog_115_method_1_code 1 none ({ frames := 1, cells := 0, slots := 0, locals := 12 } : Room) #[(.ref a)] h0 n0 Ls (fun v L => v = none ∧ L = Ls) [] := by
  refine Met1.of (ls := #[.val (.ref a)]) (plainFor_of_name pn1) (fun m => by first | (simp [entryFrame, mkF, argsToLocals, Value.category]; done) | rfl) ?_
  intro p e s m below meth c T w
  refine s_aloadN (pc' := 1) w d2_0 rfl rfl rfl ?_
  refine s_initO (pc' := 4) 0 w (t13 hw) (t14 hw) (t15 hw) d2_1 rfl (by decide) (Nat.le_of_eq rfl) (by decide) rfl ?_
  intro T w
  exact s_return w d2_4 (by decide) (by decide) ⟨rfl, rfl⟩
set_option maxRecDepth 65536 in
set_option maxHeartbeats 40000000 in
theorem c_int {Z : State} {a0 : Array Value} (hw : Tw Z a0) (l : Launch) (h0 : Heap) (n0 : Nat) (k : Nat) (x1 : Int32) (Ls : List Ob) (hk : Ls[k]? = some (.inl ("java/lang/Integer", fs0, [.int 0]))) :
    Met1 l Z (⟨"java/lang/Integer", "<init>", "(I)V"⟩ : MethodName) jdk_33_method_23_code 2 none ({ frames := 2, cells := 0, slots := 0, locals := 24 } : Room) #[(.ref (n0 + k)), (.int x1)] h0 n0 Ls (fun v L => v = none ∧ L = Ls.set k (.inl ("java/lang/Integer", fs0, [.int x1]))) [] := by
  refine Met1.of (ls := #[.val (.ref (n0 + k)), .val (.int x1)]) (plainFor_of_name pn2) (fun m => by first | (simp [entryFrame, mkF, argsToLocals, Value.category]; done) | rfl) ?_
  intro p e s m below meth c T w
  refine s_aloadN (pc' := 1) w d7_0 rfl rfl rfl ?_
  refine s_special (pc' := 4) (rest := []) 0 [] w (c_num hw l h0 n0 (n0 + k) Ls) rfl (t43 hw) (t44 hw) (t47 hw) (t48 hw) (by decide) pd0 d7_1 ⟨by decide, by decide, by decide, by decide⟩ rfl rfl rfl rfl (Nat.le_of_eq rfl) rfl ?_
  intro T v L' hQ w
  obtain ⟨rfl, hL⟩ := hQ
  replace hL := hL.symm
  subst hL
  change Go p e below _ T (mkF m 4 #[.val (.ref (n0 + k)), .val (.int x1)] [])
  refine s_aloadN (pc' := 5) w d7_4 rfl rfl rfl ?_
  refine s_iloadN (pc' := 6) w d7_5 rfl rfl ?_
  refine s_put (pc' := 9) (host := "") (k := k) w (Or.inl (t50 hw)) Via.refl (cls0 hw) hk (j := 0) rfl (Nat.le_of_ble_eq_true rfl) (Or.inr ⟨(t51 hw), rfl, rfl⟩) (ty := .int) (by decide) rfl rfl d7_6 rfl ?_
  intro T w
  exact s_return w d7_9 (by decide) (by decide) ⟨rfl, rfl⟩
set_option maxRecDepth 65536 in
set_option maxHeartbeats 40000000 in
theorem c_valueOf {Z : State} {a0 : Array Value} (hw : Tw Z a0) (l : Launch) (h0 : Heap) (n0 : Nat) (x1 : Int32) (ca : Addr) (cl : Cell) (Ls : List Ob) (S1 : Sta Z h0 "java/lang/Integer$IntegerCache" "high" "I" (.int 127)) (S2 : Sta Z h0 "java/lang/Integer$IntegerCache" "cache" "[Ljava/lang/Integer;" (.ref ca)) (A : Arr Z h0 ca cl (.object "java/lang/Integer")) (hs : cl.slots.size = 256) (hel : ∀ i, i < 256 → ∃ v, cl.slots[i]? = some v ∧ v.isRef = true) :
    Met1 l Z (⟨"java/lang/Integer", "valueOf", "(I)Ljava/lang/Integer;"⟩ : MethodName) jdk_33_method_22_code 1 (some (.object "java/lang/Integer")) ({ frames := 3, cells := 1, slots := 1, locals := 38 } : Room) #[(.int x1)] h0 n0 Ls (fun v L => ∃ r, v = some r ∧ r.isRef = true) [] := by
  refine Met1.of (ls := #[.val (.int x1)]) (plainFor_of_name pn2) (fun m => by first | (simp [entryFrame, mkF, argsToLocals, Value.category]; done) | rfl) ?_
  intro p e s m below meth c T w
  refine s_iloadN (pc' := 1) w d1_0 rfl rfl ?_
  refine s_bipush (pc' := 3) (-128 : Int32) w d1_1 (by decide) rfl ?_
  by_cases h1 : x1 < -128
  · refine s_icmpY (pc' := 23) w d1_3 (Jvm.Free.XT.ii_lt_t h1) (by decide) (by decide) ?_
    refine s_new (pc' := 26) [(.int 0)] w (t37 hw) (t2 hw) (cls0 hw) d1_23 ?_ (by decide) (by decide) (Ls.length) rfl rfl ?_
    · intro j f v h1 h2
      match j, h1, h2 with
      | 0, h1, h2 => cases (Option.some.inj h1); cases (Option.some.inj h2); exact ⟨.int, by decide +kernel, rfl⟩
      | (i + 1), h1, _ => exact absurd h1 (by simp [fs0])
    intro T w
    refine s_dup (pc' := 27) w d1_26 rfl rfl ?_
    refine s_iloadN (pc' := 28) w d1_27 rfl rfl ?_
    refine s_special (pc' := 31) (rest := [(.ref (n0 + Ls.length))]) 1 [(.int x1)] w (c_int hw l h0 n0 Ls.length x1 (Ls ++ [.inl ("java/lang/Integer", fs0, [(.int 0)])]) lk_last) rfl (t39 hw) (t40 hw) (t2 hw) (t42 hw) (by decide) pd1 d1_28 ⟨by decide, by decide, by decide, by decide⟩ rfl rfl rfl rfl (Nat.le_of_eq rfl) rfl ?_
    intro T v L' hQ w
    obtain ⟨rfl, hL⟩ := hQ
    replace hL := hL.symm
    subst hL
    change Go p e below _ T (mkF m 31 #[.val (.int x1)] [(.ref (n0 + Ls.length))])
    exact s_areturn w d1_31 rfl rfl (by decide) (by decide) ⟨_, rfl, rfl⟩
  · refine s_icmpN (pc' := 6) w d1_3 (Jvm.Free.XT.ii_lt_f h1) rfl ?_
    refine s_iloadN (pc' := 7) w d1_6 rfl rfl ?_
    refine s_getS (pc' := 10) (host := "") w (Or.inl (t4 hw)) Via.refl S1 d1_7 rfl ?_
    intro T w
    by_cases h2 : (127 : Int32) < x1
    · refine s_icmpY (pc' := 23) w d1_10 (Jvm.Free.XT.ii_gt_t h2) (by decide) (by decide) ?_
      refine s_new (pc' := 26) [(.int 0)] w (t37 hw) (t2 hw) (cls0 hw) d1_23 ?_ (by decide) (by decide) (Ls.length) rfl rfl ?_
      · intro j f v h1 h2
        match j, h1, h2 with
        | 0, h1, h2 => cases (Option.some.inj h1); cases (Option.some.inj h2); exact ⟨.int, by decide +kernel, rfl⟩
        | (i + 1), h1, _ => exact absurd h1 (by simp [fs0])
      intro T w
      refine s_dup (pc' := 27) w d1_26 rfl rfl ?_
      refine s_iloadN (pc' := 28) w d1_27 rfl rfl ?_
      refine s_special (pc' := 31) (rest := [(.ref (n0 + Ls.length))]) 1 [(.int x1)] w (c_int hw l h0 n0 Ls.length x1 (Ls ++ [.inl ("java/lang/Integer", fs0, [(.int 0)])]) lk_last) rfl (t39 hw) (t40 hw) (t2 hw) (t42 hw) (by decide) pd1 d1_28 ⟨by decide, by decide, by decide, by decide⟩ rfl rfl rfl rfl (Nat.le_of_eq rfl) rfl ?_
      intro T v L' hQ w
      obtain ⟨rfl, hL⟩ := hQ
      replace hL := hL.symm
      subst hL
      change Go p e below _ T (mkF m 31 #[.val (.int x1)] [(.ref (n0 + Ls.length))])
      exact s_areturn w d1_31 rfl rfl (by decide) (by decide) ⟨_, rfl, rfl⟩
    · refine s_icmpN (pc' := 13) w d1_10 (Jvm.Free.XT.ii_gt_f h2) rfl ?_
      refine s_getS (pc' := 16) (host := "") w (Or.inl (t6 hw)) Via.refl S2 d1_13 rfl ?_
      intro T w
      refine s_iloadN (pc' := 17) w d1_16 rfl rfl ?_
      refine s_sipush (pc' := 20) (128 : Int32) w d1_17 (by decide) rfl ?_
      refine s_iadd (pc' := 21) w d1_20 rfl ?_
      obtain ⟨g1, g2⟩ := cache_in h1 h2
      obtain ⟨r, hr, hrr⟩ := hel _ g2
      refine s_aaloadA (pc' := 22) (v := r) w A rfl d1_21 (by rw [hs]; exact fun q => q.elim g1 (fun q => absurd g2 (Nat.not_lt.mpr q))) hr rfl ?_
      exact s_areturn w d1_22 rfl hrr (by decide) (by decide) ⟨_, rfl, hrr⟩
set_option maxRecDepth 65536 in
set_option maxHeartbeats 40000000 in
theorem c_sets {Z : State} {a0 : Array Value} (hw : Tw Z a0) (l : Launch) (h0 : Heap) (n0 : Nat) (a : Addr) (s1 : Int64) (u : Value) (Ls : List Ob) (q : Lk Z h0 n0 Ls a (.inl ("org/tidemark/state/Current", fs1, [.long s1, u]))) :
    Met1 l Z (⟨"org/tidemark/state/Current", "sets", "()J"⟩ : MethodName) prog_115_method_3_code 1 (some .long) ({ frames := 0, cells := 0, slots := 0, locals := 0 } : Room) #[(.ref a)] h0 n0 Ls (fun v L => v = some (.long s1) ∧ L = Ls) [] := by
  refine Met1.of (ls := #[.val (.ref a)]) (plainFor_of_name pn1) (fun m => by first | (simp [entryFrame, mkF, argsToLocals, Value.category]; done) | rfl) ?_
  intro p e s m below meth c T w
  refine s_aloadN (pc' := 1) w d4_0 rfl rfl rfl ?_
  refine s_getL (pc' := 4) (host := "") w (Or.inl (t21 hw)) Via.refl q (j := 0) rfl rfl d4_1 rfl ?_
  intro T w
  exact s_lreturn w d4_4 (by decide) (by decide) ⟨rfl, rfl⟩
set_option maxRecDepth 65536 in
set_option maxHeartbeats 40000000 in
theorem c_get {Z : State} {a0 : Array Value} (hw : Tw Z a0) (l : Launch) (h0 : Heap) (n0 : Nat) (a : Addr) (s1 : Int64) (u : Value) (Ls : List Ob) (q : Lk Z h0 n0 Ls a (.inl ("org/tidemark/state/Current", fs1, [.long s1, u]))) (hu : u.isRef = true) :
    Met1 l Z (⟨"org/tidemark/state/Current", "get", "()Ljava/lang/Object;"⟩ : MethodName) prog_115_method_2_code 1 (some (.object "java/lang/Object")) ({ frames := 0, cells := 0, slots := 0, locals := 0 } : Room) #[(.ref a)] h0 n0 Ls (fun v L => v = some u ∧ L = Ls) [] := by
  refine Met1.of (ls := #[.val (.ref a)]) (plainFor_of_name pn1) (fun m => by first | (simp [entryFrame, mkF, argsToLocals, Value.category]; done) | rfl) ?_
  intro p e s m below meth c T w
  refine s_aloadN (pc' := 1) w d6_0 rfl rfl rfl ?_
  refine s_getL (pc' := 4) (host := "") w (Or.inl (t28 hw)) Via.refl q (j := 1) rfl rfl d6_1 rfl ?_
  intro T w
  exact s_areturn w d6_4 rfl hu (by decide) (by decide) ⟨rfl, rfl⟩
set_option maxRecDepth 65536 in
set_option maxHeartbeats 40000000 in
theorem c_set {Z : State} {a0 : Array Value} (hw : Tw Z a0) (l : Launch) (h0 : Heap) (n0 : Nat) (k : Nat) (s1 : Int64) (u u0 : Value) (Ls : List Ob) (hk : Ls[k]? = some (.inl ("org/tidemark/state/Current", fs1, [.long s1, u0]))) (hu : u.isRef = true) :
    Met1 l Z (⟨"org/tidemark/state/Current", "set", "(Ljava/lang/Object;)Z"⟩ : MethodName) prog_115_method_4_code 2 (some .boolean) ({ frames := 0, cells := 0, slots := 0, locals := 0 } : Room) #[(.ref (n0 + k)), u] h0 n0 Ls (fun v L => v = some (.int (if (s1 + 1) &&& 4095 = 0 then 0 else 1)) ∧ L = Ls.set k (.inl ("org/tidemark/state/Current", fs1, [.long (s1 + 1), u]))) [] := by
  refine Met1.of (ls := #[.val (.ref (n0 + k)), .val u]) (plainFor_of_name pn1) (fun m => by first | (simp [entryFrame, mkF, argsToLocals, Value.category]; done) | rfl | (rcases ref_cases hu with rfl | ⟨_, rfl⟩ <;> rfl)) ?_
  intro p e s m below meth c T w
  refine s_aloadN (pc' := 1) w d5_0 rfl rfl rfl ?_
  refine s_aloadN (pc' := 2) w d5_1 rfl hu rfl ?_
  refine s_put (pc' := 5) (host := "") (k := k) w (Or.inl (t28 hw)) Via.refl (cls1 hw) hk (j := 1) rfl (Nat.le_of_ble_eq_true rfl) (Or.inl (t29 hw)) (ty := (.object "java/lang/Object")) (by decide) (nar_ref hu) (fit_ref hu) d5_2 rfl ?_
  intro T w
  refine s_aloadN (pc' := 6) w d5_5 rfl rfl rfl ?_
  refine s_dup (pc' := 7) w d5_6 rfl rfl ?_
  refine s_getL (pc' := 10) (host := "") w (Or.inl (t21 hw)) Via.refl (Lk.new (lk_set hk)) (j := 0) rfl rfl d5_7 rfl ?_
  intro T w
  refine s_lconst (pc' := 11) (1 : Int64) w d5_10 (by decide) rfl ?_
  refine s_ladd (pc' := 12) w d5_11 rfl ?_
  refine s_dup2_x1L (pc' := 13) w d5_12 rfl rfl ?_
  refine s_put (pc' := 16) (host := "") (k := k) w (Or.inl (t21 hw)) Via.refl (cls1 hw) (lk_set hk) (j := 0) rfl (Nat.le_of_ble_eq_true rfl) (Or.inl (t22 hw)) (ty := .long) (by decide) rfl rfl d5_13 rfl ?_
  intro T w
  refine s_ldc2 (pc' := 19) w (t30 hw) d5_16 rfl ?_
  refine s_land (pc' := 20) w d5_19 rfl ?_
  refine s_lconst (pc' := 21) (0 : Int64) w d5_20 (by decide) rfl ?_
  refine s_lcmp (pc' := 22) w d5_21 rfl ?_
  refine Go.via (T' := T) (g' := (mkF m 30 #[.val (.ref (n0 + k)), .val u] [(.int (if (s1 + 1) &&& 4095 = 0 then (0 : Int32) else (1 : Int32)))])) ?_ ?_
  · intro K
    by_cases h : (s1 + 1) &&& 4095 = 0
    · refine s_ifY (pc' := 29) w d5_22 (Jvm.Free.XT.ll_eq_t h) (by decide) (by decide) ?_
      refine s_iconst (pc' := 30) (0 : Int32) w d5_29 (by decide) rfl ?_
      exact Go.cast (by rw [if_pos h]) K
    · refine s_ifN (pc' := 25) w d5_22 (Jvm.Free.XT.ll_eq_f h) rfl ?_
      refine s_iconst (pc' := 26) (1 : Int32) w d5_25 (by decide) rfl ?_
      refine s_goto (pc' := 30) w d5_26 (by decide) (by decide) ?_
      exact Go.cast (by rw [if_neg h]) K
  exact s_zreturn (by split <;> rfl) w d5_30 (by decide) (by decide) ⟨rfl, List.set_set ..⟩
set_option maxRecDepth 65536 in
set_option maxHeartbeats 40000000 in
theorem c_law {Z : State} {a0 : Array Value} (hw : Tw Z a0) (l : Launch) (h0 : Heap) (n0 : Nat) (x1 y1 mo : Int32) (ca : Addr) (cl : Cell) (S1 : Sta Z h0 "java/lang/Integer$IntegerCache" "high" "I" (.int 127)) (S2 : Sta Z h0 "java/lang/Integer$IntegerCache" "cache" "[Ljava/lang/Integer;" (.ref ca)) (A : Arr Z h0 ca cl (.object "java/lang/Integer")) (hs : cl.slots.size = 256) (hel : ∀ i, i < 256 → ∃ v, cl.slots[i]? = some v ∧ v.isRef = true) :
    Met1 l Z x code maxLocals ret room_1 #[(.int x1), (.int y1), (.int mo)] h0 n0 [] (fun v _ => v = some (.int 1)) tables_1 := by
  refine Met1.of (ls := #[.val (.int x1), .val (.int y1), .val (.int mo), .unset, .unset, .unset, .unset, .unset, .unset]) (plainFor_of_name pn3) (fun m => by first | (simp [entryFrame, mkF, argsToLocals, Value.category, maxLocals]; done) | rfl) ?_
  intro p e s m below meth c T w
  refine s_iloadN (pc' := 1) w at_0 rfl rfl ?_
  refine s_iconst (pc' := 2) (1 : Int32) w at_1 (by decide) rfl ?_
  refine s_iand (pc' := 3) w at_2 rfl ?_
  suffices K : ∀ (T : State) (r1 : Value) (L1 : List Ob), r1.isRef = true → St p l e room_1 s m #[.int x1, .int y1, .int mo] below meth c Z x code maxLocals ret h0 n0 T L1 1 1 → Go p e below (Fin1 Z h0 n0 s room_1 (fun v _ => v = some (.int 1))) T (mkF m 14 #[.val (.int x1), .val (.int y1), .val (.int mo), .unset, .unset, .unset, .unset, .unset, .unset] [r1]) by
    by_cases h1 : (mo &&& (1 : Int32)) = 0
    · refine s_ifY (pc' := 10) w at_3 (Jvm.Free.XT.i0_eq_t h1) (by decide) (by decide) ?_
      refine s_iloadN (pc' := 11) w at_10 rfl rfl ?_
      refine s_static (pc' := 14) (rest := []) 0 [(.int x1)] w (c_valueOf hw l h0 n0 x1 ca cl [] S1 S2 A hs hel) (t0 hw) (t1 hw) (t2 hw) (t3 hw) (by decide) pd2 at_11 ⟨by decide, by decide, by decide, by decide⟩ rfl rfl rfl rfl (Nat.le_of_eq rfl) rfl ?_
      intro T v L' hQ w
      obtain ⟨r, rfl, hr⟩ := hQ
      change Go p e below _ T (mkF m 14 #[.val (.int x1), .val (.int y1), .val (.int mo), .unset, .unset, .unset, .unset, .unset, .unset] [r])
      exact K T r L' hr w
    · refine s_ifN (pc' := 6) w at_3 (Jvm.Free.XT.i0_eq_f h1) rfl ?_
      refine s_aconst_null (pc' := 7) w at_6 rfl ?_
      refine s_goto (pc' := 14) w at_7 (by decide) (by decide) ?_
      exact K T .null [] rfl (w.more (by decide) (by decide))
  intro T r1 L1 hr1 w
  refine s_astoreN (pc' := 15) (ls' := #[.val (.int x1), .val (.int y1), .val (.int mo), .val r1, .unset, .unset, .unset, .unset, .unset]) w at_14 hr1 (by rcases ref_cases hr1 with rfl | ⟨_, rfl⟩ <;> rfl) rfl ?_
  refine s_iloadN (pc' := 16) w at_15 rfl rfl ?_
  refine s_iconst (pc' := 17) (2 : Int32) w at_16 (by decide) rfl ?_
  refine s_iand (pc' := 18) w at_17 rfl ?_
  suffices K : ∀ (T : State) (r2 : Value) (L2 : List Ob), r2.isRef = true → St p l e room_1 s m #[.int x1, .int y1, .int mo] below meth c Z x code maxLocals ret h0 n0 T L2 2 2 → Go p e below (Fin1 Z h0 n0 s room_1 (fun v _ => v = some (.int 1))) T (mkF m 29 #[.val (.int x1), .val (.int y1), .val (.int mo), .val r1, .unset, .unset, .unset, .unset, .unset] [r2]) by
    by_cases h2 : (mo &&& (2 : Int32)) = 0
    · refine s_ifY (pc' := 25) w at_18 (Jvm.Free.XT.i0_eq_t h2) (by decide) (by decide) ?_
      refine s_iloadN (pc' := 26) w at_25 rfl rfl ?_
      refine s_static (pc' := 29) (rest := []) 0 [(.int y1)] w (c_valueOf hw l h0 n0 y1 ca cl L1 S1 S2 A hs hel) (t0 hw) (t1 hw) (t2 hw) (t3 hw) (by decide) pd2 at_26 ⟨by decide, by decide, by decide, by decide⟩ rfl rfl rfl rfl (Nat.le_of_eq rfl) rfl ?_
      intro T v L' hQ w
      obtain ⟨r, rfl, hr⟩ := hQ
      change Go p e below _ T (mkF m 29 #[.val (.int x1), .val (.int y1), .val (.int mo), .val r1, .unset, .unset, .unset, .unset, .unset] [r])
      exact K T r L' hr w
    · refine s_ifN (pc' := 21) w at_18 (Jvm.Free.XT.i0_eq_f h2) rfl ?_
      refine s_aconst_null (pc' := 22) w at_21 rfl ?_
      refine s_goto (pc' := 29) w at_22 (by decide) (by decide) ?_
      exact K T .null L1 rfl (w.more (by decide) (by decide))
  intro T r2 L2 hr2 w
  refine s_astore (pc' := 31) (ls' := #[.val (.int x1), .val (.int y1), .val (.int mo), .val r1, .val r2, .unset, .unset, .unset, .unset]) w at_29 hr2 (by rcases ref_cases hr2 with rfl | ⟨_, rfl⟩ <;> rfl) rfl ?_
  refine s_new (pc' := 34) [(.long 0), .null] w (t7 hw) (t9 hw) (cls1 hw) at_31 ?_ (by decide) (by decide) (L2.length) rfl rfl ?_
  · intro j f v h1 h2
    match j, h1, h2 with
    | 0, h1, h2 => cases (Option.some.inj h1); cases (Option.some.inj h2); exact ⟨.long, by decide +kernel, rfl⟩
    | 1, h1, h2 => cases (Option.some.inj h1); cases (Option.some.inj h2); exact ⟨(.object "java/lang/Object"), by decide +kernel, rfl⟩
    | (i + 2), h1, _ => exact absurd h1 (by simp [fs1])
  intro T w
  refine s_dup (pc' := 35) w at_34 rfl rfl ?_
  refine s_special (pc' := 38) (rest := [(.ref (n0 + L2.length))]) 1 [] w (c_cur hw l h0 n0 (n0 + L2.length) (L2 ++ [.inl ("org/tidemark/state/Current", fs1, [(.long 0), .null])])) rfl (t10 hw) (t11 hw) (t9 hw) (t12 hw) (by decide) pd0 at_35 ⟨by decide, by decide, by decide, by decide⟩ rfl rfl rfl rfl (Nat.le_of_eq rfl) rfl ?_
  intro T v L' hQ w
  obtain ⟨rfl, hL⟩ := hQ
  replace hL := hL.symm
  subst hL
  change Go p e below _ T (mkF m 38 #[.val (.int x1), .val (.int y1), .val (.int mo), .val r1, .val r2, .unset, .unset, .unset, .unset] [(.ref (n0 + L2.length))])
  refine s_astore (pc' := 40) (ls' := #[.val (.int x1), .val (.int y1), .val (.int mo), .val r1, .val r2, .val (.ref (n0 + L2.length)), .unset, .unset, .unset]) w at_38 rfl rfl rfl ?_
  refine s_aload (pc' := 42) w at_40 rfl rfl rfl ?_
  refine s_virtual (pc' := 45) (rest := []) 0 [] w (c_sets hw l h0 n0 (n0 + L2.length) 0 .null (L2 ++ [.inl ("org/tidemark/state/Current", fs1, [(.long 0), .null])]) (Lk.new lk_last)) (Lk.new lk_last) (t16 hw) (t17 hw) (w.notFace (t19 hw)) (t19 hw) (t18 hw) (t9 hw) (t20 hw) (by decide) pd3 at_42 ⟨by decide, by decide, by decide, by decide⟩ rfl rfl rfl rfl (Nat.le_of_eq rfl) rfl ?_
  intro T v L' hQ w
  obtain ⟨rfl, hL⟩ := hQ
  replace hL := hL.symm
  subst hL
  change Go p e below _ T (mkF m 45 #[.val (.int x1), .val (.int y1), .val (.int mo), .val r1, .val r2, .val (.ref (n0 + L2.length)), .unset, .unset, .unset] [(.long (0 : Int64))])
  refine s_lconst (pc' := 46) (0 : Int64) w at_45 (by decide) rfl ?_
  refine s_lcmp (pc' := 47) w at_46 rfl ?_
  refine s_ifN (pc' := 50) w at_47 (Jvm.Free.XT.ll_ne_f rfl) rfl ?_
  refine s_iconst (pc' := 51) (1 : Int32) w at_50 (by decide) rfl ?_
  refine s_goto (pc' := 55) w at_51 (by decide) (by decide) ?_
  refine s_istore (pc' := 57) (ls' := #[.val (.int x1), .val (.int y1), .val (.int mo), .val r1, .val r2, .val (.ref (n0 + L2.length)), .val (.int (1 : Int32)), .unset, .unset]) w at_55 rfl rfl ?_
  refine s_aload (pc' := 59) w at_57 rfl rfl rfl ?_
  refine s_aloadN (pc' := 60) w at_59 rfl hr1 rfl ?_
  refine s_virtual (pc' := 63) (rest := []) 0 [r1] w (c_set hw l h0 n0 L2.length 0 r1 .null (L2 ++ [.inl ("org/tidemark/state/Current", fs1, [(.long 0), .null])]) lk_last hr1) (Lk.new lk_last) (t23 hw) (t24 hw) (w.notFace (t26 hw)) (t26 hw) (t25 hw) (t9 hw) (t27 hw) (by decide) pd4 at_60 ⟨by decide, by decide, by decide, by decide⟩ rfl rfl rfl rfl (Nat.le_of_eq rfl) rfl ?_
  intro T v L' hQ w
  obtain ⟨rfl, hL⟩ := hQ
  replace hL := hL.symm
  subst hL
  change Go p e below _ T (mkF m 63 #[.val (.int x1), .val (.int y1), .val (.int mo), .val r1, .val r2, .val (.ref (n0 + L2.length)), .val (.int (1 : Int32)), .unset, .unset] [(.int (if ((0 : Int64) + 1) &&& 4095 = 0 then 0 else 1))])
  rw [show (if ((0 : Int64) + 1) &&& 4095 = 0 then (0 : Int32) else 1) = 1 by decide]
  refine s_istore (pc' := 65) (ls' := #[.val (.int x1), .val (.int y1), .val (.int mo), .val r1, .val r2, .val (.ref (n0 + L2.length)), .val (.int (1 : Int32)), .val (.int (1 : Int32)), .unset]) w at_63 rfl rfl ?_
  refine s_iload (pc' := 67) w at_65 rfl rfl ?_
  refine s_ifN (pc' := 70) w at_67 (Jvm.Free.XT.i0_eq_f (by decide)) rfl ?_
  refine s_iload (pc' := 72) w at_70 rfl rfl ?_
  refine s_ifN (pc' := 75) w at_72 (Jvm.Free.XT.i0_eq_f (by decide)) rfl ?_
  refine s_aload (pc' := 77) w at_75 rfl rfl rfl ?_
  refine s_virtual (pc' := 80) (rest := []) 0 [] w (c_get hw l h0 n0 (n0 + L2.length) (0 + 1) r1 (List.set (L2 ++ [.inl ("org/tidemark/state/Current", fs1, [(.long 0), .null])]) L2.length (.inl ("org/tidemark/state/Current", fs1, [.long (0 + 1), r1]))) (Lk.new (lk_set lk_last)) hr1) (Lk.new (lk_set lk_last)) (t31 hw) (t32 hw) (w.notFace (t34 hw)) (t34 hw) (t33 hw) (t9 hw) (t35 hw) (by decide) pd5 at_77 ⟨by decide, by decide, by decide, by decide⟩ rfl rfl rfl rfl (Nat.le_of_eq rfl) rfl ?_
  intro T v L' hQ w
  obtain ⟨rfl, hL⟩ := hQ
  replace hL := hL.symm
  subst hL
  change Go p e below _ T (mkF m 80 #[.val (.int x1), .val (.int y1), .val (.int mo), .val r1, .val r2, .val (.ref (n0 + L2.length)), .val (.int (1 : Int32)), .val (.int (1 : Int32)), .unset] [r1])
  refine s_aloadN (pc' := 81) w at_80 rfl hr1 rfl ?_
  refine s_acmpN (pc' := 84) w at_81 hr1 hr1 (Jvm.Free.XT.aa_ne_f rfl) rfl ?_
  refine s_aload (pc' := 86) w at_84 rfl rfl rfl ?_
  refine s_virtual (pc' := 89) (rest := []) 0 [] w (c_sets hw l h0 n0 (n0 + L2.length) (0 + 1) r1 (List.set (L2 ++ [.inl ("org/tidemark/state/Current", fs1, [(.long 0), .null])]) L2.length (.inl ("org/tidemark/state/Current", fs1, [.long (0 + 1), r1]))) (Lk.new (lk_set lk_last))) (Lk.new (lk_set lk_last)) (t16 hw) (t17 hw) (w.notFace (t19 hw)) (t19 hw) (t18 hw) (t9 hw) (t20 hw) (by decide) pd3 at_86 ⟨by decide, by decide, by decide, by decide⟩ rfl rfl rfl rfl (Nat.le_of_eq rfl) rfl ?_
  intro T v L' hQ w
  obtain ⟨rfl, hL⟩ := hQ
  replace hL := hL.symm
  subst hL
  change Go p e below _ T (mkF m 89 #[.val (.int x1), .val (.int y1), .val (.int mo), .val r1, .val r2, .val (.ref (n0 + L2.length)), .val (.int (1 : Int32)), .val (.int (1 : Int32)), .unset] [(.long ((0 : Int64) + 1))])
  refine s_lconst (pc' := 90) (1 : Int64) w at_89 (by decide) rfl ?_
  refine s_lcmp (pc' := 91) w at_90 rfl ?_
  refine s_ifN (pc' := 94) w at_91 (Jvm.Free.XT.ll_ne_f (by decide)) rfl ?_
  refine s_iconst (pc' := 95) (1 : Int32) w at_94 (by decide) rfl ?_
  refine s_goto (pc' := 99) w at_95 (by decide) (by decide) ?_
  refine s_istore (pc' := 101) (ls' := #[.val (.int x1), .val (.int y1), .val (.int mo), .val r1, .val r2, .val (.ref (n0 + L2.length)), .val (.int (1 : Int32)), .val (.int (1 : Int32)), .unset]) w at_99 rfl rfl ?_
  refine s_iloadN (pc' := 102) w at_101 rfl rfl ?_
  refine s_iconst (pc' := 103) (4 : Int32) w at_102 (by decide) rfl ?_
  refine s_iand (pc' := 104) w at_103 rfl ?_
  by_cases h3 : (mo &&& (4 : Int32)) = 0
  · refine s_ifY (pc' := 155) w at_104 (Jvm.Free.XT.i0_eq_t h3) (by decide) (by decide) ?_
    refine s_iload (pc' := 157) w at_155 rfl rfl ?_
    exact s_zreturn rfl w at_157 (by decide) (by decide) rfl
  · refine s_ifN (pc' := 107) w at_104 (Jvm.Free.XT.i0_eq_f h3) rfl ?_
    refine s_aload (pc' := 109) w at_107 rfl rfl rfl ?_
    refine s_aload (pc' := 111) w at_109 rfl hr2 rfl ?_
    refine s_virtual (pc' := 114) (rest := []) 0 [r2] w (c_set hw l h0 n0 L2.length (0 + 1) r2 r1 (List.set (L2 ++ [.inl ("org/tidemark/state/Current", fs1, [(.long 0), .null])]) L2.length (.inl ("org/tidemark/state/Current", fs1, [.long (0 + 1), r1]))) (lk_set lk_last) hr2) (Lk.new (lk_set lk_last)) (t23 hw) (t24 hw) (w.notFace (t26 hw)) (t26 hw) (t25 hw) (t9 hw) (t27 hw) (by decide) pd4 at_111 ⟨by decide, by decide, by decide, by decide⟩ rfl rfl rfl rfl (Nat.le_of_eq rfl) rfl ?_
    intro T v L' hQ w
    obtain ⟨rfl, hL⟩ := hQ
    replace hL := hL.symm
    subst hL
    change Go p e below _ T (mkF m 114 #[.val (.int x1), .val (.int y1), .val (.int mo), .val r1, .val r2, .val (.ref (n0 + L2.length)), .val (.int (1 : Int32)), .val (.int (1 : Int32)), .unset] [(.int (if ((0 : Int64) + 1 + 1) &&& 4095 = 0 then 0 else 1))])
    rw [show (if ((0 : Int64) + 1 + 1) &&& 4095 = 0 then (0 : Int32) else 1) = 1 by decide]
    refine s_istore (pc' := 116) (ls' := #[.val (.int x1), .val (.int y1), .val (.int mo), .val r1, .val r2, .val (.ref (n0 + L2.length)), .val (.int (1 : Int32)), .val (.int (1 : Int32)), .val (.int (1 : Int32))]) w at_114 rfl rfl ?_
    refine s_iload (pc' := 118) w at_116 rfl rfl ?_
    refine s_ifN (pc' := 121) w at_118 (Jvm.Free.XT.i0_eq_f (by decide)) rfl ?_
    refine s_iload (pc' := 123) w at_121 rfl rfl ?_
    refine s_ifN (pc' := 126) w at_123 (Jvm.Free.XT.i0_eq_f (by decide)) rfl ?_
    refine s_aload (pc' := 128) w at_126 rfl rfl rfl ?_
    refine s_virtual (pc' := 131) (rest := []) 0 [] w (c_get hw l h0 n0 (n0 + L2.length) (0 + 1 + 1) r2 (List.set (List.set (L2 ++ [.inl ("org/tidemark/state/Current", fs1, [(.long 0), .null])]) L2.length (.inl ("org/tidemark/state/Current", fs1, [.long (0 + 1), r1]))) L2.length (.inl ("org/tidemark/state/Current", fs1, [.long (0 + 1 + 1), r2]))) (Lk.new (lk_set (lk_set lk_last))) hr2) (Lk.new (lk_set (lk_set lk_last))) (t31 hw) (t32 hw) (w.notFace (t34 hw)) (t34 hw) (t33 hw) (t9 hw) (t35 hw) (by decide) pd5 at_128 ⟨by decide, by decide, by decide, by decide⟩ rfl rfl rfl rfl (Nat.le_of_eq rfl) rfl ?_
    intro T v L' hQ w
    obtain ⟨rfl, hL⟩ := hQ
    replace hL := hL.symm
    subst hL
    change Go p e below _ T (mkF m 131 #[.val (.int x1), .val (.int y1), .val (.int mo), .val r1, .val r2, .val (.ref (n0 + L2.length)), .val (.int (1 : Int32)), .val (.int (1 : Int32)), .val (.int (1 : Int32))] [r2])
    refine s_aload (pc' := 133) w at_131 rfl hr2 rfl ?_
    refine s_acmpN (pc' := 136) w at_133 hr2 hr2 (Jvm.Free.XT.aa_ne_f rfl) rfl ?_
    refine s_aload (pc' := 138) w at_136 rfl rfl rfl ?_
    refine s_virtual (pc' := 141) (rest := []) 0 [] w (c_sets hw l h0 n0 (n0 + L2.length) (0 + 1 + 1) r2 (List.set (List.set (L2 ++ [.inl ("org/tidemark/state/Current", fs1, [(.long 0), .null])]) L2.length (.inl ("org/tidemark/state/Current", fs1, [.long (0 + 1), r1]))) L2.length (.inl ("org/tidemark/state/Current", fs1, [.long (0 + 1 + 1), r2]))) (Lk.new (lk_set (lk_set lk_last)))) (Lk.new (lk_set (lk_set lk_last))) (t16 hw) (t17 hw) (w.notFace (t19 hw)) (t19 hw) (t18 hw) (t9 hw) (t20 hw) (by decide) pd3 at_138 ⟨by decide, by decide, by decide, by decide⟩ rfl rfl rfl rfl (Nat.le_of_eq rfl) rfl ?_
    intro T v L' hQ w
    obtain ⟨rfl, hL⟩ := hQ
    replace hL := hL.symm
    subst hL
    change Go p e below _ T (mkF m 141 #[.val (.int x1), .val (.int y1), .val (.int mo), .val r1, .val r2, .val (.ref (n0 + L2.length)), .val (.int (1 : Int32)), .val (.int (1 : Int32)), .val (.int (1 : Int32))] [(.long ((0 : Int64) + 1 + 1))])
    refine s_ldc2 (pc' := 144) w (t36 hw) at_141 rfl ?_
    refine s_lcmp (pc' := 145) w at_144 rfl ?_
    refine s_ifN (pc' := 148) w at_145 (Jvm.Free.XT.ll_ne_f (by decide)) rfl ?_
    refine s_iconst (pc' := 149) (1 : Int32) w at_148 (by decide) rfl ?_
    refine s_goto (pc' := 153) w at_149 (by decide) (by decide) ?_
    refine s_istore (pc' := 155) (ls' := #[.val (.int x1), .val (.int y1), .val (.int mo), .val r1, .val r2, .val (.ref (n0 + L2.length)), .val (.int (1 : Int32)), .val (.int (1 : Int32)), .val (.int (1 : Int32))]) w at_153 rfl rfl ?_
    refine s_iload (pc' := 157) w at_155 rfl rfl ?_
    exact s_zreturn rfl w at_157 (by decide) (by decide) rfl
set_option maxRecDepth 65536 in
set_option maxHeartbeats 40000000 in
theorem comes_1 {Post : Tables → Env → Array Value → State → Outcome → State → Prop} (hpost : ∀ tb e args s v u, (limb_1_1.after args s (.returned v) u = true ∧ limb_1_2.after args s (.returned v) u = true ∧ True) → FrameEnd s (.returned v) u (Jvm.fieldLocs frame_1_writes args s ++ Jvm.arrayLocs frame_1_arrays args s ++ Jvm.staticLocs frame_1_statics s) 16 128 → Post tb e args s (.returned v) u) :
    ArmFor flags0 classFile x code maxLocals ret World_1 tables_1 room_1 Calls_1 rest_1 Pre_1 Post := by
  intro l hfl _ _ p e ha hc hk s m args below hf hA hF happ hP
  obtain ⟨hcalls, hrest, hpre⟩ := hP
  obtain ⟨-, -, -, hnamed, -, -, -, hat⟩ := (Spec.applies_iff hf).mp happ
  obtain ⟨hg, hn⟩ := and_e (Cond.before_iff.mp (show (Jvm.Cond.and given_1 narrow_1).before args s = true from hpre))
  obtain ⟨hct, hg⟩ := and_e hg
  obtain ⟨hv0, hg⟩ := and_e hg
  obtain ⟨hv1, hg⟩ := and_e hg
  have hv2 := hg
  obtain ⟨w0, w1, w2, rfl⟩ : ∃ w0 w1 w2 : Value, args = #[w0, w1, w2] := by
    have hs : args.size = 3 := by simpa [Cond.value, given_1] using hct
    obtain ⟨L⟩ := args
    match L, hs with
    | [w0, w1, w2], _ => exact ⟨w0, w1, w2, rfl⟩
  have hw : Tw s _ := fun d (hd : d ∈ tables_1) => atoms_spec (ws := Jvm.Cond.code x code maxLocals ret :: tables_1) hat d (List.mem_cons_of_mem _ hd)
  have hfit : Fit s := fun {y c} hc i hi => by
    obtain ⟨ha, rfl⟩ := Array.getElem?_eq_some_iff.mp hc
    have q := List.all_eq_true.mp ((Array.all_eq_true_iff_forall_mem.mp hF) _ (Array.getElem_mem ha)) i (List.mem_range.mpr hi)
    simpa [Array.getElem?_eq_getElem hi] using q
  obtain ⟨hsets, hown0⟩ := atoms_of _ (rest_1_c_eq ▸ (show rest_1_c.before _ s = true from hrest))
  obtain ⟨i0, ei0⟩ := is_v hv0
  obtain rfl : w0 = (.int i0) := Option.some.inj ei0
  obtain ⟨i1, ei1⟩ := is_v hv1
  obtain rfl : w1 = (.int i1) := Option.some.inj ei1
  obtain ⟨i2, ei2⟩ := is_v hv2
  obtain rfl : w2 = (.int i2) := Option.some.inj ei2
  have k1 := hsets _ (List.mem_of_getElem? (i := 1) rfl)
  have k2 := hsets _ (List.mem_of_getElem? (i := 2) rfl)
  have k3 := Cond.before_iff.mp (hsets _ (List.mem_of_getElem? (i := 3) rfl))
  have k4 := Cond.before_iff.mp (hsets _ (List.mem_of_getElem? (i := 4) rfl))
  have k6 := Cond.before_iff.mp (hsets _ (List.mem_of_getElem? (i := 6) rfl))
  have S1 : Sta s s.heap "java/lang/Integer$IntegerCache" "high" "I" (.int 127) := Sta.start (own_eqI k3) (Or.inl k1)
  obtain ⟨ca, eca⟩ := arr_v k4
  have S2 : Sta s s.heap "java/lang/Integer$IntegerCache" "cache" "[Ljava/lang/Integer;" (.ref ca) := Sta.start eca (Or.inr ⟨hw _ (List.mem_of_getElem? (i := 5) rfl), k2⟩)
  obtain ⟨cl, A⟩ := Arr.start eca k4
  obtain ⟨hl, hz⟩ := own_len eca (A.fin (Vm.Alike.refl _)) k6
  have hs : cl.slots.size = 256 := by have e := len_toInt hl; rw [hz] at e; have : (256 : Int32).toInt = 256 := by decide
                                      omega
  have hel : ∀ i, i < 256 → ∃ v, cl.slots[i]? = some v ∧ v.isRef = true := fun i hi => by
    have ei : i.toInt32.toInt = i := len_toInt (by omega)
    have ec : i.toInt32.toNatClampNeg = i := by simp only [Int32.toNatClampNeg, ei]; omega
    obtain ⟨v, v1, v2⟩ := elem_fit hfit A (j := i.toInt32) (by rw [ec, hs, Int32.lt_iff_toInt_lt, ei]; show ¬ ((i : Int) < 0 ∨ 256 ≤ i); omega)
    rw [ec] at v1
    exact ⟨v, v1, fit_R v2 rfl⟩
  obtain ⟨n, o, h1, h2, h3, _, L, rfl, ⟨Ls', rfl, N, -⟩, hq⟩ := c_law hw l s.heap s.heap.size i0 i1 i2 ca cl S1 S2 A hs hel s.heap (Hp.start s s) p e ha hc hk s m _ below hf ((Spec.applies_iff_loose hf).mp happ).1 ⟨rfl, State.Warmed39.refl s, rfl⟩ trivial
  refine ⟨n, _, h1, h2, h3, hpost _ _ _ _ _ _ ⟨Cond.after_iff.mpr rfl, Cond.after_iff.mpr (eq_i res_at (Term.int_eval (1)) rfl), trivial⟩ ⟨hq.1, hq.2.1, (hq.2.2.sift fun y hy => Or.inr (N y hy)).mono (by decide) (by decide)⟩⟩
theorem main_1_1 : Claimed_1_1 := comes_1 fun _ _ _ _ _ _ h hF => ⟨h.1, hF⟩
theorem main_1_2 : Claimed_1_2 := comes_1 fun _ _ _ _ _ _ h hF => ⟨h.2.1, hF⟩
end Jvm.Pilot.@@N@@
namespace Jvm.Pilot.@@N@@
open Jvm Jvm.ClassFile Sem Op Lib Jvm.Free Jvm.Stand Jvm.Pilot.@@N@@.Jvm.D
/-! MADE BY PROGRAM (witnessworld.py) out of the Statement's table words and the real class files: 16 classes; the members and pool entries that the words name. The judged class is class 1, her method 1. -/
namespace start1
open Jvm.ClassFile
def u (s : String) : CpInfo := .utf8 (stringToUtf16 s)
/-- a pool by its gaps: so many unusable entries, then the entry; so many at the end -/
def gap : Nat → List CpInfo → List CpInfo
  | 0, r => r
  | n + 1, r => .unusable :: gap n r
def poolList (es : List (Nat × CpInfo)) (last : Nat) : List CpInfo := es.foldr (fun e r => gap e.1 (e.2 :: r)) (gap last [])
def pool (es : List (Nat × CpInfo)) (last : Nat) : Array CpInfo := ⟨poolList es last⟩
def fileOf (pool : Array CpInfo) (this : Nat) (attrs : Array Attribute := #[]) (ms : Array MethodInfo := #[]) (fl : Nat := 33) (sup : Nat := 0) (ifs : Array Nat := #[]) (fds : Array FieldInfo := #[]) : ClassFile where
  minorVersion := 0
  majorVersion := 65
  constantPool := pool
  accessFlags := fl
  thisClass := this
  superClass := sup
  interfaces := ifs
  fields := fds
  methods := ms
  attributes := attrs
def plain (name : String) (sup : Option ClassId) : Class where
  name := name
  kind := .ordinary
  loader := none
  accessFlags := 33
  super := sup
  interfaces := #[]
  cf := none
  fields := #[]
  methods := #[]
  instanceTypes := #[]
  staticTypes := #[]
  resolved := #[]
  callSites := []
  init := .initialized
  statics := none
  mirror := none

def pool0 : Array CpInfo := pool [(5, u "<init>"), (0, u "()V"), (1, .class_ 10), (1, u "java/lang/Object")] 113

def k0c0 : Code := { maxStack := 0, maxLocals := 1, code := object_method_1_code, exceptionTable := #[], attributes := #[] }
def k0m0 : Method := { name := "<init>", desc := "()V", sig := { parameters := [], returnType := none }, accessFlags := 1, code := some k0c0 }
/-- java/lang/Object -/
def k0 : Class := { plain "java/lang/Object" none with
  accessFlags := 33
  interfaces := #[]
  cf := some (fileOf pool0 8 #[] #[{ accessFlags := 1, nameIndex := 5, descriptorIndex := 6, attributes := #[] }] 33 0 #[] #[])
  fields := #[]
  methods := #[k0m0]
  instanceTypes := #[]
  staticTypes := #[]
  resolved := Array.replicate 124 none
  statics := none }

def pool1 : Array CpInfo := pool [(2, .class_ 4), (0, .nameAndType 5 6), (0, u "java/lang/Object"), (0, u "<init>"), (0, u "()V"), (0, .methodref 8 9), (0, .class_ 10), (0, .nameAndType 11 12), (0, u "java/lang/Integer"), (0, u "valueOf"), (0, u "(I)Ljava/lang/Integer;"), (0, .class_ 14), (0, u "org/tidemark/state/Current"), (0, .methodref 13 3), (0, .methodref 13 17), (0, .nameAndType 18 19), (0, u "sets"), (0, u "()J"), (0, .methodref 13 21), (0, .nameAndType 22 23), (0, u "set"), (0, u "(Ljava/lang/Object;)Z"), (0, .methodref 13 25), (0, .nameAndType 26 27), (0, u "get"), (0, u "()Ljava/lang/Object;"), (0, .long 2), (1, .class_ 31), (0, u "org/tidemark/state/CurrentSetPinLaw"), (2, u "law"), (0, u "(III)Z")] 3

def k1m0 : Method := { name := "<init>", desc := "()V", sig := { parameters := [], returnType := none }, accessFlags := 1, code := none }
def k1c1 : Code := { maxStack := 4, maxLocals := 9, code := code, exceptionTable := #[], attributes := #[] }
def k1m1 : Method := { name := "law", desc := "(III)Z", sig := { parameters := [.int, .int, .int], returnType := some .boolean }, accessFlags := 9, code := some k1c1 }
/-- org/tidemark/state/CurrentSetPinLaw -/
def k1 : Class := { plain "org/tidemark/state/CurrentSetPinLaw" (some 0) with
  accessFlags := 49
  interfaces := #[]
  cf := some (fileOf pool1 30 #[] #[{ accessFlags := 1, nameIndex := 5, descriptorIndex := 6, attributes := #[] }, { accessFlags := 9, nameIndex := 34, descriptorIndex := 35, attributes := #[] }] 49 2 #[] #[])
  fields := #[]
  methods := #[k1m0, k1m1]
  instanceTypes := #[]
  staticTypes := #[]
  resolved := Array.replicate 39 none
  statics := none }

def pool2 : Array CpInfo := pool [(1, .class_ 2), (0, u "java/io/Serializable"), (0, .class_ 4), (0, u "java/lang/Object")] 2

/-- java/io/Serializable -/
def k2 : Class := { plain "java/io/Serializable" (some 0) with
  accessFlags := 1537
  interfaces := #[]
  cf := some (fileOf pool2 1 #[] #[] 1537 3 #[] #[])
  fields := #[]
  methods := #[]
  instanceTypes := #[]
  staticTypes := #[]
  resolved := Array.replicate 7 none
  statics := none }

def pool3 : Array CpInfo := pool [(1, .methodref 2 3), (0, .class_ 4), (0, .nameAndType 5 6), (0, u "java/lang/Object"), (0, u "<init>"), (0, u "()V"), (1, .class_ 10), (1, u "java/lang/Number"), (2, .class_ 14), (0, u "java/io/Serializable"), (0, u "serialVersionUID"), (0, u "J")] 20

def k3c0 : Code := { maxStack := 1, maxLocals := 1, code := jdk_18_method_1_code, exceptionTable := #[], attributes := #[] }
def k3m0 : Method := { name := "<init>", desc := "()V", sig := { parameters := [], returnType := none }, accessFlags := 1, code := some k3c0 }
/-- java/lang/Number -/
def k3 : Class := { plain "java/lang/Number" (some 0) with
  accessFlags := 1057
  interfaces := #[2]
  cf := some (fileOf pool3 8 #[] #[{ accessFlags := 1, nameIndex := 5, descriptorIndex := 6, attributes := #[] }] 1057 2 #[13] #[{ accessFlags := 26, nameIndex := 15, descriptorIndex := 16, attributes := #[] }])
  fields := #[{ name := "serialVersionUID", type := .long, accessFlags := 26, slot := 0, constantValue := 0 }]
  methods := #[k3m0]
  instanceTypes := #[]
  staticTypes := #[.long]
  resolved := Array.replicate 37 none
  statics := none }

def pool4 : Array CpInfo := pool [(1, .class_ 2), (0, u "java/lang/Comparable"), (0, .class_ 4), (0, u "java/lang/Object")] 7

/-- java/lang/Comparable -/
def k4 : Class := { plain "java/lang/Comparable" (some 0) with
  accessFlags := 1537
  interfaces := #[]
  cf := some (fileOf pool4 1 #[] #[] 1537 3 #[] #[])
  fields := #[]
  methods := #[]
  instanceTypes := #[]
  staticTypes := #[]
  resolved := Array.replicate 12 none
  statics := none }

def pool5 : Array CpInfo := pool [(1, .class_ 2), (0, u "java/lang/constant/Constable"), (0, .class_ 4), (0, u "java/lang/Object")] 6

/-- java/lang/constant/Constable -/
def k5 : Class := { plain "java/lang/constant/Constable" (some 0) with
  accessFlags := 1537
  interfaces := #[]
  cf := some (fileOf pool5 1 #[] #[] 1537 3 #[] #[])
  fields := #[]
  methods := #[]
  instanceTypes := #[]
  staticTypes := #[]
  resolved := Array.replicate 11 none
  statics := none }

def pool6 : Array CpInfo := pool [(1, .class_ 2), (0, u "java/lang/constant/ConstantDesc"), (0, .class_ 4), (0, u "java/lang/Object")] 32

/-- java/lang/constant/ConstantDesc -/
def k6 : Class := { plain "java/lang/constant/ConstantDesc" (some 0) with
  accessFlags := 1537
  interfaces := #[]
  cf := some (fileOf pool6 1 #[] #[] 1537 3 #[] #[])
  fields := #[]
  methods := #[]
  instanceTypes := #[]
  staticTypes := #[]
  resolved := Array.replicate 37 none
  statics := none }

def pool7 : Array CpInfo := pool [(1, .class_ 2), (0, u "java/lang/Integer"), (16, u "digits"), (0, u "[C"), (46, u "<init>"), (17, u "DigitOnes"), (0, u "[B"), (2, u "DigitTens"), (10, .nameAndType 67 101), (0, u "()V"), (85, u "valueOf"), (0, u "(I)Ljava/lang/Integer;"), (0, .class_ 190), (0, u "java/lang/Integer$IntegerCache"), (0, .fieldref 189 192), (0, .nameAndType 193 194), (0, u "high"), (0, u "I"), (0, .fieldref 189 196), (0, .nameAndType 197 198), (0, u "cache"), (0, u "[Ljava/lang/Integer;"), (0, .methodref 1 200), (0, .nameAndType 67 201), (0, u "(I)V"), (0, .methodref 203 100), (0, .class_ 204), (0, u "java/lang/Number"), (0, .fieldref 1 206), (0, .nameAndType 207 194), (0, u "value"), (94, u "TYPE"), (0, u "Ljava/lang/Class;"), (0, .class_ 305), (0, u "java/lang/Comparable"), (0, .class_ 307), (0, u "java/lang/constant/Constable"), (0, .class_ 309), (0, u "java/lang/constant/ConstantDesc"), (0, u "MIN_VALUE"), (1, u "MAX_VALUE"), (3, u "SIZE"), (1, u "BYTES"), (1, u "serialVersionUID"), (0, u "J")] 131

def k7c0 : Code := { maxStack := 3, maxLocals := 1, code := jdk_33_method_22_code, exceptionTable := #[], attributes := #[] }
def k7m0 : Method := { name := "valueOf", desc := "(I)Ljava/lang/Integer;", sig := { parameters := [.int], returnType := some (.object "java/lang/Integer") }, accessFlags := 9, code := some k7c0 }
def k7c1 : Code := { maxStack := 2, maxLocals := 2, code := jdk_33_method_23_code, exceptionTable := #[], attributes := #[] }
def k7m1 : Method := { name := "<init>", desc := "(I)V", sig := { parameters := [.int], returnType := none }, accessFlags := 1, code := some k7c1 }
/-- java/lang/Integer -/
def k7 : Class := { plain "java/lang/Integer" (some 3) with
  accessFlags := 49
  interfaces := #[4, 5, 6]
  cf := some (fileOf pool7 1 #[.nestMembers #[189]] #[{ accessFlags := 9, nameIndex := 187, descriptorIndex := 188, attributes := #[] }, { accessFlags := 1, nameIndex := 67, descriptorIndex := 201, attributes := #[] }] 49 203 #[304, 306, 308] #[{ accessFlags := 25, nameIndex := 310, descriptorIndex := 194, attributes := #[] }, { accessFlags := 25, nameIndex := 312, descriptorIndex := 194, attributes := #[] }, { accessFlags := 25, nameIndex := 302, descriptorIndex := 303, attributes := #[] }, { accessFlags := 24, nameIndex := 19, descriptorIndex := 20, attributes := #[] }, { accessFlags := 24, nameIndex := 89, descriptorIndex := 86, attributes := #[] }, { accessFlags := 24, nameIndex := 85, descriptorIndex := 86, attributes := #[] }, { accessFlags := 18, nameIndex := 207, descriptorIndex := 194, attributes := #[] }, { accessFlags := 25, nameIndex := 316, descriptorIndex := 194, attributes := #[] }, { accessFlags := 25, nameIndex := 318, descriptorIndex := 194, attributes := #[] }, { accessFlags := 26, nameIndex := 320, descriptorIndex := 321, attributes := #[] }])
  fields := #[{ name := "MIN_VALUE", type := .int, accessFlags := 25, slot := 0, constantValue := 0 }, { name := "MAX_VALUE", type := .int, accessFlags := 25, slot := 1, constantValue := 0 }, { name := "TYPE", type := (.object "java/lang/Class"), accessFlags := 25, slot := 2, constantValue := 0 }, { name := "digits", type := (.array .char), accessFlags := 24, slot := 3, constantValue := 0 }, { name := "DigitTens", type := (.array .byte), accessFlags := 24, slot := 4, constantValue := 0 }, { name := "DigitOnes", type := (.array .byte), accessFlags := 24, slot := 5, constantValue := 0 }, { name := "value", type := .int, accessFlags := 18, slot := 0, constantValue := 0 }, { name := "SIZE", type := .int, accessFlags := 25, slot := 6, constantValue := 0 }, { name := "BYTES", type := .int, accessFlags := 25, slot := 7, constantValue := 0 }, { name := "serialVersionUID", type := .long, accessFlags := 26, slot := 8, constantValue := 0 }]
  methods := #[k7m0, k7m1]
  instanceTypes := #[.int]
  staticTypes := #[.int, .int, (.object "java/lang/Class"), (.array .char), (.array .byte), (.array .byte), .int, .int, .long]
  resolved := Array.replicate 453 none
  statics := none }

def pool8 : Array CpInfo := pool [(2, .class_ 4), (1, u "java/lang/Object"), (0, u "<init>"), (0, u "()V"), (0, .class_ 8), (0, u "java/lang/Integer"), (7, .class_ 18), (1, u "java/lang/Integer$IntegerCache"), (0, u "$assertionsDisabled"), (0, u "Z"), (26, u "high"), (0, u "I"), (8, u "archivedCache"), (0, u "[Ljava/lang/Integer;"), (12, u "cache"), (0, u "low")] 27

def k8m0 : Method := { name := "<init>", desc := "()V", sig := { parameters := [], returnType := none }, accessFlags := 2, code := none }
/-- java/lang/Integer$IntegerCache -/
def k8 : Class := { plain "java/lang/Integer$IntegerCache" (some 0) with
  accessFlags := 48
  interfaces := #[]
  cf := some (fileOf pool8 16 #[.nestHost 7] #[{ accessFlags := 2, nameIndex := 5, descriptorIndex := 6, attributes := #[] }] 48 2 #[] #[{ accessFlags := 24, nameIndex := 72, descriptorIndex := 48, attributes := #[] }, { accessFlags := 24, nameIndex := 47, descriptorIndex := 48, attributes := #[] }, { accessFlags := 24, nameIndex := 71, descriptorIndex := 58, attributes := #[] }, { accessFlags := 8, nameIndex := 57, descriptorIndex := 58, attributes := #[] }, { accessFlags := 4120, nameIndex := 19, descriptorIndex := 20, attributes := #[] }])
  fields := #[{ name := "low", type := .int, accessFlags := 24, slot := 0, constantValue := 0 }, { name := "high", type := .int, accessFlags := 24, slot := 1, constantValue := 0 }, { name := "cache", type := (.array (.object "java/lang/Integer")), accessFlags := 24, slot := 2, constantValue := 0 }, { name := "archivedCache", type := (.array (.object "java/lang/Integer")), accessFlags := 8, slot := 3, constantValue := 0 }, { name := "$assertionsDisabled", type := .boolean, accessFlags := 4120, slot := 4, constantValue := 0 }]
  methods := #[k8m0]
  instanceTypes := #[]
  staticTypes := #[.int, .int, (.array (.object "java/lang/Integer")), (.array (.object "java/lang/Integer")), .boolean]
  resolved := Array.replicate 100 none
  statics := some 0 }

def pool9 : Array CpInfo := pool [(1, .methodref 2 3), (0, .class_ 4), (0, .nameAndType 5 6), (0, u "java/lang/Object"), (0, u "<init>"), (0, u "()V"), (0, .fieldref 8 9), (0, .class_ 10), (0, .nameAndType 11 12), (0, u "org/tidemark/state/Current"), (0, u "held"), (0, u "Ljava/lang/Object;"), (0, .fieldref 8 14), (0, .nameAndType 15 16), (0, u "sets"), (0, u "J"), (0, .long 4095), (2, u "SETS_PER_HOLDER"), (0, u "I"), (6, u "get"), (0, u "()Ljava/lang/Object;"), (1, u "()J"), (0, u "set"), (0, u "(Ljava/lang/Object;)Z")] 8

def k9c0 : Code := { maxStack := 1, maxLocals := 1, code := prog_115_method_1_code, exceptionTable := #[], attributes := #[] }
def k9m0 : Method := { name := "<init>", desc := "()V", sig := { parameters := [], returnType := none }, accessFlags := 0, code := some k9c0 }
def k9c1 : Code := { maxStack := 1, maxLocals := 1, code := prog_115_method_2_code, exceptionTable := #[], attributes := #[] }
def k9m1 : Method := { name := "get", desc := "()Ljava/lang/Object;", sig := { parameters := [], returnType := some (.object "java/lang/Object") }, accessFlags := 0, code := some k9c1 }
def k9c2 : Code := { maxStack := 2, maxLocals := 1, code := prog_115_method_3_code, exceptionTable := #[], attributes := #[] }
def k9m2 : Method := { name := "sets", desc := "()J", sig := { parameters := [], returnType := some .long }, accessFlags := 0, code := some k9c2 }
def k9c3 : Code := { maxStack := 5, maxLocals := 2, code := prog_115_method_4_code, exceptionTable := #[], attributes := #[] }
def k9m3 : Method := { name := "set", desc := "(Ljava/lang/Object;)Z", sig := { parameters := [(.object "java/lang/Object")], returnType := some .boolean }, accessFlags := 0, code := some k9c3 }
/-- org/tidemark/state/Current -/
def k9 : Class := { plain "org/tidemark/state/Current" (some 0) with
  accessFlags := 48
  interfaces := #[]
  cf := some (fileOf pool9 8 #[] #[{ accessFlags := 0, nameIndex := 5, descriptorIndex := 6, attributes := #[] }, { accessFlags := 0, nameIndex := 28, descriptorIndex := 29, attributes := #[] }, { accessFlags := 0, nameIndex := 15, descriptorIndex := 31, attributes := #[] }, { accessFlags := 0, nameIndex := 32, descriptorIndex := 33, attributes := #[] }] 48 2 #[] #[{ accessFlags := 24, nameIndex := 20, descriptorIndex := 21, attributes := #[] }, { accessFlags := 2, nameIndex := 11, descriptorIndex := 12, attributes := #[] }, { accessFlags := 2, nameIndex := 15, descriptorIndex := 16, attributes := #[] }])
  fields := #[{ name := "SETS_PER_HOLDER", type := .int, accessFlags := 24, slot := 0, constantValue := 0 }, { name := "held", type := (.object "java/lang/Object"), accessFlags := 2, slot := 0, constantValue := 0 }, { name := "sets", type := .long, accessFlags := 2, slot := 1, constantValue := 0 }]
  methods := #[k9m0, k9m1, k9m2, k9m3]
  instanceTypes := #[(.object "java/lang/Object"), .long]
  staticTypes := #[.int]
  resolved := Array.replicate 42 none
  statics := none }

def pool10 : Array CpInfo := pool [(1, u "java/lang/Cloneable"), (0, .class_ 1), (0, u "java/lang/Object"), (0, .class_ 3)] 3

/-- java/lang/Cloneable -/
def k10 : Class := { plain "java/lang/Cloneable" (some 0) with
  accessFlags := 1537
  interfaces := #[]
  cf := some (fileOf pool10 2 #[] #[] 1537 4 #[] #[])
  fields := #[]
  methods := #[]
  instanceTypes := #[]
  staticTypes := #[]
  resolved := Array.replicate 8 none
  statics := none }

/-- the primitive byte -/
def k11 : Class := { plain "byte" none with kind := .primitive 'B', accessFlags := 0x411 }
/-- [B -/
def k12 : Class := { plain "[B" (some 0) with kind := .array 11 .byte, interfaces := #[10, 2], accessFlags := 1041 }

/-- the primitive int -/
def k13 : Class := { plain "int" none with kind := .primitive 'I', accessFlags := 0x411 }
/-- [I -/
def k14 : Class := { plain "[I" (some 0) with kind := .array 13 .int, interfaces := #[10, 2], accessFlags := 1041 }

/-- [Ljava/lang/Integer; -/
def k15 : Class := { plain "[Ljava/lang/Integer;" (some 0) with kind := .array 7 (.object "java/lang/Integer"), interfaces := #[10, 2], accessFlags := 1041 }

def heap : Heap := #[{ cls := 8, slots := #[.int 0, .int 127, .ref 1, .null, .int 0], vm := .statics 8 },
  { cls := 15, slots := #[.ref 2, .ref 3, .ref 4, .ref 5, .ref 6, .ref 7, .ref 8, .ref 9, .ref 10, .ref 11, .ref 12, .ref 13, .ref 14, .ref 15, .ref 16, .ref 17, .ref 18, .ref 19, .ref 20, .ref 21, .ref 22, .ref 23, .ref 24, .ref 25, .ref 26, .ref 27, .ref 28, .ref 29, .ref 30, .ref 31, .ref 32, .ref 33, .ref 34, .ref 35, .ref 36, .ref 37, .ref 38, .ref 39, .ref 40, .ref 41, .ref 42, .ref 43, .ref 44, .ref 45, .ref 46, .ref 47, .ref 48, .ref 49, .ref 50, .ref 51, .ref 52, .ref 53, .ref 54, .ref 55, .ref 56, .ref 57, .ref 58, .ref 59, .ref 60, .ref 61, .ref 62, .ref 63, .ref 64, .ref 65, .ref 66, .ref 67, .ref 68, .ref 69, .ref 70, .ref 71, .ref 72, .ref 73, .ref 74, .ref 75, .ref 76, .ref 77, .ref 78, .ref 79, .ref 80, .ref 81, .ref 82, .ref 83, .ref 84, .ref 85, .ref 86, .ref 87, .ref 88, .ref 89, .ref 90, .ref 91, .ref 92, .ref 93, .ref 94, .ref 95, .ref 96, .ref 97, .ref 98, .ref 99, .ref 100, .ref 101, .ref 102, .ref 103, .ref 104, .ref 105, .ref 106, .ref 107, .ref 108, .ref 109, .ref 110, .ref 111, .ref 112, .ref 113, .ref 114, .ref 115, .ref 116, .ref 117, .ref 118, .ref 119, .ref 120, .ref 121, .ref 122, .ref 123, .ref 124, .ref 125, .ref 126, .ref 127, .ref 128, .ref 129, .ref 130, .ref 131, .ref 132, .ref 133, .ref 134, .ref 135, .ref 136, .ref 137, .ref 138, .ref 139, .ref 140, .ref 141, .ref 142, .ref 143, .ref 144, .ref 145, .ref 146, .ref 147, .ref 148, .ref 149, .ref 150, .ref 151, .ref 152, .ref 153, .ref 154, .ref 155, .ref 156, .ref 157, .ref 158, .ref 159, .ref 160, .ref 161, .ref 162, .ref 163, .ref 164, .ref 165, .ref 166, .ref 167, .ref 168, .ref 169, .ref 170, .ref 171, .ref 172, .ref 173, .ref 174, .ref 175, .ref 176, .ref 177, .ref 178, .ref 179, .ref 180, .ref 181, .ref 182, .ref 183, .ref 184, .ref 185, .ref 186, .ref 187, .ref 188, .ref 189, .ref 190, .ref 191, .ref 192, .ref 193, .ref 194, .ref 195, .ref 196, .ref 197, .ref 198, .ref 199, .ref 200, .ref 201, .ref 202, .ref 203, .ref 204, .ref 205, .ref 206, .ref 207, .ref 208, .ref 209, .ref 210, .ref 211, .ref 212, .ref 213, .ref 214, .ref 215, .ref 216, .ref 217, .ref 218, .ref 219, .ref 220, .ref 221, .ref 222, .ref 223, .ref 224, .ref 225, .ref 226, .ref 227, .ref 228, .ref 229, .ref 230, .ref 231, .ref 232, .ref 233, .ref 234, .ref 235, .ref 236, .ref 237, .ref 238, .ref 239, .ref 240, .ref 241, .ref 242, .ref 243, .ref 244, .ref 245, .ref 246, .ref 247, .ref 248, .ref 249, .ref 250, .ref 251, .ref 252, .ref 253, .ref 254, .ref 255, .ref 256, .ref 257], vm := .none },
  { cls := 7, slots := #[.int (-128)], vm := .none },
  { cls := 7, slots := #[.int (-127)], vm := .none },
  { cls := 7, slots := #[.int (-126)], vm := .none },
  { cls := 7, slots := #[.int (-125)], vm := .none },
  { cls := 7, slots := #[.int (-124)], vm := .none },
  { cls := 7, slots := #[.int (-123)], vm := .none },
  { cls := 7, slots := #[.int (-122)], vm := .none },
  { cls := 7, slots := #[.int (-121)], vm := .none },
  { cls := 7, slots := #[.int (-120)], vm := .none },
  { cls := 7, slots := #[.int (-119)], vm := .none },
  { cls := 7, slots := #[.int (-118)], vm := .none },
  { cls := 7, slots := #[.int (-117)], vm := .none },
  { cls := 7, slots := #[.int (-116)], vm := .none },
  { cls := 7, slots := #[.int (-115)], vm := .none },
  { cls := 7, slots := #[.int (-114)], vm := .none },
  { cls := 7, slots := #[.int (-113)], vm := .none },
  { cls := 7, slots := #[.int (-112)], vm := .none },
  { cls := 7, slots := #[.int (-111)], vm := .none },
  { cls := 7, slots := #[.int (-110)], vm := .none },
  { cls := 7, slots := #[.int (-109)], vm := .none },
  { cls := 7, slots := #[.int (-108)], vm := .none },
  { cls := 7, slots := #[.int (-107)], vm := .none },
  { cls := 7, slots := #[.int (-106)], vm := .none },
  { cls := 7, slots := #[.int (-105)], vm := .none },
  { cls := 7, slots := #[.int (-104)], vm := .none },
  { cls := 7, slots := #[.int (-103)], vm := .none },
  { cls := 7, slots := #[.int (-102)], vm := .none },
  { cls := 7, slots := #[.int (-101)], vm := .none },
  { cls := 7, slots := #[.int (-100)], vm := .none },
  { cls := 7, slots := #[.int (-99)], vm := .none },
  { cls := 7, slots := #[.int (-98)], vm := .none },
  { cls := 7, slots := #[.int (-97)], vm := .none },
  { cls := 7, slots := #[.int (-96)], vm := .none },
  { cls := 7, slots := #[.int (-95)], vm := .none },
  { cls := 7, slots := #[.int (-94)], vm := .none },
  { cls := 7, slots := #[.int (-93)], vm := .none },
  { cls := 7, slots := #[.int (-92)], vm := .none },
  { cls := 7, slots := #[.int (-91)], vm := .none },
  { cls := 7, slots := #[.int (-90)], vm := .none },
  { cls := 7, slots := #[.int (-89)], vm := .none },
  { cls := 7, slots := #[.int (-88)], vm := .none },
  { cls := 7, slots := #[.int (-87)], vm := .none },
  { cls := 7, slots := #[.int (-86)], vm := .none },
  { cls := 7, slots := #[.int (-85)], vm := .none },
  { cls := 7, slots := #[.int (-84)], vm := .none },
  { cls := 7, slots := #[.int (-83)], vm := .none },
  { cls := 7, slots := #[.int (-82)], vm := .none },
  { cls := 7, slots := #[.int (-81)], vm := .none },
  { cls := 7, slots := #[.int (-80)], vm := .none },
  { cls := 7, slots := #[.int (-79)], vm := .none },
  { cls := 7, slots := #[.int (-78)], vm := .none },
  { cls := 7, slots := #[.int (-77)], vm := .none },
  { cls := 7, slots := #[.int (-76)], vm := .none },
  { cls := 7, slots := #[.int (-75)], vm := .none },
  { cls := 7, slots := #[.int (-74)], vm := .none },
  { cls := 7, slots := #[.int (-73)], vm := .none },
  { cls := 7, slots := #[.int (-72)], vm := .none },
  { cls := 7, slots := #[.int (-71)], vm := .none },
  { cls := 7, slots := #[.int (-70)], vm := .none },
  { cls := 7, slots := #[.int (-69)], vm := .none },
  { cls := 7, slots := #[.int (-68)], vm := .none },
  { cls := 7, slots := #[.int (-67)], vm := .none },
  { cls := 7, slots := #[.int (-66)], vm := .none },
  { cls := 7, slots := #[.int (-65)], vm := .none },
  { cls := 7, slots := #[.int (-64)], vm := .none },
  { cls := 7, slots := #[.int (-63)], vm := .none },
  { cls := 7, slots := #[.int (-62)], vm := .none },
  { cls := 7, slots := #[.int (-61)], vm := .none },
  { cls := 7, slots := #[.int (-60)], vm := .none },
  { cls := 7, slots := #[.int (-59)], vm := .none },
  { cls := 7, slots := #[.int (-58)], vm := .none },
  { cls := 7, slots := #[.int (-57)], vm := .none },
  { cls := 7, slots := #[.int (-56)], vm := .none },
  { cls := 7, slots := #[.int (-55)], vm := .none },
  { cls := 7, slots := #[.int (-54)], vm := .none },
  { cls := 7, slots := #[.int (-53)], vm := .none },
  { cls := 7, slots := #[.int (-52)], vm := .none },
  { cls := 7, slots := #[.int (-51)], vm := .none },
  { cls := 7, slots := #[.int (-50)], vm := .none },
  { cls := 7, slots := #[.int (-49)], vm := .none },
  { cls := 7, slots := #[.int (-48)], vm := .none },
  { cls := 7, slots := #[.int (-47)], vm := .none },
  { cls := 7, slots := #[.int (-46)], vm := .none },
  { cls := 7, slots := #[.int (-45)], vm := .none },
  { cls := 7, slots := #[.int (-44)], vm := .none },
  { cls := 7, slots := #[.int (-43)], vm := .none },
  { cls := 7, slots := #[.int (-42)], vm := .none },
  { cls := 7, slots := #[.int (-41)], vm := .none },
  { cls := 7, slots := #[.int (-40)], vm := .none },
  { cls := 7, slots := #[.int (-39)], vm := .none },
  { cls := 7, slots := #[.int (-38)], vm := .none },
  { cls := 7, slots := #[.int (-37)], vm := .none },
  { cls := 7, slots := #[.int (-36)], vm := .none },
  { cls := 7, slots := #[.int (-35)], vm := .none },
  { cls := 7, slots := #[.int (-34)], vm := .none },
  { cls := 7, slots := #[.int (-33)], vm := .none },
  { cls := 7, slots := #[.int (-32)], vm := .none },
  { cls := 7, slots := #[.int (-31)], vm := .none },
  { cls := 7, slots := #[.int (-30)], vm := .none },
  { cls := 7, slots := #[.int (-29)], vm := .none },
  { cls := 7, slots := #[.int (-28)], vm := .none },
  { cls := 7, slots := #[.int (-27)], vm := .none },
  { cls := 7, slots := #[.int (-26)], vm := .none },
  { cls := 7, slots := #[.int (-25)], vm := .none },
  { cls := 7, slots := #[.int (-24)], vm := .none },
  { cls := 7, slots := #[.int (-23)], vm := .none },
  { cls := 7, slots := #[.int (-22)], vm := .none },
  { cls := 7, slots := #[.int (-21)], vm := .none },
  { cls := 7, slots := #[.int (-20)], vm := .none },
  { cls := 7, slots := #[.int (-19)], vm := .none },
  { cls := 7, slots := #[.int (-18)], vm := .none },
  { cls := 7, slots := #[.int (-17)], vm := .none },
  { cls := 7, slots := #[.int (-16)], vm := .none },
  { cls := 7, slots := #[.int (-15)], vm := .none },
  { cls := 7, slots := #[.int (-14)], vm := .none },
  { cls := 7, slots := #[.int (-13)], vm := .none },
  { cls := 7, slots := #[.int (-12)], vm := .none },
  { cls := 7, slots := #[.int (-11)], vm := .none },
  { cls := 7, slots := #[.int (-10)], vm := .none },
  { cls := 7, slots := #[.int (-9)], vm := .none },
  { cls := 7, slots := #[.int (-8)], vm := .none },
  { cls := 7, slots := #[.int (-7)], vm := .none },
  { cls := 7, slots := #[.int (-6)], vm := .none },
  { cls := 7, slots := #[.int (-5)], vm := .none },
  { cls := 7, slots := #[.int (-4)], vm := .none },
  { cls := 7, slots := #[.int (-3)], vm := .none },
  { cls := 7, slots := #[.int (-2)], vm := .none },
  { cls := 7, slots := #[.int (-1)], vm := .none },
  { cls := 7, slots := #[.int (0)], vm := .none },
  { cls := 7, slots := #[.int (1)], vm := .none },
  { cls := 7, slots := #[.int (2)], vm := .none },
  { cls := 7, slots := #[.int (3)], vm := .none },
  { cls := 7, slots := #[.int (4)], vm := .none },
  { cls := 7, slots := #[.int (5)], vm := .none },
  { cls := 7, slots := #[.int (6)], vm := .none },
  { cls := 7, slots := #[.int (7)], vm := .none },
  { cls := 7, slots := #[.int (8)], vm := .none },
  { cls := 7, slots := #[.int (9)], vm := .none },
  { cls := 7, slots := #[.int (10)], vm := .none },
  { cls := 7, slots := #[.int (11)], vm := .none },
  { cls := 7, slots := #[.int (12)], vm := .none },
  { cls := 7, slots := #[.int (13)], vm := .none },
  { cls := 7, slots := #[.int (14)], vm := .none },
  { cls := 7, slots := #[.int (15)], vm := .none },
  { cls := 7, slots := #[.int (16)], vm := .none },
  { cls := 7, slots := #[.int (17)], vm := .none },
  { cls := 7, slots := #[.int (18)], vm := .none },
  { cls := 7, slots := #[.int (19)], vm := .none },
  { cls := 7, slots := #[.int (20)], vm := .none },
  { cls := 7, slots := #[.int (21)], vm := .none },
  { cls := 7, slots := #[.int (22)], vm := .none },
  { cls := 7, slots := #[.int (23)], vm := .none },
  { cls := 7, slots := #[.int (24)], vm := .none },
  { cls := 7, slots := #[.int (25)], vm := .none },
  { cls := 7, slots := #[.int (26)], vm := .none },
  { cls := 7, slots := #[.int (27)], vm := .none },
  { cls := 7, slots := #[.int (28)], vm := .none },
  { cls := 7, slots := #[.int (29)], vm := .none },
  { cls := 7, slots := #[.int (30)], vm := .none },
  { cls := 7, slots := #[.int (31)], vm := .none },
  { cls := 7, slots := #[.int (32)], vm := .none },
  { cls := 7, slots := #[.int (33)], vm := .none },
  { cls := 7, slots := #[.int (34)], vm := .none },
  { cls := 7, slots := #[.int (35)], vm := .none },
  { cls := 7, slots := #[.int (36)], vm := .none },
  { cls := 7, slots := #[.int (37)], vm := .none },
  { cls := 7, slots := #[.int (38)], vm := .none },
  { cls := 7, slots := #[.int (39)], vm := .none },
  { cls := 7, slots := #[.int (40)], vm := .none },
  { cls := 7, slots := #[.int (41)], vm := .none },
  { cls := 7, slots := #[.int (42)], vm := .none },
  { cls := 7, slots := #[.int (43)], vm := .none },
  { cls := 7, slots := #[.int (44)], vm := .none },
  { cls := 7, slots := #[.int (45)], vm := .none },
  { cls := 7, slots := #[.int (46)], vm := .none },
  { cls := 7, slots := #[.int (47)], vm := .none },
  { cls := 7, slots := #[.int (48)], vm := .none },
  { cls := 7, slots := #[.int (49)], vm := .none },
  { cls := 7, slots := #[.int (50)], vm := .none },
  { cls := 7, slots := #[.int (51)], vm := .none },
  { cls := 7, slots := #[.int (52)], vm := .none },
  { cls := 7, slots := #[.int (53)], vm := .none },
  { cls := 7, slots := #[.int (54)], vm := .none },
  { cls := 7, slots := #[.int (55)], vm := .none },
  { cls := 7, slots := #[.int (56)], vm := .none },
  { cls := 7, slots := #[.int (57)], vm := .none },
  { cls := 7, slots := #[.int (58)], vm := .none },
  { cls := 7, slots := #[.int (59)], vm := .none },
  { cls := 7, slots := #[.int (60)], vm := .none },
  { cls := 7, slots := #[.int (61)], vm := .none },
  { cls := 7, slots := #[.int (62)], vm := .none },
  { cls := 7, slots := #[.int (63)], vm := .none },
  { cls := 7, slots := #[.int (64)], vm := .none },
  { cls := 7, slots := #[.int (65)], vm := .none },
  { cls := 7, slots := #[.int (66)], vm := .none },
  { cls := 7, slots := #[.int (67)], vm := .none },
  { cls := 7, slots := #[.int (68)], vm := .none },
  { cls := 7, slots := #[.int (69)], vm := .none },
  { cls := 7, slots := #[.int (70)], vm := .none },
  { cls := 7, slots := #[.int (71)], vm := .none },
  { cls := 7, slots := #[.int (72)], vm := .none },
  { cls := 7, slots := #[.int (73)], vm := .none },
  { cls := 7, slots := #[.int (74)], vm := .none },
  { cls := 7, slots := #[.int (75)], vm := .none },
  { cls := 7, slots := #[.int (76)], vm := .none },
  { cls := 7, slots := #[.int (77)], vm := .none },
  { cls := 7, slots := #[.int (78)], vm := .none },
  { cls := 7, slots := #[.int (79)], vm := .none },
  { cls := 7, slots := #[.int (80)], vm := .none },
  { cls := 7, slots := #[.int (81)], vm := .none },
  { cls := 7, slots := #[.int (82)], vm := .none },
  { cls := 7, slots := #[.int (83)], vm := .none },
  { cls := 7, slots := #[.int (84)], vm := .none },
  { cls := 7, slots := #[.int (85)], vm := .none },
  { cls := 7, slots := #[.int (86)], vm := .none },
  { cls := 7, slots := #[.int (87)], vm := .none },
  { cls := 7, slots := #[.int (88)], vm := .none },
  { cls := 7, slots := #[.int (89)], vm := .none },
  { cls := 7, slots := #[.int (90)], vm := .none },
  { cls := 7, slots := #[.int (91)], vm := .none },
  { cls := 7, slots := #[.int (92)], vm := .none },
  { cls := 7, slots := #[.int (93)], vm := .none },
  { cls := 7, slots := #[.int (94)], vm := .none },
  { cls := 7, slots := #[.int (95)], vm := .none },
  { cls := 7, slots := #[.int (96)], vm := .none },
  { cls := 7, slots := #[.int (97)], vm := .none },
  { cls := 7, slots := #[.int (98)], vm := .none },
  { cls := 7, slots := #[.int (99)], vm := .none },
  { cls := 7, slots := #[.int (100)], vm := .none },
  { cls := 7, slots := #[.int (101)], vm := .none },
  { cls := 7, slots := #[.int (102)], vm := .none },
  { cls := 7, slots := #[.int (103)], vm := .none },
  { cls := 7, slots := #[.int (104)], vm := .none },
  { cls := 7, slots := #[.int (105)], vm := .none },
  { cls := 7, slots := #[.int (106)], vm := .none },
  { cls := 7, slots := #[.int (107)], vm := .none },
  { cls := 7, slots := #[.int (108)], vm := .none },
  { cls := 7, slots := #[.int (109)], vm := .none },
  { cls := 7, slots := #[.int (110)], vm := .none },
  { cls := 7, slots := #[.int (111)], vm := .none },
  { cls := 7, slots := #[.int (112)], vm := .none },
  { cls := 7, slots := #[.int (113)], vm := .none },
  { cls := 7, slots := #[.int (114)], vm := .none },
  { cls := 7, slots := #[.int (115)], vm := .none },
  { cls := 7, slots := #[.int (116)], vm := .none },
  { cls := 7, slots := #[.int (117)], vm := .none },
  { cls := 7, slots := #[.int (118)], vm := .none },
  { cls := 7, slots := #[.int (119)], vm := .none },
  { cls := 7, slots := #[.int (120)], vm := .none },
  { cls := 7, slots := #[.int (121)], vm := .none },
  { cls := 7, slots := #[.int (122)], vm := .none },
  { cls := 7, slots := #[.int (123)], vm := .none },
  { cls := 7, slots := #[.int (124)], vm := .none },
  { cls := 7, slots := #[.int (125)], vm := .none },
  { cls := 7, slots := #[.int (126)], vm := .none },
  { cls := 7, slots := #[.int (127)], vm := .none }]
def classes : Array Class := #[k0, k1, k2, k3, k4, k5, k6, k7, k8, k9, k10, k11, k12, k13, k14, k15]
def interned : List (Array UInt16 × Addr) := []
def slotsUsed : Nat := 517
def theMethod : MethodId := ⟨1, 1⟩
def args0 : Array Value := #[.int 5, .int 3, .int 7]
def aboutOver (below : List Frame) : State where
  vm := { classes := classes, interned := interned.toArray }
  heap := heap
  slotsUsed := slotsUsed
  threads := #[{ frames := .invoking theMethod args0 :: below }]
def below0 : List Frame := [.native { method := ⟨0, 0⟩, args := #[] }]
def about1 : State := aboutOver below0
def p0 : Program := .bare "" "" ""
def e0 : Env := launch0.env 0 0 0
theorem w_frames : about1.frames = Frame.invoking theMethod args0 :: below0 := rfl
set_option maxRecDepth 65536 in
theorem w_args : argsFit about1.vm theMethod args0 = true := by decide +kernel
set_option maxRecDepth 65536 in
theorem w_heap : heapFits about1 = true := by decide +kernel
set_option maxRecDepth 65536 in
theorem w_runnable : about1.curStatus? = some .runnable := by decide +kernel
set_option maxRecDepth 65536 in
theorem w_alone : about1.alone = true := by decide +kernel
set_option maxRecDepth 65536 in
theorem w_named : about1.methodNamed? x = some theMethod := by decide +kernel
set_option maxRecDepth 65536 in
theorem w_hears : about1.hears theMethod below0 = true := by decide +kernel
set_option maxRecDepth 65536 in
theorem w_ripe : about1.ripe theMethod args0 below0 = true := by decide +kernel
theorem w_running : about1.status = .running := rfl
set_option maxRecDepth 65536 in
theorem w_room : about1.hasRoom e0.platform room_1 = true :=
  launch0.hasRoom_least _ room_1 (by decide +kernel) (by decide +kernel) (by decide +kernel) (by decide +kernel) (by decide +kernel) (by decide +kernel)
theorem allAtoms_all (ts : List Jvm.Cond) (a : Array Jvm.Value) (st : Jvm.State) : (allAtoms ts).before a st = ts.all (fun c => c.before a st) := by
  induction ts with
  | nil => rfl
  | cons c t ih =>
    show (Jvm.Cond.and c (allAtoms t)).before a st = _
    rw [Jvm.Cond.before_and, ih, List.all_cons]
def words1 : List Jvm.Cond := Jvm.Cond.code x code maxLocals ret :: tables_1
/-- a 'code' word, met by the world's own term for the bytes: nothing is compared byte by byte -/
theorem code_word {y : MethodName} {bytes : ByteArray} {mx : Nat} {rt : Option FieldType} {a : Array Value} {s : State} {m : MethodId} {meth : Method} {c : Code} (h1 : s.methodNamed? y = some m) (h2 : s.vm.method? m = some meth) (h3 : meth.code = some c) (h4 : c.code = bytes)
    (h5 : (c.maxLocals == mx && c.exceptionTable.isEmpty && decide (c.maxStack ≤ mostOperands) && decide (meth.sig.returnType = rt) && !meth.locks && decide (parseMethodDescriptor y.desc = some meth.sig)) = true) : (Jvm.Cond.code y bytes mx rt).before a s = true := by
  simp only [Bool.and_eq_true, beq_iff_eq, Bool.not_eq_true', decide_eq_true_eq] at h5
  obtain ⟨⟨⟨⟨⟨g1, g2⟩, g3⟩, g4⟩, g5⟩, g6⟩ := h5
  simp [Cond.before, Cond.holds, Cond.value, h1, h2, h3, h4, g1, g2, g3, g4, g5, g6]
def isCode : Jvm.Cond → Bool
  | .code _ _ _ _ => true
  | _ => false
theorem all_split {L : List Jvm.Cond} {P : Jvm.Cond → Bool} (h1 : L.all (fun c => isCode c || P c) = true) (h2 : ∀ c ∈ L.filter isCode, P c = true) : L.all P = true := by
  refine List.all_eq_true.mpr fun c hc => ?_
  have h := List.all_eq_true.mp h1 c hc
  rcases Bool.eq_false_or_eq_true (isCode c) with hi | hi
  · exact h2 c (List.mem_filter.mpr ⟨hc, hi⟩)
  · simpa [hi] using h
set_option maxRecDepth 65536 in
theorem w_c0 : (Jvm.Cond.code x code maxLocals ret).before args0 about1 = true := code_word (m := ⟨1, 1⟩) (meth := k1m1) (c := k1c1) (by decide +kernel) rfl rfl rfl (by decide +kernel)
set_option maxRecDepth 65536 in
theorem w_c1 : (Jvm.Cond.code ({ cls := "java/lang/Integer", name := "valueOf", desc := "(I)Ljava/lang/Integer;" } : Jvm.MethodName) jdk_33_method_22_code (1 : Nat) (Option.some (Jvm.ClassFile.FieldType.object "java/lang/Integer"))).before args0 about1 = true := code_word (m := ⟨7, 0⟩) (meth := k7m0) (c := k7c0) (by decide +kernel) rfl rfl rfl (by decide +kernel)
set_option maxRecDepth 65536 in
theorem w_c2 : (Jvm.Cond.code ({ cls := "org/tidemark/state/Current", name := "<init>", desc := "()V" } : Jvm.MethodName) prog_115_method_1_code (1 : Nat) (Option.none : Option Jvm.ClassFile.FieldType)).before args0 about1 = true := code_word (m := ⟨9, 0⟩) (meth := k9m0) (c := k9c0) (by decide +kernel) rfl rfl rfl (by decide +kernel)
set_option maxRecDepth 65536 in
theorem w_c3 : (Jvm.Cond.code ({ cls := "java/lang/Object", name := "<init>", desc := "()V" } : Jvm.MethodName) object_method_1_code (1 : Nat) (Option.none : Option Jvm.ClassFile.FieldType)).before args0 about1 = true := code_word (m := ⟨0, 0⟩) (meth := k0m0) (c := k0c0) (by decide +kernel) rfl rfl rfl (by decide +kernel)
set_option maxRecDepth 65536 in
theorem w_c4 : (Jvm.Cond.code ({ cls := "org/tidemark/state/Current", name := "sets", desc := "()J" } : Jvm.MethodName) prog_115_method_3_code (1 : Nat) (Option.some Jvm.ClassFile.FieldType.long)).before args0 about1 = true := code_word (m := ⟨9, 2⟩) (meth := k9m2) (c := k9c2) (by decide +kernel) rfl rfl rfl (by decide +kernel)
set_option maxRecDepth 65536 in
theorem w_c5 : (Jvm.Cond.code ({ cls := "org/tidemark/state/Current", name := "set", desc := "(Ljava/lang/Object;)Z" } : Jvm.MethodName) prog_115_method_4_code (2 : Nat) (Option.some Jvm.ClassFile.FieldType.boolean)).before args0 about1 = true := code_word (m := ⟨9, 3⟩) (meth := k9m3) (c := k9c3) (by decide +kernel) rfl rfl rfl (by decide +kernel)
set_option maxRecDepth 65536 in
theorem w_c6 : (Jvm.Cond.code ({ cls := "org/tidemark/state/Current", name := "get", desc := "()Ljava/lang/Object;" } : Jvm.MethodName) prog_115_method_2_code (1 : Nat) (Option.some (Jvm.ClassFile.FieldType.object "java/lang/Object"))).before args0 about1 = true := code_word (m := ⟨9, 1⟩) (meth := k9m1) (c := k9c1) (by decide +kernel) rfl rfl rfl (by decide +kernel)
set_option maxRecDepth 65536 in
theorem w_c7 : (Jvm.Cond.code ({ cls := "java/lang/Integer", name := "<init>", desc := "(I)V" } : Jvm.MethodName) jdk_33_method_23_code (2 : Nat) (Option.none : Option Jvm.ClassFile.FieldType)).before args0 about1 = true := code_word (m := ⟨7, 1⟩) (meth := k7m1) (c := k7c1) (by decide +kernel) rfl rfl rfl (by decide +kernel)
set_option maxRecDepth 65536 in
theorem w_c8 : (Jvm.Cond.code ({ cls := "java/lang/Number", name := "<init>", desc := "()V" } : Jvm.MethodName) jdk_18_method_1_code (1 : Nat) (Option.none : Option Jvm.ClassFile.FieldType)).before args0 about1 = true := code_word (m := ⟨3, 0⟩) (meth := k3m0) (c := k3c0) (by decide +kernel) rfl rfl rfl (by decide +kernel)
def codes1 : List Jvm.Cond := [Jvm.Cond.code x code maxLocals ret, Jvm.Cond.code ({ cls := "java/lang/Integer", name := "valueOf", desc := "(I)Ljava/lang/Integer;" } : Jvm.MethodName) jdk_33_method_22_code (1 : Nat) (Option.some (Jvm.ClassFile.FieldType.object "java/lang/Integer")), Jvm.Cond.code ({ cls := "org/tidemark/state/Current", name := "<init>", desc := "()V" } : Jvm.MethodName) prog_115_method_1_code (1 : Nat) (Option.none : Option Jvm.ClassFile.FieldType), Jvm.Cond.code ({ cls := "java/lang/Object", name := "<init>", desc := "()V" } : Jvm.MethodName) object_method_1_code (1 : Nat) (Option.none : Option Jvm.ClassFile.FieldType), Jvm.Cond.code ({ cls := "org/tidemark/state/Current", name := "sets", desc := "()J" } : Jvm.MethodName) prog_115_method_3_code (1 : Nat) (Option.some Jvm.ClassFile.FieldType.long), Jvm.Cond.code ({ cls := "org/tidemark/state/Current", name := "set", desc := "(Ljava/lang/Object;)Z" } : Jvm.MethodName) prog_115_method_4_code (2 : Nat) (Option.some Jvm.ClassFile.FieldType.boolean), Jvm.Cond.code ({ cls := "org/tidemark/state/Current", name := "get", desc := "()Ljava/lang/Object;" } : Jvm.MethodName) prog_115_method_2_code (1 : Nat) (Option.some (Jvm.ClassFile.FieldType.object "java/lang/Object")), Jvm.Cond.code ({ cls := "java/lang/Integer", name := "<init>", desc := "(I)V" } : Jvm.MethodName) jdk_33_method_23_code (2 : Nat) (Option.none : Option Jvm.ClassFile.FieldType), Jvm.Cond.code ({ cls := "java/lang/Number", name := "<init>", desc := "()V" } : Jvm.MethodName) jdk_18_method_1_code (1 : Nat) (Option.none : Option Jvm.ClassFile.FieldType)]
set_option maxRecDepth 65536 in
theorem codes_eq : words1.filter isCode = codes1 := rfl
theorem w_codes : ∀ c ∈ words1.filter isCode, c.before args0 about1 = true := by
  rw [codes_eq]
  intro c hc
  simp only [codes1, List.mem_cons, List.not_mem_nil, or_false] at hc
  rcases hc with rfl | rfl | rfl | rfl | rfl | rfl | rfl | rfl | rfl
  · exact w_c0
  · exact w_c1
  · exact w_c2
  · exact w_c3
  · exact w_c4
  · exact w_c5
  · exact w_c6
  · exact w_c7
  · exact w_c8
set_option maxRecDepth 65536 in
theorem w_t1 : (words1.take 24).all (fun c => isCode c || c.before args0 about1) = true := by decide +kernel
set_option maxRecDepth 65536 in
theorem w_t2 : ((words1.drop 24).take 24).all (fun c => isCode c || c.before args0 about1) = true := by decide +kernel
set_option maxRecDepth 65536 in
theorem w_t3 : ((words1.drop 24).drop 24).all (fun c => isCode c || c.before args0 about1) = true := by decide +kernel
theorem w_tables : (allAtoms (Jvm.Cond.code x code maxLocals ret :: tables_1)).before args0 about1 = true := by
  rw [allAtoms_all]
  show words1.all (fun c => c.before args0 about1) = true
  refine all_split ?_ w_codes
  rw [← List.take_append_drop 24 words1, List.all_append, w_t1, ← List.take_append_drop 24 (words1.drop 24), List.all_append, w_t2, w_t3]
  rfl
set_option maxRecDepth 65536 in
theorem w_rest : rest_1_c.before args0 about1 = true := by decide +kernel
set_option maxRecDepth 65536 in
theorem w_case : (Jvm.Cond.and given_1 narrow_1).before args0 about1 = true := by decide +kernel
theorem w_applies : (headSpec (Jvm.Cond.code x code maxLocals ret :: tables_1) room_1).applies x e0.platform about1 = true :=
  (Spec.applies_iff w_frames).mpr ⟨w_running, w_runnable, w_alone, w_named, w_hears, w_ripe, w_room, w_tables⟩
theorem atStart : AtStart classFile x code maxLocals ret World_1 tables_1 room_1 Calls_1 rest_1 Pre_1 launch0 p0 e0 about1 theMethod args0 below0 :=
  ⟨lists_1, trivial, launch0.admits_env _ _ _, launch0.least_env, fairChoices_fair.cas, fairChoices_fair.clock, w_frames, w_args, w_heap, w_applies, trivial, w_rest, w_case⟩
end start1
theorem witness_1 : WitnessClaimed_1 := ⟨start1.p0, start1.e0, start1.about1, start1.theMethod, start1.args0, start1.below0, start1.atStart⟩
end Jvm.Pilot.@@N@@
