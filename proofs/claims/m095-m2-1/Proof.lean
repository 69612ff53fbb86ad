import JvmDerived
import JvmDerived.Pilot.@@N@@Statement
import JvmDerived.Pilot.@@N@@Code
set_option linter.unusedVariables false
set_option linter.unusedSimpArgs false
namespace Jvm.Pilot.@@N@@
open Jvm Jvm.ClassFile Sem Op Lib Jvm.Free Jvm.Stand Jvm.LawKit Jvm.RoadKit Bundle Jvm.Pilot.@@N@@.Jvm.D
/-! ## OWN KIT: a symbolic heap (Ob, Is, Hp), the place of a walk (St), what is still to run (Go), contracts (Con) -/
abbrev vI (z : Int32) : Slot := .val (.int z)
abbrev vJ (z : Int64) : Slot := .val (.long z)
abbrev vR (z : Addr) : Slot := .val (.ref z)
abbrev sc : Slot := .second
abbrev un : Slot := .unset
theorem oS {α : Type} (z : α) : Option.toList (some z) = [z] := rfl
theorem oN {α : Type} : Option.toList (none : Option α) = [] := rfl
theorem cA {α : Type} (z : α) (u v : List α) : (z :: u) ++ v = z :: (u ++ v) := rfl
theorem nA {α : Type} (u : List α) : [] ++ u = u := rfl
theorem leB {a b : Nat} (q : Nat.ble a b = true) : a ≤ b := Nat.le_of_ble_eq_true q
abbrev Ob := Sum (String × List (String × String × String) × List Value) (FieldType × List Value)
def Is (Z : State) (h : Heap) (a : Addr) : Ob → Prop
  | .inl (C, fs, vs) => Exa Z h a C ∧ ∀ (i : Nat) (f : String × String × String) (v : Value), fs[i]? = some f → vs[i]? = some v → Fld Z h a f.1 f.2.1 f.2.2 v
  | .inr (ty, vs) => ∃ c : Cell, Arr Z h a c ty ∧ (∀ C, ty = .object C → Ovr Z c.cls C) ∧ c.slots = vs.toArray ∧ vs.length < 2 ^ 31 ∧ ∀ v ∈ vs, fits ty v = true
def Hp (Z : State) (h0 : Heap) (n0 : Nat) (Ls : List Ob) (h : Heap) : Prop := h0.size = n0 ∧ Ext h0 h ∧ h.size = n0 + Ls.length ∧ ∀ (k : Nat) (o : Ob), Ls[k]? = some o → Is Z h (n0 + k) o
/-- the object at the address a: one of the new ones, or one of the start's -/
def Lk (Z : State) (h0 : Heap) (n0 : Nat) (Ls : List Ob) (a : Addr) (o : Ob) : Prop := (∃ k, a = n0 + k ∧ Ls[k]? = some o) ∨ Is Z h0 a o
def St (p : Program) (l : Launch) (e : Env) (R : Room) (s : State) (m : MethodId) (args : Array Value) (below : List Frame) (meth : Method) (c : Code) (Z : State) (y : MethodName) (bytes : ByteArray) (ml : Nat) (ret : Option FieldType) (h0 : Heap) (n0 : Nat) (T : State) (Ls : List Ob) (cells slots : Nat) : Prop :=
  (p.tables.exec = Jvm.exec ∧ Z.Warmed39 s.vm ∧ s.vm.findClass y.cls = some m.cls ∧ c.code = bytes ∧ c.maxLocals = ml ∧ meth.name = y.name ∧ meth.sig.returnType = ret ∧ meth.locks = false) ∧
  ∃ locs, Stand p l e R s m args below meth c T locs cells slots ∧ Fr n0 locs ∧ Hp Z h0 n0 Ls T.heap
def Go (p : Program) (e : Env) (below : List Frame) (F : State → Outcome → Prop) (T : State) (g : JFrame) : Prop := ∃ t o, Steps p.tables e below (T.setTop g) t ∧ t.status = .running ∧ Ended t below o ∧ F t o
/-- what a method's end must be: it returns v with the heap Ls', as P says -/
def Fin1 (Z : State) (h0 : Heap) (n0 : Nat) (s : State) (rm : Room) (P : Option Value → List Ob → Prop) (t : State) (o : Outcome) : Prop :=
  ∃ v L, o = .returned v ∧ (∃ Ls', P v Ls' ∧ Fr n0 L ∧ Hp Z h0 n0 Ls' t.heap) ∧ FrameEnd s o t L rm.cells rm.slots
def Met1 (l : Launch) (Z : State) (y : MethodName) (bytes : ByteArray) (ml : Nat) (ret : Option FieldType) (rm : Room) (as' : Array Value) (h0 : Heap) (n0 : Nat) (Ls : List Ob) (P : Option Value → List Ob → Prop) (ws : List Jvm.Cond) : Prop :=
  ∀ h, Hp Z h0 n0 Ls h → MetFree l y (head1 (Cond.code y bytes ml ret :: ws) rm) (fun a U => a = as' ∧ Z.Warmed39 U.vm ∧ U.heap = h) (fun _ _ _ _ _ => True) (fun _ U o U' => ∃ v L, o = .returned v ∧ (∃ Ls', P v Ls' ∧ Fr n0 L ∧ Hp Z h0 n0 Ls' U'.heap) ∧ FrameEnd U o U' L rm.cells rm.slots)
abbrev Con (l : Launch) (Z : State) (y : MethodName) (bytes : ByteArray) (ml : Nat) (ret : Option FieldType) (rm : Room) (as' : Array Value) (h0 : Heap) (n0 : Nat) (Ls : List Ob) (P : Option Value → List Ob → Prop) : Prop := Met1 l Z y bytes ml ret rm as' h0 n0 Ls P []
/-- a class as the sheet lays it: its fields fs (owner, name, descriptor) -/
def Cls (Z : State) (a0 : Array Value) (C : String) (kk : Nat) (fs : List (String × String × String)) : Prop :=
  (Cond.instantiable C kk).before a0 Z = true ∧ (∀ (i : Nat) (f : String × String × String), fs[i]? = some f → Laid Z a0 C f.1 f.2.1 f.2.2 ∧ ∃ t, parseFieldDescriptor f.2.2 = some t) ∧ ∀ (i j : Nat) (f g : String × String × String), fs[i]? = some f → fs[j]? = some g → f.2.1 = g.2.1 → i = j
section Own
variable {p : Program} {l : Launch} {e : Env} {R : Room} {s : State} {m : MethodId} {args : Array Value} {below : List Frame} {meth : Method} {c : Code} {Z : State} {a0 : Array Value} {y : MethodName} {bytes : ByteArray} {ml : Nat} {ret : Option FieldType} {h0 h h' : Heap} {n0 : Nat} {T T' : State} {Ls Ls' : List Ob} {cells slots : Nat} {F : State → Outcome → Prop} {g g' : JFrame} {pc pc' : Nat} {ls : Array Slot} {st rest : List Value} {a b : Addr} {sl : Nat} {v : Value} {o : Ob}
theorem Is.ext (E : Ext h h') (q : Is Z h a o) : Is Z h' a o := by
  rcases o with ⟨C, fs, vs⟩ | ⟨ty, vs⟩
  · exact ⟨q.1.ext E, fun i f v h1 h2 => (q.2 i f v h1 h2).ext E⟩
  · obtain ⟨c, A, r⟩ := q; exact ⟨c, A.ext E, r⟩
theorem Is.other (W : Wr h h' b sl v) (q : Is Z h a o) (ne : a ≠ b) : Is Z h' a o := by
  rcases o with ⟨C, fs, vs⟩ | ⟨ty, vs⟩
  · exact ⟨q.1.wr W, fun i f v h1 h2 => (q.2 i f v h1 h2).other W (Or.inl ne)⟩
  · obtain ⟨c, A, r⟩ := q; exact ⟨c, A.other W ne, r⟩
theorem Is.keep {ws : List Addr} (K : Keep h h' ws) (q : Is Z h a o) (ne : a ∉ ws) : Is Z h' a o := by
  rcases o with ⟨C, fs, vs⟩ | ⟨ty, vs⟩
  · exact ⟨q.1.keep K, fun i f v h1 h2 => (q.2 i f v h1 h2).keep K ne⟩
  · obtain ⟨c, A, r⟩ := q; exact ⟨c, ⟨K.2.1 a c A.1 ne, A.2⟩, r⟩
theorem ext_trans {h1 h2 h3 : Heap} (E : Ext h1 h2) (E' : Ext h2 h3) : Ext h1 h3 := ⟨Nat.le_trans E.1 E'.1, fun a c q => E'.2 a c (E.2 a c q)⟩
theorem ext_keep {ws : List Addr} (E : Ext h0 h) (K : Keep h h' ws) (q : ∀ x ∈ ws, h0.size ≤ x) : Ext h0 h' :=
  ⟨Nat.le_trans E.1 K.1, fun a c r => K.2.1 a c (E.2 a c r) fun z => absurd (Array.getElem?_eq_some_iff.mp r).1 (Nat.not_lt.mpr (q a z))⟩
theorem Hp.start (s : State) (Z : State) : Hp Z s.heap s.heap.size [] s.heap := ⟨rfl, ⟨Nat.le_refl _, fun _ _ q => q⟩, rfl, fun k o q => by simp at q⟩
theorem Hp.at {k : Nat} (H : Hp Z h0 n0 Ls h) (q : Ls[k]? = some o) : Is Z h (n0 + k) o := H.2.2.2 k o q
theorem Hp.lk (H : Hp Z h0 n0 Ls h) (q : Lk Z h0 n0 Ls a o) : Is Z h a o := by
  rcases q with ⟨k, rfl, q⟩ | q
  · exact H.at q
  · exact q.ext H.2.1
theorem Lk.new {k : Nat} (q : Ls[k]? = some o) : Lk Z h0 n0 Ls (n0 + k) o := Or.inl ⟨k, rfl, q⟩
/-- one more cell at the end -/
theorem Hp.push {cell : Cell} (H : Hp Z h0 n0 Ls h) (q : Is Z (h.push cell) (n0 + Ls.length) o) : Hp Z h0 n0 (Ls ++ [o]) (h.push cell) := by
  obtain ⟨q1, E, q2, q3⟩ := H
  have E' : Ext h (h.push cell) := ⟨by simp, fun a c r => by
    rw [Array.getElem?_push_lt (Array.getElem?_eq_some_iff.mp r).1]; exact (Array.getElem?_eq_getElem _).symm.trans r⟩
  refine ⟨q1, ext_trans E E', by simp [q2]; omega, fun k o' r => ?_⟩
  by_cases hk : k < Ls.length
  · rw [List.getElem?_append_left hk] at r; exact (q3 k o' r).ext E'
  · rw [List.getElem?_append_right (Nat.le_of_not_lt hk)] at r
    have e0 : k - Ls.length = 0 := by
      rcases Nat.eq_zero_or_pos (k - Ls.length) with z | z
      · exact z
      · rw [List.getElem?_eq_none (by simp; omega)] at r; cases r
    rw [e0] at r
    have e1 : k = Ls.length := by omega
    cases (Option.some.inj r : o = o'); rw [e1]; exact q
/-- one object written -/
theorem Hp.wr {k : Nat} {o' : Ob} (H : Hp Z h0 n0 Ls h) (hk : Ls[k]? = some o') (W : Wr h h' (n0 + k) sl v) (q : Is Z h' (n0 + k) o) : Hp Z h0 n0 (Ls.set k o) h' := by
  obtain ⟨q1, E, q2, q3⟩ := H
  have E' : Ext h0 h' := ext_keep E (Keep.of_wr W) fun x hx => by cases List.mem_singleton.mp hx; omega
  refine ⟨q1, E', by rw [W.size, q2]; simp, fun j o2 r => ?_⟩
  rw [List.getElem?_set] at r
  by_cases e : k = j
  · subst e
    have hl : k < Ls.length := (List.getElem?_eq_some_iff.mp hk).1
    simp [hl] at r; subst r; exact q
  · rw [if_neg e] at r
    exact (q3 j o2 r).other W (fun z => e (Nat.add_left_cancel z).symm)
/-- one object written over, all else kept -/
theorem Hp.keep {k : Nat} {o' : Ob} (H : Hp Z h0 n0 Ls h) (hk : Ls[k]? = some o') (K : Keep h h' [n0 + k]) (hs : h'.size = h.size) (q : Is Z h' (n0 + k) o) : Hp Z h0 n0 (Ls.set k o) h' := by
  obtain ⟨q1, E, q2, q3⟩ := H
  have E' : Ext h0 h' := ext_keep E K fun x hx => by cases List.mem_singleton.mp hx; omega
  refine ⟨q1, E', by rw [hs, q2]; simp, fun j o2 r => ?_⟩
  rw [List.getElem?_set] at r
  by_cases e : k = j
  · subst e
    have hl : k < Ls.length := (List.getElem?_eq_some_iff.mp hk).1
    simp [hl] at r; subst r; exact q
  · rw [if_neg e] at r
    exact (q3 j o2 r).keep K (fun z => e (Nat.add_left_cancel (List.mem_singleton.mp z)).symm)
theorem lk_set {k : Nat} {o' : Ob} (q : Ls[k]? = some o') : (Ls.set k o)[k]? = some o := by have := (List.getElem?_eq_some_iff.mp q).1; simp [this]
theorem lk_ne {j k : Nat} {o' : Ob} (q : Ls[j]? = some o') (ne : k ≠ j) : (Ls.set k o)[j]? = some o' := by rw [List.getElem?_set_ne ne]; exact q
theorem lk_app {j : Nat} {M : List Ob} (q : Ls[j]? = some o) : (Ls ++ M)[j]? = some o := by rw [List.getElem?_append_left (List.getElem?_eq_some_iff.mp q).1]; exact q
theorem lk_last : (Ls ++ [o])[Ls.length]? = some o := by simp
theorem lk_lastN {N : Nat} (q : Ls.length = N) : (Ls ++ [o])[N]? = some o := by subst q; exact lk_last
theorem set_lastN {N : Nat} {o' : Ob} (q : Ls.length = N) : (Ls ++ [o]).set N o' = Ls ++ [o'] := by subst q; simp
theorem set_last {o' : Ob} : (Ls ++ [o]).set Ls.length o' = Ls ++ [o'] := by simp
theorem set_app {k : Nat} {o' o2 : Ob} {M : List Ob} (q : Ls[k]? = some o2) : (Ls ++ M).set k o' = Ls.set k o' ++ M := List.set_append_left _ _ (List.getElem?_eq_some_iff.mp q).1
theorem set_suf {Pre Bs : List Ob} {N j : Nat} (hN : Pre.length = N) : (Pre ++ Bs).set (N + j) o = Pre ++ Bs.set j o := by subst hN; rw [List.set_append_right _ _ (Nat.le_add_right _ _), Nat.add_sub_cancel_left]
theorem lk_suf {Pre Bs : List Ob} {N j : Nat} (hN : Pre.length = N) (q : Bs[j]? = some o) : (Pre ++ Bs)[N + j]? = some o := by subst hN; rw [List.getElem?_append_right (Nat.le_add_right _ _), Nat.add_sub_cancel_left]; exact q
theorem ad_ne {i j : Nat} (e : i ≠ j) : n0 + i ≠ n0 + j := fun z => e (Nat.add_left_cancel z)
theorem Lk.set {k : Nat} {o' o2 : Ob} (q : Lk Z h0 n0 Ls a o) (hk : Ls[k]? = some o') (ne : a ≠ n0 + k) : Lk Z h0 n0 (Ls.set k o2) a o := by
  rcases q with ⟨j, rfl, q⟩ | q
  · exact Or.inl ⟨j, rfl, lk_ne q (fun z => ne (by rw [z]))⟩
  · exact Or.inr q
theorem Lk.app {M : List Ob} (q : Lk Z h0 n0 Ls a o) : Lk Z h0 n0 (Ls ++ M) a o := by
  rcases q with ⟨j, rfl, q⟩ | q
  · exact Or.inl ⟨j, rfl, lk_app q⟩
  · exact Or.inr q
theorem St.more {cells' slots' : Nat} (w : St p l e R s m args below meth c Z y bytes ml ret h0 n0 T Ls cells slots) (h1 : cells ≤ cells') (h2 : slots ≤ slots') : St p l e R s m args below meth c Z y bytes ml ret h0 n0 T Ls cells' slots' := by
  obtain ⟨w1, locs, X, r⟩ := w; exact ⟨w1, locs, X.more h1 h2, r⟩
theorem Go.via (k : Go p e below F T' g' → Go p e below F T g) (G : Go p e below F T' g') : Go p e below F T g := k G
theorem Go.viaAll {α : Type} {G' : α → JFrame} (k : (∀ z : α, Go p e below F T' (G' z)) → Go p e below F T g) (K : ∀ z, Go p e below F T' (G' z)) : Go p e below F T g := k K
theorem St.exec (w : St p l e R s m args below meth c Z y bytes ml ret h0 n0 T Ls cells slots) : p.tables.exec = Jvm.exec := w.1.1
theorem St.here (w : St p l e R s m args below meth c Z y bytes ml ret h0 n0 T Ls cells slots) : At T m c below := by obtain ⟨-, _, X, -⟩ := w; exact X.here
theorem St.code (w : St p l e R s m args below meth c Z y bytes ml ret h0 n0 T Ls cells slots) : c.code = bytes := w.1.2.2.2.1
theorem Go.of (k : ∀ t, Steps p.tables e below (T'.setTop g') t → Steps p.tables e below (T.setTop g) t) (G : Go p e below F T' g') : Go p e below F T g := by
  obtain ⟨t, o, q, r⟩ := G; exact ⟨t, o, k t q, r⟩
theorem Go.cast (q : g = g') (G : Go p e below F T g') : Go p e below F T g := q ▸ G
theorem Met1.of {rm : Room} {as' : Array Value} {Q : Option Value → List Ob → Prop} {ws : List Jvm.Cond} (hp : plainFor y = true) (ef : ∀ m, entryFrame m as' ml = mkF m 0 ls [])
    (body : ∀ (p : Program) (e : Env) (s : State) (m : MethodId) (below : List Frame) (meth : Method) (c : Code) (T : State), St p l e rm s m as' below meth c Z y bytes ml ret h0 n0 T Ls 0 0 → Go p e below (Fin1 Z h0 n0 s rm Q) T (mkF m 0 ls [])) :
    Met1 l Z y bytes ml ret rm as' h0 n0 Ls Q ws := by
  intro h H
  refine MetFree.of_bodySF hp hisR ?_
  intro p e s m args below meth c s₁ Bd hml hP hK
  obtain ⟨rfl, hZ, hh⟩ := hP
  have e0 : s₁.heap = h := by rw [← hh, Bd.state]; rfl
  have G := body p e s m below meth c s₁ ⟨⟨Bd.exec, hZ, findClass_of_methodNamed Bd.named, Bd.bytes, hml, (name_of_methodNamed Bd.named Bd.method).1, Bd.returns, Bd.notSynchronized⟩, [], Stand.of_body Bd, Fr.nil _, by rw [e0]; exact H⟩
  rw [← ef m] at G
  exact G

theorem s_iadd {x z : Int32} (w : St p l e R s m args below meth c Z y bytes ml ret h0 n0 T Ls cells slots) (d : decode bytes pc = .ok (.iadd, 1)) (hp : pc + 1 = pc') (G : Go p e below F T (mkF m pc' ls (.int (x + z) :: st))) : Go p e below F T (mkF m pc ls (.int z :: .int x :: st)) := by
  subst hp; exact Go.of (fun t q => XS.iadd w.here w.exec rfl (hb w.code d) rfl q) G
theorem s_isub {x z : Int32} (w : St p l e R s m args below meth c Z y bytes ml ret h0 n0 T Ls cells slots) (d : decode bytes pc = .ok (.isub, 1)) (hp : pc + 1 = pc') (G : Go p e below F T (mkF m pc' ls (.int (x - z) :: st))) : Go p e below F T (mkF m pc ls (.int z :: .int x :: st)) := by
  subst hp; exact Go.of (fun t q => XS.isub w.here w.exec rfl (hb w.code d) rfl q) G
theorem s_iand {x z : Int32} (w : St p l e R s m args below meth c Z y bytes ml ret h0 n0 T Ls cells slots) (d : decode bytes pc = .ok (.iand, 1)) (hp : pc + 1 = pc') (G : Go p e below F T (mkF m pc' ls (.int (x &&& z) :: st))) : Go p e below F T (mkF m pc ls (.int z :: .int x :: st)) := by
  subst hp; exact Go.of (fun t q => XS.iand w.here w.exec rfl (hb w.code d) rfl q) G
theorem s_imul {x z : Int32} (w : St p l e R s m args below meth c Z y bytes ml ret h0 n0 T Ls cells slots) (d : decode bytes pc = .ok (.imul, 1)) (hp : pc + 1 = pc') (G : Go p e below F T (mkF m pc' ls (.int (x * z) :: st))) : Go p e below F T (mkF m pc ls (.int z :: .int x :: st)) := by
  subst hp; exact Go.of (fun t q => XS.imul w.here w.exec rfl (hb w.code d) rfl q) G
theorem s_ixor {x z : Int32} (w : St p l e R s m args below meth c Z y bytes ml ret h0 n0 T Ls cells slots) (d : decode bytes pc = .ok (.ixor, 1)) (hp : pc + 1 = pc') (G : Go p e below F T (mkF m pc' ls (.int (x ^^^ z) :: st))) : Go p e below F T (mkF m pc ls (.int z :: .int x :: st)) := by
  subst hp; exact Go.of (fun t q => XT.ixor w.here w.exec rfl (hb w.code d) rfl q) G
theorem s_ior {x z : Int32} (w : St p l e R s m args below meth c Z y bytes ml ret h0 n0 T Ls cells slots) (d : decode bytes pc = .ok (.ior, 1)) (hp : pc + 1 = pc') (G : Go p e below F T (mkF m pc' ls (.int (x ||| z) :: st))) : Go p e below F T (mkF m pc ls (.int z :: .int x :: st)) := by
  subst hp; exact Go.of (fun t q => XT.ior w.here w.exec rfl (hb w.code d) rfl q) G
theorem s_iushr {x z : Int32} (w : St p l e R s m args below meth c Z y bytes ml ret h0 n0 T Ls cells slots) (d : decode bytes pc = .ok (.iushr, 1)) (hp : pc + 1 = pc') (G : Go p e below F T (mkF m pc' ls (.int (Jvm.Free.XT.ushr x z) :: st))) : Go p e below F T (mkF m pc ls (.int z :: .int x :: st)) := by
  subst hp; exact Go.of (fun t q => XT.iushr w.here w.exec rfl (hb w.code d) rfl q) G
theorem s_ishl {x z : Int32} (w : St p l e R s m args below meth c Z y bytes ml ret h0 n0 T Ls cells slots) (d : decode bytes pc = .ok (.ishl, 1)) (hp : pc + 1 = pc') (G : Go p e below F T (mkF m pc' ls (.int (x <<< (z &&& 31)) :: st))) : Go p e below F T (mkF m pc ls (.int z :: .int x :: st)) := by
  subst hp; exact Go.of (fun t q => XT.ishl w.here w.exec rfl (hb w.code d) rfl q) G
theorem s_ishr {x z : Int32} (w : St p l e R s m args below meth c Z y bytes ml ret h0 n0 T Ls cells slots) (d : decode bytes pc = .ok (.ishr, 1)) (hp : pc + 1 = pc') (G : Go p e below F T (mkF m pc' ls (.int (x >>> (z &&& 31)) :: st))) : Go p e below F T (mkF m pc ls (.int z :: .int x :: st)) := by
  subst hp; exact Go.of (fun t q => XT.ishr w.here w.exec rfl (hb w.code d) rfl q) G
theorem s_ineg {x : Int32} (w : St p l e R s m args below meth c Z y bytes ml ret h0 n0 T Ls cells slots) (d : decode bytes pc = .ok (.ineg, 1)) (hp : pc + 1 = pc') (G : Go p e below F T (mkF m pc' ls (.int (-x) :: st))) : Go p e below F T (mkF m pc ls (.int x :: st)) := by
  subst hp; exact Go.of (fun t q => XS.ineg w.here w.exec rfl (hb w.code d) rfl q) G
theorem s_irem {x z : Int32} (w : St p l e R s m args below meth c Z y bytes ml ret h0 n0 T Ls cells slots) (d : decode bytes pc = .ok (.irem, 1)) (hz : z ≠ 0) (hp : pc + 1 = pc') (G : Go p e below F T (mkF m pc' ls (.int (x - (x / z) * z) :: st))) : Go p e below F T (mkF m pc ls (.int z :: .int x :: st)) := by
  subst hp; exact Go.of (fun t q => XS.irem w.here w.exec rfl (hb w.code d) rfl hz q) G
theorem s_ladd {x z : Int64} (w : St p l e R s m args below meth c Z y bytes ml ret h0 n0 T Ls cells slots) (d : decode bytes pc = .ok (.ladd, 1)) (hp : pc + 1 = pc') (G : Go p e below F T (mkF m pc' ls (.long (x + z) :: st))) : Go p e below F T (mkF m pc ls (.long z :: .long x :: st)) := by
  subst hp; exact Go.of (fun t q => XT.ladd w.here w.exec rfl (hb w.code d) rfl q) G
theorem s_lsub {x z : Int64} (w : St p l e R s m args below meth c Z y bytes ml ret h0 n0 T Ls cells slots) (d : decode bytes pc = .ok (.lsub, 1)) (hp : pc + 1 = pc') (G : Go p e below F T (mkF m pc' ls (.long (x - z) :: st))) : Go p e below F T (mkF m pc ls (.long z :: .long x :: st)) := by
  subst hp; exact Go.of (fun t q => XT.lsub w.here w.exec rfl (hb w.code d) rfl q) G
theorem s_lmul {x z : Int64} (w : St p l e R s m args below meth c Z y bytes ml ret h0 n0 T Ls cells slots) (d : decode bytes pc = .ok (.lmul, 1)) (hp : pc + 1 = pc') (G : Go p e below F T (mkF m pc' ls (.long (x * z) :: st))) : Go p e below F T (mkF m pc ls (.long z :: .long x :: st)) := by
  subst hp; exact Go.of (fun t q => XT.lmul w.here w.exec rfl (hb w.code d) rfl q) G
theorem s_land {x z : Int64} (w : St p l e R s m args below meth c Z y bytes ml ret h0 n0 T Ls cells slots) (d : decode bytes pc = .ok (.land, 1)) (hp : pc + 1 = pc') (G : Go p e below F T (mkF m pc' ls (.long (x &&& z) :: st))) : Go p e below F T (mkF m pc ls (.long z :: .long x :: st)) := by
  subst hp; exact Go.of (fun t q => XT.land w.here w.exec rfl (hb w.code d) rfl q) G
theorem s_lor {x z : Int64} (w : St p l e R s m args below meth c Z y bytes ml ret h0 n0 T Ls cells slots) (d : decode bytes pc = .ok (.lor, 1)) (hp : pc + 1 = pc') (G : Go p e below F T (mkF m pc' ls (.long (x ||| z) :: st))) : Go p e below F T (mkF m pc ls (.long z :: .long x :: st)) := by
  subst hp; exact Go.of (fun t q => XT.lor w.here w.exec rfl (hb w.code d) rfl q) G
theorem s_lxor {x z : Int64} (w : St p l e R s m args below meth c Z y bytes ml ret h0 n0 T Ls cells slots) (d : decode bytes pc = .ok (.lxor, 1)) (hp : pc + 1 = pc') (G : Go p e below F T (mkF m pc' ls (.long (x ^^^ z) :: st))) : Go p e below F T (mkF m pc ls (.long z :: .long x :: st)) := by
  subst hp; exact Go.of (fun t q => XT.lxor w.here w.exec rfl (hb w.code d) rfl q) G
theorem s_lshl {x : Int64} {z : Int32} (w : St p l e R s m args below meth c Z y bytes ml ret h0 n0 T Ls cells slots) (d : decode bytes pc = .ok (.lshl, 1)) (hp : pc + 1 = pc') (G : Go p e below F T (mkF m pc' ls (.long (x <<< (z.toInt64 &&& 63)) :: st))) : Go p e below F T (mkF m pc ls (.int z :: .long x :: st)) := by
  subst hp; exact Go.of (fun t q => XT.lshl w.here w.exec rfl (hb w.code d) rfl q) G
theorem s_lshr {x : Int64} {z : Int32} (w : St p l e R s m args below meth c Z y bytes ml ret h0 n0 T Ls cells slots) (d : decode bytes pc = .ok (.lshr, 1)) (hp : pc + 1 = pc') (G : Go p e below F T (mkF m pc' ls (.long (x >>> (z.toInt64 &&& 63)) :: st))) : Go p e below F T (mkF m pc ls (.int z :: .long x :: st)) := by
  subst hp; exact Go.of (fun t q => XT.lshr w.here w.exec rfl (hb w.code d) rfl q) G
theorem s_lushr {x : Int64} {z : Int32} (w : St p l e R s m args below meth c Z y bytes ml ret h0 n0 T Ls cells slots) (d : decode bytes pc = .ok (.lushr, 1)) (hp : pc + 1 = pc') (G : Go p e below F T (mkF m pc' ls (.long (Jvm.Free.XT.ushrL x z) :: st))) : Go p e below F T (mkF m pc ls (.int z :: .long x :: st)) := by
  subst hp; exact Go.of (fun t q => XT.lushr w.here w.exec rfl (hb w.code d) rfl q) G
theorem s_ldiv {x z : Int64} (w : St p l e R s m args below meth c Z y bytes ml ret h0 n0 T Ls cells slots) (d : decode bytes pc = .ok (.ldiv, 1)) (hz : z ≠ 0) (hp : pc + 1 = pc') (G : Go p e below F T (mkF m pc' ls (.long (x / z) :: st))) : Go p e below F T (mkF m pc ls (.long z :: .long x :: st)) := by
  subst hp; exact Go.of (fun t q => XT.ldiv w.here w.exec rfl (hb w.code d) rfl hz q) G
theorem s_lrem {x z : Int64} (w : St p l e R s m args below meth c Z y bytes ml ret h0 n0 T Ls cells slots) (d : decode bytes pc = .ok (.lrem, 1)) (hz : z ≠ 0) (hp : pc + 1 = pc') (G : Go p e below F T (mkF m pc' ls (.long (x - (x / z) * z) :: st))) : Go p e below F T (mkF m pc ls (.long z :: .long x :: st)) := by
  subst hp; exact Go.of (fun t q => XT.lrem w.here w.exec rfl (hb w.code d) rfl hz q) G
theorem s_lneg {x : Int64} (w : St p l e R s m args below meth c Z y bytes ml ret h0 n0 T Ls cells slots) (d : decode bytes pc = .ok (.lneg, 1)) (hp : pc + 1 = pc') (G : Go p e below F T (mkF m pc' ls (.long (-x) :: st))) : Go p e below F T (mkF m pc ls (.long x :: st)) := by
  subst hp; exact Go.of (fun t q => XT.lneg w.here w.exec rfl (hb w.code d) rfl q) G
theorem s_i2l {x : Int32} (w : St p l e R s m args below meth c Z y bytes ml ret h0 n0 T Ls cells slots) (d : decode bytes pc = .ok (.i2l, 1)) (hp : pc + 1 = pc') (G : Go p e below F T (mkF m pc' ls (.long x.toInt64 :: st))) : Go p e below F T (mkF m pc ls (.int x :: st)) := by
  subst hp; exact Go.of (fun t q => XT.i2l w.here w.exec rfl (hb w.code d) rfl q) G
theorem s_l2i {x : Int64} (w : St p l e R s m args below meth c Z y bytes ml ret h0 n0 T Ls cells slots) (d : decode bytes pc = .ok (.l2i, 1)) (hp : pc + 1 = pc') (G : Go p e below F T (mkF m pc' ls (.int x.toInt32 :: st))) : Go p e below F T (mkF m pc ls (.long x :: st)) := by
  subst hp; exact Go.of (fun t q => XT.l2i w.here w.exec rfl (hb w.code d) rfl q) G
theorem s_lcmp {x z : Int64} (w : St p l e R s m args below meth c Z y bytes ml ret h0 n0 T Ls cells slots) (d : decode bytes pc = .ok (.lcmp, 1)) (hp : pc + 1 = pc') (G : Go p e below F T (mkF m pc' ls (.int (Jvm.Free.XT.cmpL x z) :: st))) : Go p e below F T (mkF m pc ls (.long z :: .long x :: st)) := by
  subst hp; exact Go.of (fun t q => XT.lcmp w.here w.exec rfl (hb w.code d) rfl q) G
theorem s_iloadN {k : Fin 4} {x : Int32} (w : St p l e R s m args below meth c Z y bytes ml ret h0 n0 T Ls cells slots) (d : decode bytes pc = .ok (.iload_n k, 1)) (hl : ls[k.val]? = some (.val (.int x))) (hp : pc + 1 = pc') (G : Go p e below F T (mkF m pc' ls (.int x :: st))) : Go p e below F T (mkF m pc ls st) := by
  subst hp; exact Go.of (fun t q => XS.iloadN w.here w.exec rfl (hb w.code d) hl q) G
theorem s_iload {k : Nat} {x : Int32} (w : St p l e R s m args below meth c Z y bytes ml ret h0 n0 T Ls cells slots) (d : decode bytes pc = .ok (.iload k, 2)) (hl : ls[k]? = some (.val (.int x))) (hp : pc + 2 = pc') (G : Go p e below F T (mkF m pc' ls (.int x :: st))) : Go p e below F T (mkF m pc ls st) := by
  subst hp; exact Go.of (fun t q => XS.iload w.here w.exec rfl (hb w.code d) hl q) G
theorem s_istoreN {k : Fin 4} {x : Int32} {ls' : Array Slot} (w : St p l e R s m args below meth c Z y bytes ml ret h0 n0 T Ls cells slots) (d : decode bytes pc = .ok (.istore_n k, 1)) (hl : storeLocals ls k.val (.int x) = some ls') (hp : pc + 1 = pc') (G : Go p e below F T (mkF m pc' ls' st)) : Go p e below F T (mkF m pc ls (.int x :: st)) := by
  subst hp; exact Go.of (fun t q => XS.istoreN w.here w.exec rfl (hb w.code d) rfl hl q) G
theorem s_istore {k : Nat} {x : Int32} {ls' : Array Slot} (w : St p l e R s m args below meth c Z y bytes ml ret h0 n0 T Ls cells slots) (d : decode bytes pc = .ok (.istore k, 2)) (hl : storeLocals ls k (.int x) = some ls') (hp : pc + 2 = pc') (G : Go p e below F T (mkF m pc' ls' st)) : Go p e below F T (mkF m pc ls (.int x :: st)) := by
  subst hp; exact Go.of (fun t q => XS.istore w.here w.exec rfl (hb w.code d) rfl hl q) G
theorem s_lloadN {k : Fin 4} {x : Int64} (w : St p l e R s m args below meth c Z y bytes ml ret h0 n0 T Ls cells slots) (d : decode bytes pc = .ok (.lload_n k, 1)) (hl : ls[k.val]? = some (.val (.long x))) (hp : pc + 1 = pc') (G : Go p e below F T (mkF m pc' ls (.long x :: st))) : Go p e below F T (mkF m pc ls st) := by
  subst hp; exact Go.of (fun t q => XT.lloadN w.here w.exec rfl (hb w.code d) hl q) G
theorem s_lload {k : Nat} {x : Int64} (w : St p l e R s m args below meth c Z y bytes ml ret h0 n0 T Ls cells slots) (d : decode bytes pc = .ok (.lload k, 2)) (hl : ls[k]? = some (.val (.long x))) (hp : pc + 2 = pc') (G : Go p e below F T (mkF m pc' ls (.long x :: st))) : Go p e below F T (mkF m pc ls st) := by
  subst hp; exact Go.of (fun t q => XT.lload w.here w.exec rfl (hb w.code d) hl q) G
theorem s_lstoreN {k : Fin 4} {x : Int64} {ls' : Array Slot} (w : St p l e R s m args below meth c Z y bytes ml ret h0 n0 T Ls cells slots) (d : decode bytes pc = .ok (.lstore_n k, 1)) (hl : storeLocals ls k.val (.long x) = some ls') (hp : pc + 1 = pc') (G : Go p e below F T (mkF m pc' ls' st)) : Go p e below F T (mkF m pc ls (.long x :: st)) := by
  subst hp; exact Go.of (fun t q => XT.lstoreN w.here w.exec rfl (hb w.code d) rfl hl q) G
theorem s_lstore {k : Nat} {x : Int64} {ls' : Array Slot} (w : St p l e R s m args below meth c Z y bytes ml ret h0 n0 T Ls cells slots) (d : decode bytes pc = .ok (.lstore k, 2)) (hl : storeLocals ls k (.long x) = some ls') (hp : pc + 2 = pc') (G : Go p e below F T (mkF m pc' ls' st)) : Go p e below F T (mkF m pc ls (.long x :: st)) := by
  subst hp; exact Go.of (fun t q => XT.lstore w.here w.exec rfl (hb w.code d) rfl hl q) G
theorem s_aloadN {k : Fin 4} (w : St p l e R s m args below meth c Z y bytes ml ret h0 n0 T Ls cells slots) (d : decode bytes pc = .ok (.aload_n k, 1)) (hl : ls[k.val]? = some (.val v)) (hv : v.isRef = true) (hp : pc + 1 = pc') (G : Go p e below F T (mkF m pc' ls (v :: st))) : Go p e below F T (mkF m pc ls st) := by
  subst hp; exact Go.of (fun t q => XS.aloadN w.here w.exec rfl (hb w.code d) hl hv q) G
theorem s_aload {k : Nat} (w : St p l e R s m args below meth c Z y bytes ml ret h0 n0 T Ls cells slots) (d : decode bytes pc = .ok (.aload k, 2)) (hl : ls[k]? = some (.val v)) (hv : v.isRef = true) (hp : pc + 2 = pc') (G : Go p e below F T (mkF m pc' ls (v :: st))) : Go p e below F T (mkF m pc ls st) := by
  subst hp; exact Go.of (fun t q => XS.aload w.here w.exec rfl (hb w.code d) hl hv q) G
theorem s_astoreN {k : Fin 4} {ls' : Array Slot} (w : St p l e R s m args below meth c Z y bytes ml ret h0 n0 T Ls cells slots) (d : decode bytes pc = .ok (.astore_n k, 1)) (hv : v.isRef = true) (hl : storeLocals ls k.val v = some ls') (hp : pc + 1 = pc') (G : Go p e below F T (mkF m pc' ls' st)) : Go p e below F T (mkF m pc ls (v :: st)) := by
  subst hp; exact Go.of (fun t q => XS.astoreN w.here w.exec rfl (hb w.code d) rfl hv hl q) G
theorem s_astore {k : Nat} {ls' : Array Slot} (w : St p l e R s m args below meth c Z y bytes ml ret h0 n0 T Ls cells slots) (d : decode bytes pc = .ok (.astore k, 2)) (hv : v.isRef = true) (hl : storeLocals ls k v = some ls') (hp : pc + 2 = pc') (G : Go p e below F T (mkF m pc' ls' st)) : Go p e below F T (mkF m pc ls (v :: st)) := by
  subst hp; exact Go.of (fun t q => XS.astore w.here w.exec rfl (hb w.code d) rfl hv hl q) G
theorem s_iconst {i : Int} (x : Int32) (w : St p l e R s m args below meth c Z y bytes ml ret h0 n0 T Ls cells slots) (d : decode bytes pc = .ok (.iconst i, 1)) (hv : Int32.ofInt i = x) (hp : pc + 1 = pc') (G : Go p e below F T (mkF m pc' ls (.int x :: st))) : Go p e below F T (mkF m pc ls st) := by
  subst hp; exact Go.of (fun t q => XT.iconstV w.here w.exec rfl x (hb w.code d) hv q) G
theorem s_bipush {i : Int} (x : Int32) (w : St p l e R s m args below meth c Z y bytes ml ret h0 n0 T Ls cells slots) (d : decode bytes pc = .ok (.bipush i, 2)) (hv : (Int8.ofInt i).toInt32 = x) (hp : pc + 2 = pc') (G : Go p e below F T (mkF m pc' ls (.int x :: st))) : Go p e below F T (mkF m pc ls st) := by
  subst hp; exact Go.of (fun t q => XT.bipushV w.here w.exec rfl x (hb w.code d) hv q) G
theorem s_sipush {i : Int} (x : Int32) (w : St p l e R s m args below meth c Z y bytes ml ret h0 n0 T Ls cells slots) (d : decode bytes pc = .ok (.sipush i, 3)) (hv : (Int16.ofInt i).toInt32 = x) (hp : pc + 3 = pc') (G : Go p e below F T (mkF m pc' ls (.int x :: st))) : Go p e below F T (mkF m pc ls st) := by
  subst hp; exact Go.of (fun t q => XT.sipushV w.here w.exec rfl x (hb w.code d) hv q) G
theorem s_lconst {i : Fin 2} (x : Int64) (w : St p l e R s m args below meth c Z y bytes ml ret h0 n0 T Ls cells slots) (d : decode bytes pc = .ok (.lconst i, 1)) (hv : Int64.ofNat i = x) (hp : pc + 1 = pc') (G : Go p e below F T (mkF m pc' ls (.long x :: st))) : Go p e below F T (mkF m pc ls st) := by
  subst hp; exact Go.of (fun t q => XT.lconstV w.here w.exec rfl x (hb w.code d) hv q) G
theorem s_iinc {k : Nat} {i : Int} {x : Int32} {ls' : Array Slot} (z : Int32) (w : St p l e R s m args below meth c Z y bytes ml ret h0 n0 T Ls cells slots) (d : decode bytes pc = .ok (.iinc k i, 3)) (hv : Int32.ofInt i = z) (hl : ls[k]? = some (.val (.int x))) (hl' : storeLocals ls k (.int (x + z)) = some ls') (hp : pc + 3 = pc') (G : Go p e below F T (mkF m pc' ls' st)) : Go p e below F T (mkF m pc ls st) := by
  subst hp; exact Go.of (fun t q => XT.iincV w.here w.exec rfl z (hb w.code d) hv hl hl' q) G
theorem s_aconst_null  (w : St p l e R s m args below meth c Z y bytes ml ret h0 n0 T Ls cells slots) (d : decode bytes pc = .ok (.aconst_null, 1)) (hp : pc + 1 = pc') (G : Go p e below F T (mkF m pc' ls (.null :: st))) : Go p e below F T (mkF m pc ls st) := by
  subst hp; exact Go.of (fun t q => XS.aconstNull w.here w.exec rfl (hb w.code d)  q) G
theorem s_dup  (w : St p l e R s m args below meth c Z y bytes ml ret h0 n0 T Ls cells slots) (d : decode bytes pc = .ok (.dup, 1)) (hc : v.category = 1) (hp : pc + 1 = pc') (G : Go p e below F T (mkF m pc' ls (v :: v :: st))) : Go p e below F T (mkF m pc ls (v :: st)) := by
  subst hp; exact Go.of (fun t q => XS.dup w.here w.exec rfl (hb w.code d) rfl hc q) G
theorem s_pop  (w : St p l e R s m args below meth c Z y bytes ml ret h0 n0 T Ls cells slots) (d : decode bytes pc = .ok (.pop, 1)) (hc : v.category = 1) (hp : pc + 1 = pc') (G : Go p e below F T (mkF m pc' ls st)) : Go p e below F T (mkF m pc ls (v :: st)) := by
  subst hp; exact Go.of (fun t q => XT.pop w.here w.exec rfl (hb w.code d) rfl hc q) G
theorem s_dup_x1 {v' : Value} (w : St p l e R s m args below meth c Z y bytes ml ret h0 n0 T Ls cells slots) (d : decode bytes pc = .ok (.dup_x1, 1)) (hc : v.category = 1) (hc' : v'.category = 1) (hp : pc + 1 = pc') (G : Go p e below F T (mkF m pc' ls (v :: v' :: v :: st))) : Go p e below F T (mkF m pc ls (v :: v' :: st)) := by
  subst hp; exact Go.of (fun t q => XT.dupX1 w.here w.exec rfl (hb w.code d) rfl hc hc' q) G
theorem s_dup2 {v' : Value} (w : St p l e R s m args below meth c Z y bytes ml ret h0 n0 T Ls cells slots) (d : decode bytes pc = .ok (.dup2, 1)) (hc : v.category = 1) (hc' : v'.category = 1) (hp : pc + 1 = pc') (G : Go p e below F T (mkF m pc' ls (v :: v' :: v :: v' :: st))) : Go p e below F T (mkF m pc ls (v :: v' :: st)) := by
  subst hp; exact Go.of (fun t q => XT.dup2 w.here w.exec rfl (hb w.code d) rfl hc hc' q) G
theorem s_dup2_x1L {x : Int64} (w : St p l e R s m args below meth c Z y bytes ml ret h0 n0 T Ls cells slots) (d : decode bytes pc = .ok (.dup2_x1, 1)) (hc : v.category = 1) (hp : pc + 1 = pc') (G : Go p e below F T (mkF m pc' ls (.long x :: v :: .long x :: st))) : Go p e below F T (mkF m pc ls (.long x :: v :: st)) := by
  subst hp
  obtain ⟨t, o, q, r⟩ := G
  refine ⟨t, o, ?_, r⟩
  have hd := hb w.code d
  have H := w.here
  have hx := w.exec
  jvm_step H [H.top, hx, hd, Value.category]
  exact ⟨hc, q⟩
theorem s_dup2L {x : Int64} (w : St p l e R s m args below meth c Z y bytes ml ret h0 n0 T Ls cells slots) (d : decode bytes pc = .ok (.dup2, 1)) (hp : pc + 1 = pc') (G : Go p e below F T (mkF m pc' ls (.long x :: .long x :: st))) : Go p e below F T (mkF m pc ls (.long x :: st)) := by
  subst hp; exact Go.of (fun t q => XT.dup2L w.here w.exec rfl (hb w.code d) rfl q) G
theorem s_goto {o : Int} (w : St p l e R s m args below meth c Z y bytes ml ret h0 n0 T Ls cells slots) (d : decode bytes pc = .ok (.goto o, 3)) (h1 : 0 ≤ (pc : Int) + o) (h2 : ((pc : Int) + o).toNat = pc') (G : Go p e below F T (mkF m pc' ls st)) : Go p e below F T (mkF m pc ls st) :=
  Go.of (fun t q => XS.goto w.here w.exec rfl rfl (hb w.code d) h1 h2 q) G
theorem s_ifY {cd : ClassFile.Cond} {o : Int} {x : Int32} (w : St p l e R s m args below meth c Z y bytes ml ret h0 n0 T Ls cells slots) (d : decode bytes pc = .ok (.ifCond cd o, 3)) (hc : ifCond.holds cd x = true) (h1 : 0 ≤ (pc : Int) + o) (h2 : ((pc : Int) + o).toNat = pc') (G : Go p e below F T (mkF m pc' ls st)) : Go p e below F T (mkF m pc ls (.int x :: st)) :=
  Go.of (fun t q => XS.ifYes w.here w.exec rfl rfl (hb w.code d) rfl hc h1 h2 q) G
theorem s_ifN {cd : ClassFile.Cond} {o : Int} {x : Int32} (w : St p l e R s m args below meth c Z y bytes ml ret h0 n0 T Ls cells slots) (d : decode bytes pc = .ok (.ifCond cd o, 3)) (hc : ifCond.holds cd x = false) (hp : pc + 3 = pc') (G : Go p e below F T (mkF m pc' ls st)) : Go p e below F T (mkF m pc ls (.int x :: st)) := by
  subst hp; exact Go.of (fun t q => XS.ifNo w.here w.exec rfl (hb w.code d) rfl hc q) G
theorem s_icmpY {cd : ClassFile.Cond} {o : Int} {x z : Int32} (w : St p l e R s m args below meth c Z y bytes ml ret h0 n0 T Ls cells slots) (d : decode bytes pc = .ok (.if_icmp cd o, 3)) (hc : if_icmp.holds cd x z = true) (h1 : 0 ≤ (pc : Int) + o) (h2 : ((pc : Int) + o).toNat = pc') (G : Go p e below F T (mkF m pc' ls st)) : Go p e below F T (mkF m pc ls (.int z :: .int x :: st)) :=
  Go.of (fun t q => XS.icmpYes w.here w.exec rfl rfl (hb w.code d) rfl hc h1 h2 q) G
theorem s_icmpN {cd : ClassFile.Cond} {o : Int} {x z : Int32} (w : St p l e R s m args below meth c Z y bytes ml ret h0 n0 T Ls cells slots) (d : decode bytes pc = .ok (.if_icmp cd o, 3)) (hc : if_icmp.holds cd x z = false) (hp : pc + 3 = pc') (G : Go p e below F T (mkF m pc' ls st)) : Go p e below F T (mkF m pc ls (.int z :: .int x :: st)) := by
  subst hp; exact Go.of (fun t q => XS.icmpNo w.here w.exec rfl (hb w.code d) rfl hc q) G
theorem s_acmpY {cd : ClassFile.ACond} {o : Int} {v' : Value} (w : St p l e R s m args below meth c Z y bytes ml ret h0 n0 T Ls cells slots) (d : decode bytes pc = .ok (.if_acmp cd o, 3)) (r1 : v.isRef = true) (r2 : v'.isRef = true) (hc : Jvm.Free.XT.acmp cd v v' = true) (h1 : 0 ≤ (pc : Int) + o) (h2 : ((pc : Int) + o).toNat = pc') (G : Go p e below F T (mkF m pc' ls st)) : Go p e below F T (mkF m pc ls (v' :: v :: st)) :=
  Go.of (fun t q => XT.acmpYes w.here w.exec rfl rfl (hb w.code d) rfl r1 r2 hc h1 h2 q) G
theorem s_acmpN {cd : ClassFile.ACond} {o : Int} {v' : Value} (w : St p l e R s m args below meth c Z y bytes ml ret h0 n0 T Ls cells slots) (d : decode bytes pc = .ok (.if_acmp cd o, 3)) (r1 : v.isRef = true) (r2 : v'.isRef = true) (hc : Jvm.Free.XT.acmp cd v v' = false) (hp : pc + 3 = pc') (G : Go p e below F T (mkF m pc' ls st)) : Go p e below F T (mkF m pc ls (v' :: v :: st)) := by
  subst hp; exact Go.of (fun t q => XT.acmpNo w.here w.exec rfl (hb w.code d) rfl r1 r2 hc q) G
theorem s_ifnonnullY {o : Int} (w : St p l e R s m args below meth c Z y bytes ml ret h0 n0 T Ls cells slots) (d : decode bytes pc = .ok (.ifnonnull o, 3)) (h1 : 0 ≤ (pc : Int) + o) (h2 : ((pc : Int) + o).toNat = pc') (G : Go p e below F T (mkF m pc' ls st)) : Go p e below F T (mkF m pc ls (.ref a :: st)) :=
  Go.of (fun t q => XT.ifnonnullYes w.here w.exec rfl rfl (hb w.code d) rfl h1 h2 q) G
theorem s_ldc {i : Nat} {x : Int32} (w : St p l e R s m args below meth c Z y bytes ml ret h0 n0 T Ls cells slots) (k : (Cond.constant y.cls i x).before a0 Z = true) (d : decode bytes pc = .ok (.ldc i, 2)) (hp : pc + 2 = pc') (G : Go p e below F T (mkF m pc' ls (.int x :: st))) : Go p e below F T (mkF m pc ls st) := by
  subst hp; obtain ⟨⟨hx, hZ, hown, hby, -⟩, _, X, -⟩ := w; exact Go.of (X.ldcInt hx hown (mvT hZ k) rfl (hb hby d)) G
theorem s_ldcw {i : Nat} {x : Int32} (w : St p l e R s m args below meth c Z y bytes ml ret h0 n0 T Ls cells slots) (k : (Cond.constant y.cls i x).before a0 Z = true) (d : decode bytes pc = .ok (.ldc_w i, 3)) (hp : pc + 3 = pc') (G : Go p e below F T (mkF m pc' ls (.int x :: st))) : Go p e below F T (mkF m pc ls st) := by
  subst hp; obtain ⟨⟨hx, hZ, hown, hby, -⟩, _, X, -⟩ := w; exact Go.of (X.ldcWInt hx hown (mvT hZ k) rfl (hb hby d)) G
theorem s_ldc2 {i : Nat} {x : Int64} (w : St p l e R s m args below meth c Z y bytes ml ret h0 n0 T Ls cells slots) (k : (Cond.constantLong y.cls i x).before a0 Z = true) (d : decode bytes pc = .ok (.ldc2_w i, 3)) (hp : pc + 3 = pc') (G : Go p e below F T (mkF m pc' ls (.long x :: st))) : Go p e below F T (mkF m pc ls st) := by
  subst hp; obtain ⟨⟨hx, hZ, hown, hby, -⟩, _, X, -⟩ := w; exact Go.of (X.ldc2Long hx hown (mvT hZ k) rfl (hb hby d)) G
theorem s_ireturn {rm : Room} {Q : Option Value → List Ob → Prop} {z : Int32} (w : St p l e rm s m args below meth c Z y bytes ml (some .int) h0 n0 T Ls cells slots) (d : decode bytes pc = .ok (.ireturn, 1)) (hc : cells ≤ rm.cells) (hn : slots ≤ rm.slots) (q : Q (some (.int z)) Ls) : Go p e below (Fin1 Z h0 n0 s rm Q) T (mkF m pc ls (.int z :: rest)) := by
  obtain ⟨⟨hx, hZ, hown, hby, hml, hnm, hret, hlk⟩, locs, X, N, H⟩ := w
  obtain ⟨fs, hr, hrun, hended, hW, hsame⟩ := X.leave (v := (some (.int z))) (fun h => by rw [hret] at h; cases h) hlk
  refine ⟨_, _, ?_, hrun, hended, _, locs, rfl, ⟨Ls, q, N, H⟩, ⟨_, rfl⟩, hW, hsame.mono hc hn⟩
  exact retOut X hx hret rfl (Or.inl ⟨rfl, Or.inl rfl, z, rfl⟩) (hb hby d) hr
theorem s_zreturn {rm : Room} {Q : Option Value → List Ob → Prop} {z : Int32} (hz : narrow .boolean (.int z) = .int z) (w : St p l e rm s m args below meth c Z y bytes ml (some .boolean) h0 n0 T Ls cells slots) (d : decode bytes pc = .ok (.ireturn, 1)) (hc : cells ≤ rm.cells) (hn : slots ≤ rm.slots) (q : Q (some (.int z)) Ls) : Go p e below (Fin1 Z h0 n0 s rm Q) T (mkF m pc ls (.int z :: rest)) := by
  obtain ⟨⟨hx, hZ, hown, hby, hml, hnm, hret, hlk⟩, locs, X, N, H⟩ := w
  obtain ⟨fs, hr, hrun, hended, hW, hsame⟩ := X.leave (v := (some (.int z))) (fun h => by rw [hret] at h; cases h) hlk
  refine ⟨_, _, ?_, hrun, hended, _, locs, rfl, ⟨Ls, q, N, H⟩, ⟨_, rfl⟩, hW, hsame.mono hc hn⟩
  exact retOut X hx hret hz (Or.inl ⟨rfl, Or.inr (Or.inl rfl), z, rfl⟩) (hb hby d) hr
theorem s_lreturn {rm : Room} {Q : Option Value → List Ob → Prop} {z : Int64} (w : St p l e rm s m args below meth c Z y bytes ml (some .long) h0 n0 T Ls cells slots) (d : decode bytes pc = .ok (.lreturn, 1)) (hc : cells ≤ rm.cells) (hn : slots ≤ rm.slots) (q : Q (some (.long z)) Ls) : Go p e below (Fin1 Z h0 n0 s rm Q) T (mkF m pc ls (.long z :: rest)) := by
  obtain ⟨⟨hx, hZ, hown, hby, hml, hnm, hret, hlk⟩, locs, X, N, H⟩ := w
  obtain ⟨fs, hr, hrun, hended, hW, hsame⟩ := X.leave (v := (some (.long z))) (fun h => by rw [hret] at h; cases h) hlk
  refine ⟨_, _, ?_, hrun, hended, _, locs, rfl, ⟨Ls, q, N, H⟩, ⟨_, rfl⟩, hW, hsame.mono hc hn⟩
  exact retOut X hx hret rfl (Or.inr (Or.inl ⟨rfl, rfl, z, rfl⟩)) (hb hby d) hr
theorem s_areturn {rm : Room} {Q : Option Value → List Ob → Prop} {t : FieldType} (w : St p l e rm s m args below meth c Z y bytes ml (some t) h0 n0 T Ls cells slots) (d : decode bytes pc = .ok (.areturn, 1)) (ht : t.isReference = true) (hv : v.isRef = true) (hc : cells ≤ rm.cells) (hn : slots ≤ rm.slots) (q : Q (some v) Ls) : Go p e below (Fin1 Z h0 n0 s rm Q) T (mkF m pc ls (v :: rest)) := by
  obtain ⟨⟨hx, hZ, hown, hby, hml, hnm, hret, hlk⟩, locs, X, N, H⟩ := w
  obtain ⟨fs, hr, hrun, hended, hW, hsame⟩ := X.leave (v := some v) (fun h => by rw [hret] at h; cases h) hlk
  refine ⟨_, _, ?_, hrun, hended, _, locs, rfl, ⟨Ls, q, N, H⟩, ⟨_, rfl⟩, hW, hsame.mono hc hn⟩
  have hn' : narrow t v = v := by rcases ref_cases hv with rfl | ⟨a, rfl⟩ <;> cases t <;> first | rfl | (cases ht; done)
  exact retOut X hx hret hn' (Or.inr (Or.inr (Or.inr (Or.inr ⟨rfl, ht, hv⟩)))) (hb hby d) hr
theorem s_return {rm : Room} {Q : Option Value → List Ob → Prop}  (w : St p l e rm s m args below meth c Z y bytes ml none h0 n0 T Ls cells slots) (d : decode bytes pc = .ok (.return_, 1)) (hc : cells ≤ rm.cells) (hn : slots ≤ rm.slots) (q : Q none Ls) : Go p e below (Fin1 Z h0 n0 s rm Q) T (mkF m pc ls []) := by
  obtain ⟨⟨hx, hZ, hown, hby, hml, hnm, hret, hlk⟩, locs, X, N, H⟩ := w
  obtain ⟨fs, hr, hrun, hended, hW, hsame⟩ := X.leave (v := none) (fun _ => rfl) hlk
  refine ⟨_, _, ?_, hrun, hended, _, locs, rfl, ⟨Ls, q, N, H⟩, ⟨_, rfl⟩, hW, hsame.mono hc hn⟩
  exact X.returnOut hx hret (hb hby d) hr

/-! ### fields -/
theorem s_getL {i j : Nat} {R0 O f d host C : String} {fs : List (String × String × String)} {vs : List Value} (w : St p l e R s m args below meth c Z y bytes ml ret h0 n0 T Ls cells slots) (k : (Cond.fieldLink y.cls i R0 f d).before a0 Z = true ∨ (Cond.fieldLinkNest y.cls i R0 f d host).before a0 Z = true) (via : Via Z R0 O f d) (q : Lk Z h0 n0 Ls a (.inl (C, fs, vs))) (hf : fs[j]? = some (O, f, d)) (hv : vs[j]? = some v) (hd : decode bytes pc = .ok (.getfield i, 3)) (hp : pc + 3 = pc')
    (G : ∀ T', St p l e R s m args below meth c Z y bytes ml ret h0 n0 T' Ls cells slots → Go p e below F T' (mkF m pc' ls (v :: st))) : Go p e below F T (mkF m pc ls (.ref a :: st)) := by
  subst hp
  obtain ⟨w1, locs, X, N, H⟩ := w
  have w1' := w1
  obtain ⟨hx, hZ, hown, hby, -⟩ := w1
  obtain ⟨T', X', e', st'⟩ := getF X hx hZ hown k via rfl ((H.lk q).2 j _ v hf hv) (g := mkF m pc ls (.ref a :: st)) rfl rfl (hb hby hd)
  exact Go.of st' (G T' ⟨w1', locs, X', N, by rw [e']; exact H⟩)
theorem s_put {i j k kk : Nat} {R0 O f d host C : String} {ty : FieldType} {fs : List (String × String × String)} {vs : List Value} (w : St p l e R s m args below meth c Z y bytes ml ret h0 n0 T Ls cells slots) (kl : (Cond.fieldLink y.cls i R0 f d).before a0 Z = true ∨ (Cond.fieldLinkNest y.cls i R0 f d host).before a0 Z = true) (via : Via Z R0 O f d) (cl : Cls Z a0 C kk fs) (q : Ls[k]? = some (.inl (C, fs, vs))) (hf : fs[j]? = some (O, f, d)) (hj : j < vs.length)
    (la : (Cond.lays C O f d).before a0 Z = true ∨ ((Cond.laysFinal C O f d).before a0 Z = true ∧ y.cls = O ∧ y.name = "<init>")) (hty : parseFieldDescriptor d = some ty) (hna : narrow ty v = v) (hfi : fits ty v = true) (hd : decode bytes pc = .ok (.putfield i, 3)) (hp : pc + 3 = pc')
    (G : ∀ T', St p l e R s m args below meth c Z y bytes ml ret h0 n0 T' (Ls.set k (.inl (C, fs, vs.set j v))) cells slots → Go p e below F T' (mkF m pc' ls st)) : Go p e below F T (mkF m pc ls (v :: .ref (n0 + k) :: st)) := by
  subst hp
  obtain ⟨w1, locs, X, N, H⟩ := w
  have w1' := w1
  obtain ⟨hx, hZ, hown, hby, -, hnm, -⟩ := w1
  have I := H.at q
  obtain ⟨v0, hv0⟩ : ∃ v0, vs[j]? = some v0 := ⟨_, List.getElem?_eq_getElem hj⟩
  have la' : (Cond.lays C O f d).before a0 Z = true ∨ ((Cond.laysFinal C O f d).before a0 Z = true ∧ y.cls = O ∧ meth.name = "<init>") := la.imp id fun r => ⟨r.1, r.2.1, hnm.trans r.2.2⟩
  obtain ⟨T', h', X', e', W', st'⟩ := putF X hx hZ hown kl via rfl (I.2 j _ v0 hf hv0) I.1 la' cl.1 hty hna hfi (g := mkF m pc ls (v :: .ref (n0 + k) :: st)) rfl rfl (hb hby hd)
  refine Go.of st' (G T' ⟨w1', _, X', Fr.snoc X' N (Nat.le_add_right _ _), ?_⟩)
  rw [e']
  refine H.wr q W' ⟨I.1.wr W', fun i' f' v' h1 h2 => ?_⟩
  rw [List.getElem?_set] at h2
  by_cases e : j = i'
  · subst e
    cases hf.symm.trans h1
    simp [hj] at h2; subst h2
    exact (I.2 j _ v0 hf hv0).same W'
  · rw [if_neg e] at h2
    have hne : f'.2.1 ≠ f := fun q => e (cl.2.2 j i' _ _ hf h1 q.symm)
    obtain ⟨L1, t1, p1⟩ := cl.2.1 j _ hf
    obtain ⟨L2, t2, p2⟩ := cl.2.1 i' _ h1
    exact (I.2 i' _ v' h1 h2).other W' (Or.inr (slot_ne L2 L1 hne p2 p1))
theorem s_getS {i : Nat} {R0 O f d host : String} (w : St p l e R s m args below meth c Z y bytes ml ret h0 n0 T Ls cells slots) (k : (Cond.fieldLink y.cls i R0 f d).before a0 Z = true ∨ (Cond.fieldLinkNest y.cls i R0 f d host).before a0 Z = true) (via : Via Z R0 O f d) (q : Sta Z h0 O f d v) (hd : decode bytes pc = .ok (.getstatic i, 3)) (hp : pc + 3 = pc')
    (G : ∀ T', St p l e R s m args below meth c Z y bytes ml ret h0 n0 T' Ls cells slots → Go p e below F T' (mkF m pc' ls (v :: st))) : Go p e below F T (mkF m pc ls st) := by
  subst hp
  obtain ⟨w1, locs, X, N, H⟩ := w
  have w1' := w1
  obtain ⟨hx, hZ, hown, hby, -⟩ := w1
  obtain ⟨T', X', e', st'⟩ := getS2 X hx hZ hown k via rfl (q.ext H.2.1) (g := mkF m pc ls st) rfl (hb hby hd)
  exact Go.of st' (G T' ⟨w1', locs, X', N, by rw [e']; exact H⟩)
/-! ### making -/
theorem s_new {i kk : Nat} {C : String} {fs : List (String × String × String)} (vs : List Value) (w : St p l e R s m args below meth c Z y bytes ml ret h0 n0 T Ls cells slots) (k1 : (Cond.classLink y.cls i C).before a0 Z = true) (k2 : (Cond.initialized C).before a0 Z = true) (cl : Cls Z a0 C kk fs) (hd : decode bytes pc = .ok (.new i, 3)) (hvs : ∀ (j : Nat) f v, fs[j]? = some f → vs[j]? = some v → ∃ t, parseFieldDescriptor f.2.2 = some t ∧ v = defaultValue t)
    (hc : cells + 1 ≤ R.cells) (hl : slots + kk ≤ R.slots) (N : Nat) (hN0 : Ls.length = N) (hp : pc + 3 = pc')
    (G : ∀ T', St p l e R s m args below meth c Z y bytes ml ret h0 n0 T' (Ls ++ [.inl (C, fs, vs)]) (cells + 1) (slots + kk) → Go p e below F T' (mkF m pc' ls (.ref (n0 + N) :: st))) : Go p e below F T (mkF m pc ls st) := by
  subst hp; subst hN0
  obtain ⟨w1, locs, X, N, H⟩ := w
  have w1' := w1
  obtain ⟨hx, hZ, hown, hby, -⟩ := w1
  obtain ⟨vm', cC, kC, q1, q2, q3, q4, X', st'⟩ := X.newCold hx hown (mv hZ k1) (mv hZ cl.1) (mv hZ k2) (g := mkF m pc ls st) rfl (hb hby hd) hc hl
  rw [show T.heap.size = n0 + Ls.length from H.2.2.1] at st'
  refine Go.of st' (G _ ⟨w1', locs, X', N, ?_⟩)
  rw [hZ.alike.findClass] at q1
  obtain ⟨kZ, z1, -⟩ := Vm.findClass_spec q1
  obtain ⟨k', z2, z3⟩ := hZ.alike.2.2 _ _ z1
  cases q2.symm.trans z2
  have ei : kC.instanceTypes = kZ.instanceTypes := by rw [z3]
  have hN : (T.heap.push ({ cls := cC, slots := kC.instanceTypes.map defaultValue, vm := .none } : Cell))[n0 + Ls.length]? = some { cls := cC, slots := kC.instanceTypes.map defaultValue, vm := .none } := by rw [← H.2.2.1]; simp
  refine Hp.push (h := T.heap) H ⟨⟨_, kZ, hN, q1, z1, rfl, fun _ => by simp [ei]⟩, fun j f v h1 h2 => ?_⟩
  obtain ⟨t, ht, rfl⟩ := hvs j f v h1 h2
  obtain ⟨c1, k1, cf, kf, i', f', a1, a2, a3, a4, a5, a6, -⟩ := (cl.2.1 j f h1).1.spec
  cases q1.symm.trans a1
  cases z1.symm.trans a2
  exact ⟨_, cf, kf, i', f', hN, a3, a4, by simp, rfl, a5, by simp [ei, a6, (State.fieldFound?_type a3 ht).2]⟩
theorem s_newarray {aty : ArrayType} {x : Int32} {ty : FieldType} (w : St p l e R s m args below meth c Z y bytes ml ret h0 n0 T Ls cells slots) (k : (Cond.arrayClass ty).before a0 Z = true) (hty : newarray.typeOf aty = ty) (hno : ∀ C, ty ≠ .object C) (hd : decode bytes pc = .ok (.newarray aty, 2)) (hx0 : ¬ x < 0) (cap : Nat) (hcap : x.toNatClampNeg ≤ cap) (hbig : cap * 8 ≤ 536870912) (hc : cells + 1 ≤ R.cells) (hl : slots + cap ≤ R.slots) (N : Nat) (hN0 : Ls.length = N) (hp : pc + 2 = pc')
    (G : ∀ T', St p l e R s m args below meth c Z y bytes ml ret h0 n0 T' (Ls ++ [.inr (ty, List.replicate x.toNatClampNeg (defaultValue ty))]) (cells + 1) (slots + cap) → Go p e below F T' (mkF m pc' ls (.ref (n0 + N) :: st))) : Go p e below F T (mkF m pc ls (.int x :: st)) := by
  subst hp; subst hty; subst hN0
  obtain ⟨w1, locs, X, N, H⟩ := w
  have w1' := w1
  obtain ⟨hx, hZ, hown, hby, -⟩ := w1
  have hcb : componentBytes (newarray.typeOf aty) ≤ 8 := by cases aty <;> decide
  obtain ⟨cA, kA, comp, q1, q2, q3, X', st'⟩ := X.newarrayPrim hx (mvA hZ k) (g := mkF m pc ls (.int x :: st)) rfl (hb hby hd) rfl hx0 (Nat.le_trans (Nat.mul_le_mul hcap hcb) hbig) hc (by omega)
  rw [show T.heap.size = n0 + Ls.length from H.2.2.1] at st'
  refine Go.of st' (G _ ⟨w1', locs, X'.more (Nat.le_refl _) (by omega), N, ?_⟩)
  rw [hZ.alike.findClass] at q1
  obtain ⟨kZ, z1, -⟩ := Vm.findClass_spec q1
  obtain ⟨k', z2, z3⟩ := hZ.alike.2.2 _ _ z1
  cases q2.symm.trans z2
  have kk : kZ.kind = .array comp (newarray.typeOf aty) := by rw [← q3, z3]
  have hN : (T.heap.push ({ cls := cA, slots := Array.replicate x.toNatClampNeg (defaultValue (newarray.typeOf aty)), vm := .none } : Cell))[n0 + Ls.length]? = some { cls := cA, slots := Array.replicate x.toNatClampNeg (defaultValue (newarray.typeOf aty)), vm := .none } := by rw [← H.2.2.1]; simp
  refine Hp.push (h := T.heap) H ⟨_, ⟨hN, ⟨by simp, kZ, z1, comp, kk⟩, by simp⟩, fun C q => absurd q (hno C), by simp, by simpa using (back32 hx0).2, fun v hv => ?_⟩
  rw [List.eq_of_mem_replicate hv]; cases aty <;> rfl
theorem s_anewarray {i : Nat} {x : Int32} {C : String} (w : St p l e R s m args below meth c Z y bytes ml ret h0 n0 T Ls cells slots) (k1 : (Cond.classLink y.cls i C).before a0 Z = true) (k2 : (Cond.arrayOver (.object C)).before a0 Z = true) (hd : decode bytes pc = .ok (.anewarray i, 3)) (hx0 : ¬ x < 0) (cap : Nat) (hcap : x.toNatClampNeg ≤ cap) (hbig : cap * 8 ≤ 536870912) (hc : cells + 1 ≤ R.cells) (hl : slots + cap ≤ R.slots) (N : Nat) (hN0 : Ls.length = N) (hp : pc + 3 = pc')
    (G : ∀ T', St p l e R s m args below meth c Z y bytes ml ret h0 n0 T' (Ls ++ [.inr (.object C, List.replicate x.toNatClampNeg .null)]) (cells + 1) (slots + cap) → Go p e below F T' (mkF m pc' ls (.ref (n0 + N) :: st))) : Go p e below F T (mkF m pc ls (.int x :: st)) := by
  subst hp; subst hN0
  obtain ⟨w1, locs, X, N, H⟩ := w
  have w1' := w1
  obtain ⟨hx, hZ, hown, hby, -⟩ := w1
  obtain ⟨vm₁, cA, kA, comp, -, q1, q2, q3, q4, X', st'⟩ := X.anewarrayRefK hx hown (mv hZ k1) (Cond.arrayOver_alike hZ.alike k2) (g := mkF m pc ls (.int x :: st)) rfl (hb hby hd) rfl hx0 (by omega) hc (by omega)
  rw [show T.heap.size = n0 + Ls.length from H.2.2.1] at st'
  refine Go.of st' (G _ ⟨w1', locs, X'.more (Nat.le_refl _) (by omega), N, ?_⟩)
  rw [hZ.alike.findClass] at q1 q4
  obtain ⟨kZ, z1, -⟩ := Vm.findClass_spec q1
  obtain ⟨k', z2, z3⟩ := hZ.alike.2.2 _ _ z1
  cases q2.symm.trans z2
  have kk : kZ.kind = .array comp (.object C) := by rw [← q3, z3]
  have hN : (T.heap.push ({ cls := cA, slots := Array.replicate x.toNatClampNeg .null, vm := .none } : Cell))[n0 + Ls.length]? = some { cls := cA, slots := Array.replicate x.toNatClampNeg .null, vm := .none } := by rw [← H.2.2.1]; simp
  refine Hp.push (h := T.heap) H ⟨_, ⟨hN, ⟨by simp, kZ, z1, comp, kk⟩, by simp⟩, fun C' q => by cases q; exact ⟨kZ, comp, z1, kk, q4⟩, by simp, by simpa using (back32 hx0).2, fun v hv => ?_⟩
  rw [List.eq_of_mem_replicate hv]; rfl
/-! ### arrays -/
theorem inb {vs : List Value} {x : Int32} {cl : Cell} (hs : cl.slots = vs.toArray) (hx0 : ¬ x < 0) {v : Value} (hv : vs[x.toNatClampNeg]? = some v) : ¬ (x < 0 ∨ cl.slots.size ≤ x.toNatClampNeg) := by
  have := (List.getElem?_eq_some_iff.mp hv).1
  rw [hs]; simp [hx0]; exact this
theorem s_arraylength {ty : FieldType} {vs : List Value} (z : Int32) (w : St p l e R s m args below meth c Z y bytes ml ret h0 n0 T Ls cells slots) (q : Lk Z h0 n0 Ls a (.inr (ty, vs))) (hd : decode bytes pc = .ok (.arraylength, 1)) (hz : vs.length.toInt32 = z) (hp : pc + 1 = pc') (G : Go p e below F T (mkF m pc' ls (.int z :: st))) : Go p e below F T (mkF m pc ls (.ref a :: st)) := by
  subst hp; subst hz
  obtain ⟨⟨hx, hZ, hown, hby, -⟩, locs, X, N, H⟩ := w
  obtain ⟨cl, A, -, hs, -⟩ := H.lk q
  refine Go.of (fun t k => X.arraylength hx A.1 (State.isArrayOf_alike hZ.alike A.2.1) (g := mkF m pc ls (.ref a :: st)) rfl rfl (hb hby hd) t ?_) G
  rw [show cl.slots.size.toInt32 = vs.length.toInt32 by rw [hs]; simp]; exact k
theorem s_iaload {vs : List Value} {x : Int32} (w : St p l e R s m args below meth c Z y bytes ml ret h0 n0 T Ls cells slots) (q : Lk Z h0 n0 Ls a (.inr (.int, vs))) (hd : decode bytes pc = .ok (.iaload, 1)) (hx0 : ¬ x < 0) (hv : vs[x.toNatClampNeg]? = some v) (hp : pc + 1 = pc') (G : Go p e below F T (mkF m pc' ls (v :: st))) : Go p e below F T (mkF m pc ls (.int x :: .ref a :: st)) := by
  subst hp
  obtain ⟨⟨hx, hZ, hown, hby, -⟩, locs, X, N, H⟩ := w
  obtain ⟨cl, A, -, hs, -⟩ := H.lk q
  exact Go.of (fun t k => X.iaload hx A.1 (State.isArrayOf_alike hZ.alike A.2.1) A.2.2 (inb hs hx0 hv) (by rw [hs]; simpa using hv) (g := mkF m pc ls (.int x :: .ref a :: st)) rfl rfl (hb hby hd) t k) G
theorem s_laload {vs : List Value} {x : Int32} (w : St p l e R s m args below meth c Z y bytes ml ret h0 n0 T Ls cells slots) (q : Lk Z h0 n0 Ls a (.inr (.long, vs))) (hd : decode bytes pc = .ok (.laload, 1)) (hx0 : ¬ x < 0) (hv : vs[x.toNatClampNeg]? = some v) (hp : pc + 1 = pc') (G : Go p e below F T (mkF m pc' ls (v :: st))) : Go p e below F T (mkF m pc ls (.int x :: .ref a :: st)) := by
  subst hp
  obtain ⟨⟨hx, hZ, hown, hby, -⟩, locs, X, N, H⟩ := w
  obtain ⟨cl, A, -, hs, -⟩ := H.lk q
  exact Go.of (fun t k => X.laload hx A.1 (State.isArrayOf_alike hZ.alike A.2.1) A.2.2 (inb hs hx0 hv) (by rw [hs]; simpa using hv) (g := mkF m pc ls (.int x :: .ref a :: st)) rfl rfl (hb hby hd) t k) G
theorem s_aaload {vs : List Value} {x : Int32} {ty : FieldType} (w : St p l e R s m args below meth c Z y bytes ml ret h0 n0 T Ls cells slots) (q : Lk Z h0 n0 Ls a (.inr (ty, vs))) (hty : ty.isReference = true) (hd : decode bytes pc = .ok (.aaload, 1)) (hx0 : ¬ x < 0) (hv : vs[x.toNatClampNeg]? = some v) (hp : pc + 1 = pc') (G : Go p e below F T (mkF m pc' ls (v :: st))) : Go p e below F T (mkF m pc ls (.int x :: .ref a :: st)) := by
  subst hp
  obtain ⟨⟨hx, hZ, hown, hby, -⟩, locs, X, N, H⟩ := w
  obtain ⟨cl, A, -, hs, -⟩ := H.lk q
  exact Go.of (fun t k => X.aaload hx A.1 (State.isArrayOf_alike hZ.alike A.2.1) hty A.2.2 (inb hs hx0 hv) (by rw [hs]; simpa using hv) (g := mkF m pc ls (.int x :: .ref a :: st)) rfl rfl (hb hby hd) t k) G
theorem s_aaloadA {cl : Cell} {x : Int32} {ty : FieldType} (w : St p l e R s m args below meth c Z y bytes ml ret h0 n0 T Ls cells slots) (A : Arr Z h0 a cl ty) (hty : ty.isReference = true) (hd : decode bytes pc = .ok (.aaload, 1)) (hin : ¬ (x < 0 ∨ cl.slots.size ≤ x.toNatClampNeg)) (hv : cl.slots[x.toNatClampNeg]? = some v) (hp : pc + 1 = pc') (G : Go p e below F T (mkF m pc' ls (v :: st))) : Go p e below F T (mkF m pc ls (.int x :: .ref a :: st)) := by
  subst hp
  obtain ⟨⟨hx, hZ, hown, hby, -⟩, locs, X, N, H⟩ := w
  have A := A.ext H.2.1
  exact Go.of (fun t k => X.aaload hx A.1 (State.isArrayOf_alike hZ.alike A.2.1) hty A.2.2 hin hv (g := mkF m pc ls (.int x :: .ref a :: st)) rfl rfl (hb hby hd) t k) G
theorem s_arraylengthA {cl : Cell} {ty : FieldType} (z : Int32) (w : St p l e R s m args below meth c Z y bytes ml ret h0 n0 T Ls cells slots) (A : Arr Z h0 a cl ty) (hd : decode bytes pc = .ok (.arraylength, 1)) (hz : cl.slots.size.toInt32 = z) (hp : pc + 1 = pc') (G : Go p e below F T (mkF m pc' ls (.int z :: st))) : Go p e below F T (mkF m pc ls (.ref a :: st)) := by
  subst hp; subst hz
  obtain ⟨⟨hx, hZ, hown, hby, -⟩, locs, X, N, H⟩ := w
  have A := A.ext H.2.1
  exact Go.of (fun t k => X.arraylength hx A.1 (State.isArrayOf_alike hZ.alike A.2.1) (g := mkF m pc ls (.ref a :: st)) rfl rfl (hb hby hd) t k) G
theorem Is.aset {vs : List Value} {ty : FieldType} {cl : Cell} {j : Nat} (A : Arr Z h a cl ty) (O : ∀ C, ty = .object C → Ovr Z cl.cls C) (hs : cl.slots = vs.toArray) (hl : vs.length < 2 ^ 31) (hf : ∀ v ∈ vs, fits ty v = true) (hv : fits ty v = true) (W : Wr h h' a j v) : Is Z h' a (.inr (ty, vs.set j v)) :=
  ⟨cl.setSlot j v, A.same W, O, by simp [Cell.setSlot, hs], by simpa using hl, fun u hu => (List.mem_or_eq_of_mem_set hu).elim (hf u) fun e => e ▸ hv⟩
theorem s_iastore {vs : List Value} {x z : Int32} {k : Nat} (w : St p l e R s m args below meth c Z y bytes ml ret h0 n0 T Ls cells slots) (q : Ls[k]? = some (.inr (.int, vs))) (hd : decode bytes pc = .ok (.iastore, 1)) (hx0 : ¬ x < 0) (hv : x.toNatClampNeg < vs.length) (hp : pc + 1 = pc')
    (G : ∀ T', St p l e R s m args below meth c Z y bytes ml ret h0 n0 T' (Ls.set k (.inr (.int, vs.set x.toNatClampNeg (.int z)))) cells slots → Go p e below F T' (mkF m pc' ls st)) : Go p e below F T (mkF m pc ls (.int z :: .int x :: .ref (n0 + k) :: st)) := by
  subst hp
  obtain ⟨w1, locs, X, N, H⟩ := w
  have w1' := w1
  obtain ⟨hx, hZ, hown, hby, -⟩ := w1
  obtain ⟨cl, A, O, hs, hl, hf⟩ := H.at q
  obtain ⟨T', h', X', e', W', st'⟩ := stI X hx hZ rfl A (inb hs hx0 (List.getElem?_eq_getElem hv)) (g := mkF m pc ls (.int z :: .int x :: .ref (n0 + k) :: st)) rfl rfl (hb hby hd)
  exact Go.of st' (G T' ⟨w1', _, X', Fr.snoc X' N (Nat.le_add_right _ _), by rw [e']; exact H.wr q W' (Is.aset A O hs hl hf rfl W')⟩)
theorem s_lastore {vs : List Value} {x : Int32} {z : Int64} {k : Nat} (w : St p l e R s m args below meth c Z y bytes ml ret h0 n0 T Ls cells slots) (q : Ls[k]? = some (.inr (.long, vs))) (hd : decode bytes pc = .ok (.lastore, 1)) (hx0 : ¬ x < 0) (hv : x.toNatClampNeg < vs.length) (hp : pc + 1 = pc')
    (G : ∀ T', St p l e R s m args below meth c Z y bytes ml ret h0 n0 T' (Ls.set k (.inr (.long, vs.set x.toNatClampNeg (.long z)))) cells slots → Go p e below F T' (mkF m pc' ls st)) : Go p e below F T (mkF m pc ls (.long z :: .int x :: .ref (n0 + k) :: st)) := by
  subst hp
  obtain ⟨w1, locs, X, N, H⟩ := w
  have w1' := w1
  obtain ⟨hx, hZ, hown, hby, -⟩ := w1
  obtain ⟨cl, A, O, hs, hl, hf⟩ := H.at q
  obtain ⟨T', h', X', e', W', st'⟩ := stJ X hx hZ rfl A (inb hs hx0 (List.getElem?_eq_getElem hv)) (g := mkF m pc ls (.long z :: .int x :: .ref (n0 + k) :: st)) rfl rfl (hb hby hd)
  exact Go.of st' (G T' ⟨w1', _, X', Fr.snoc X' N (Nat.le_add_right _ _), by rw [e']; exact H.wr q W' (Is.aset A O hs hl hf rfl W')⟩)
theorem Lk.ins {C K : String} {fs : List (String × String × String)} {vs : List Value} (H : Hp Z h0 n0 Ls h) (q : Lk Z h0 n0 Ls a (.inl (C, fs, vs))) (k : C = K ∨ (Cond.castable C K).before a0 Z = true) : Ins Z h a K true := by
  rcases k with rfl | k
  · exact Ins.self (H.lk q).1
  · exact Ins.of_exa (H.lk q).1 k
theorem s_aastore {vs us : List Value} {x : Int32} {k : Nat} {C K : String} {fs : List (String × String × String)} (w : St p l e R s m args below meth c Z y bytes ml ret h0 n0 T Ls cells slots) (q : Ls[k]? = some (.inr (.object K, vs))) (qb : Lk Z h0 n0 Ls b (.inl (C, fs, us))) (kc : C = K ∨ (Cond.castable C K).before a0 Z = true) (hd : decode bytes pc = .ok (.aastore, 1)) (hx0 : ¬ x < 0) (hv : x.toNatClampNeg < vs.length) (hp : pc + 1 = pc')
    (G : ∀ T', St p l e R s m args below meth c Z y bytes ml ret h0 n0 T' (Ls.set k (.inr (.object K, vs.set x.toNatClampNeg (.ref b)))) cells slots → Go p e below F T' (mkF m pc' ls st)) : Go p e below F T (mkF m pc ls (.ref b :: .int x :: .ref (n0 + k) :: st)) := by
  subst hp
  obtain ⟨w1, locs, X, N, H⟩ := w
  have w1' := w1
  obtain ⟨hx, hZ, hown, hby, -⟩ := w1
  obtain ⟨cl, A, O, hs, hl, hf⟩ := H.at q
  obtain ⟨T', h', X', e', W', st'⟩ := stR X hx hZ rfl A (inb hs hx0 (List.getElem?_eq_getElem hv)) rfl (Sto.of A (O K rfl) (Lk.ins H qb kc)) (g := mkF m pc ls (.ref b :: .int x :: .ref (n0 + k) :: st)) rfl rfl (hb hby hd)
  exact Go.of st' (G T' ⟨w1', _, X', Fr.snoc X' N (Nat.le_add_right _ _), by rw [e']; exact H.wr q W' (Is.aset A O hs hl hf rfl W')⟩)
theorem s_checkcast {i : Nat} {C K : String} {fs : List (String × String × String)} {vs : List Value} (w : St p l e R s m args below meth c Z y bytes ml ret h0 n0 T Ls cells slots) (k : (Cond.classLink y.cls i K).before a0 Z = true) (q : Lk Z h0 n0 Ls a (.inl (C, fs, vs))) (kc : C = K ∨ (Cond.castable C K).before a0 Z = true) (hd : decode bytes pc = .ok (.checkcast i, 3)) (hp : pc + 3 = pc')
    (G : ∀ T', St p l e R s m args below meth c Z y bytes ml ret h0 n0 T' Ls cells slots → Go p e below F T' (mkF m pc' ls (.ref a :: st))) : Go p e below F T (mkF m pc ls (.ref a :: st)) := by
  subst hp
  obtain ⟨w1, locs, X, N, H⟩ := w
  have w1' := w1
  obtain ⟨hx, hZ, hown, hby, -⟩ := w1
  obtain ⟨T', X', e', st'⟩ := castY X hx hZ hown k rfl (Lk.ins H q kc) (g := mkF m pc ls (.ref a :: st)) rfl rfl (hb hby hd)
  exact Go.of st' (G T' ⟨w1', locs, X', N, by rw [e']; exact H⟩)
theorem copied_slots {cs cd : Cell} {vs vd : List Value} {sp dp nn : Int32} (hs : cs.slots = vs.toArray) (hd : cd.slots = vd.toArray) (h4 : sp.toNatClampNeg + nn.toNatClampNeg ≤ vs.length) (h5 : dp.toNatClampNeg + nn.toNatClampNeg ≤ vd.length) :
    (cd.storeRun dp.toNatClampNeg (cs.stretch sp.toNatClampNeg nn.toNatClampNeg)).slots = (vd.take dp.toNatClampNeg ++ (vs.drop sp.toNatClampNeg).take nn.toNatClampNeg ++ vd.drop (dp.toNatClampNeg + nn.toNatClampNeg)).toArray := by
  have est : cs.stretch sp.toNatClampNeg nn.toNatClampNeg = (vs.drop sp.toNatClampNeg).take nn.toNatClampNeg := by
    apply List.ext_getElem?
    intro i
    by_cases hi : i < nn.toNatClampNeg
    · rw [List.getElem?_take_of_lt hi, List.getElem?_drop]
      simp only [Cell.stretch, List.getElem?_map, List.getElem?_range hi, Option.map_some, hs, Array.getD_eq_getD_getElem?, List.getElem?_toArray]
      rw [List.getElem?_eq_getElem (by omega)]; rfl
    · rw [List.getElem?_eq_none (by simp [Cell.stretch]; omega), List.getElem?_eq_none (by simp; omega)]
  have ul : ((vs.drop sp.toNatClampNeg).take nn.toNatClampNeg).length = nn.toNatClampNeg := by simp; omega
  rw [est]
  generalize (vs.drop sp.toNatClampNeg).take nn.toNatClampNeg = us at *
  apply Array.ext_getElem?
  intro j
  rw [Cell.storeRun_get _ _ _ _ (by rw [ul, hd]; simpa using h5), ul, hd]
  simp only [List.getElem?_toArray]
  have lt : (vd.take dp.toNatClampNeg).length = dp.toNatClampNeg := by rw [List.length_take]; omega
  by_cases c1 : j < dp.toNatClampNeg
  · rw [if_neg (by omega), List.append_assoc, List.getElem?_append_left (by omega), List.getElem?_take_of_lt c1]
  · by_cases c2 : j < dp.toNatClampNeg + nn.toNatClampNeg
    · rw [if_pos ⟨by omega, c2⟩, List.getElem?_append_left (by rw [List.length_append]; omega), List.getElem?_append_right (by omega), lt]
    · rw [if_neg (by omega), List.getElem?_append_right (by rw [List.length_append]; omega), List.length_append, lt, ul, List.getElem?_drop, show dp.toNatClampNeg + nn.toNatClampNeg + (j - (dp.toNatClampNeg + nn.toNatClampNeg)) = j by omega]
theorem s_arraycopy {ty : FieldType} {vs vd : List Value} {sp dp nn : Int32} {i k : Nat} (W : Nat) (w : St p l e R s m args below meth c Z y bytes ml ret h0 n0 T Ls cells slots) (qa : Lk Z h0 n0 Ls a (.inr (ty, vs))) (qb : Ls[k]? = some (.inr (ty, vd))) (hty : refKind ty = false)
    (k1 : (Cond.methodLink y.cls i Jvm.Stand.acN).before a0 Z = true) (k2 : (Cond.native Jvm.Stand.acN).before a0 Z = true) (k3 : (Cond.static Jvm.Stand.acN).before a0 Z = true) (k4 : (Cond.initialized "java/lang/System").before a0 Z = true)
    (h1 : ¬ sp < 0) (h2 : ¬ dp < 0) (h3 : ¬ nn < 0) (h4 : sp.toNatClampNeg + nn.toNatClampNeg ≤ vs.length) (h5 : dp.toNatClampNeg + nn.toNatClampNeg ≤ vd.length)
    (hd : decode bytes pc = .ok (.invokestatic i, 3)) (hsz : ls.size = ml) (hf : 1 ≤ R.frames) (hW : (st.map fun v => v.category).sum ≤ W) (hlo : W + (nativeFrameWords "java/lang/System" "arraycopy" 5 + 11) ≤ R.locals) (hp : pc + 3 = pc')
    (G : ∀ T', St p l e R s m args below meth c Z y bytes ml ret h0 n0 T' (Ls.set k (.inr (ty, vd.take dp.toNatClampNeg ++ (vs.drop sp.toNatClampNeg).take nn.toNatClampNeg ++ vd.drop (dp.toNatClampNeg + nn.toNatClampNeg)))) cells slots → Go p e below F T' (mkF m pc' ls st)) :
    Go p e below F T (mkF m pc ls (.int nn :: .int dp :: .ref (n0 + k) :: .int sp :: .ref a :: st)) := by
  subst hp
  obtain ⟨w1, locs, X, N, H⟩ := w
  have w1' := w1
  obtain ⟨hx, hZ, hown, hby, hml, -⟩ := w1
  obtain ⟨cs, As, Os, hs, hls, hfs⟩ := H.lk qa
  obtain ⟨cd, Ad, Od, hdd, hld, hfd⟩ := H.at qb
  obtain ⟨os, ks, hks, sc, hsk⟩ := State.isArrayOf_alike (T := s) hZ.alike As.2.1
  obtain ⟨od, kd, hkd, dc, hdk⟩ := State.isArrayOf_alike (T := s) hZ.alike Ad.2.1
  have ss : cs.slots.size = vs.length := by rw [hs]; simp
  have sd : cd.slots.size = vd.length := by rw [hdd]; simp
  have fit : ∀ i, i < nn.toNatClampNeg → fits ty (cs.slots.getD (sp.toNatClampNeg + i) .null) = true := fun i hi => by
    rw [hs, Array.getD_eq_getD_getElem?, List.getElem?_toArray, List.getElem?_eq_getElem (by omega)]
    exact hfs _ (List.getElem_mem _)
  obtain ⟨vm₁, hW₁, X', st'⟩ := X.arraycopyK hx hown (mvT hZ k1) (mvT hZ k2) (mvT hZ k3) (mvT hZ k4) As.1 Ad.1 os od As.2.2 Ad.2.2 hks hkd hsk hdk (by simp [hty]) h1 h2 h3 (by rw [nat_of h1, nat_of h3, ss]; omega) (by rw [nat_of h2, nat_of h3, sd]; omega)
    (fun vm₁ hw i hi => by
      have q := fit i hi
      refine ⟨q, ?_⟩
      generalize cs.slots.getD (sp.toNatClampNeg + i) .null = u at q ⊢
      cases u <;> first | trivial | exact (prim_no_ref hty q).elim)
    (g := mkF m pc ls (.int nn :: .int dp :: .ref (n0 + k) :: .int sp :: .ref a :: st)) rfl (by rw [hml]; exact hsz) rfl (hb hby hd) hf (by show 2 * 0 + _ + _ ≤ _; omega)
  refine Go.of st' (G _ ⟨w1', _, X', N.app fun y hy => by rw [Jvm.Stand.copyLocs_base hy]; omega, ?_⟩)
  have cf := cd.storeRun_facts dp.toNatClampNeg (cs.stretch sp.toNatClampNeg nn.toNatClampNeg)
  have eh : ((T.setVm vm₁).setCell (n0 + k) (copied cs cd sp dp nn)).heap = T.heap.setIfInBounds (n0 + k) (cd.storeRun dp.toNatClampNeg (cs.stretch sp.toNatClampNeg nn.toNatClampNeg)) := rfl
  rw [eh]
  have hb' : n0 + k < T.heap.size := Ad.lt
  refine H.keep qb ⟨by simp, fun x c q r => ?_, fun x c q => ?_⟩ (by simp) ⟨_, ⟨by rw [Array.getElem?_setIfInBounds_self_of_lt hb'], ?_, by rw [cf.2.1]; exact Ad.2.2⟩, fun C e => ?_, copied_slots hs hdd h4 h5, by simp; omega, fun v hv => ?_⟩
  · have : n0 + k ≠ x := fun z => r (by simp [z])
    rw [Array.getElem?_setIfInBounds_ne this]; exact q
  · by_cases u : n0 + k = x
    · subst u; cases Ad.1.symm.trans q
      exact ⟨_, by rw [Array.getElem?_setIfInBounds_self_of_lt hb'], cf.1, cf.2.1, cf.2.2.1⟩
    · exact ⟨c, by rw [Array.getElem?_setIfInBounds_ne u]; exact q, rfl, rfl, rfl⟩
  · have := Ad.2.1; unfold State.isArrayOf at this ⊢; rw [cf.1, cf.2.1]; exact this
  · rw [e] at hty; cases hty
  · rcases List.mem_append.mp hv with hv | hv
    · rcases List.mem_append.mp hv with hv | hv
      · exact hfd _ (List.mem_of_mem_take hv)
      · exact hfs _ (List.mem_of_mem_drop (List.mem_of_mem_take hv))
    · exact hfd _ (List.mem_of_mem_drop hv)
/-! ### calls -/
theorem backC {y' : MethodName} {by' : ByteArray} {ml' : Nat} {ret' : Option FieldType} {rm : Room} {as' : Array Value} {Q : Option Value → List Ob → Prop} {len W : Nat} (K : Con l Z y' by' ml' ret' rm as' h0 n0 Ls Q) (H : Hp Z h0 n0 Ls h) (hZ : Z.Warmed39 s.vm) (wc : (Cond.code y' by' ml' ret').before a0 Z = true) (wz : (Cond.initialized y'.cls).before a0 Z = true) (hf : rm.frames + 1 ≤ R.frames) (hl : W + (ml' + 11) + rm.locals ≤ R.locals) :
    Back l R p e below s args y' len W (fun A a => a = as' ∧ A.U.heap = h ∧ A.cells + rm.cells ≤ R.cells ∧ A.slots + rm.slots ≤ R.slots)
      (fun A _ v B => ∃ L, (∃ Ls', Q v Ls' ∧ Fr n0 L ∧ Hp Z h0 n0 Ls' B.U.heap) ∧ B.locs = A.locs ++ L ∧ B.cells = A.cells + rm.cells ∧ B.slots = A.slots + rm.slots) :=
  backOf (Q := fun v h L => ∃ Ls', Q v Ls' ∧ Fr n0 L ∧ Hp Z h0 n0 Ls' h) (K h H) hZ wc wz hf hl
theorem s_static {i : Nat} {y' : MethodName} {by' : ByteArray} {ml' : Nat} {ret' : Option FieldType} {rm : Room} {as' : Array Value} {Q : Option Value → List Ob → Prop} {ps : List FieldType} {rr : Option FieldType} (W : Nat) (argsL : List Value) (w : St p l e R s m args below meth c Z y bytes ml ret h0 n0 T Ls cells slots) (K : Con l Z y' by' ml' ret' rm as' h0 n0 Ls Q)
    (k1 : (Cond.methodLink y.cls i y').before a0 Z = true) (k2 : (Cond.static y').before a0 Z = true) (k3 : (Cond.initialized y'.cls).before a0 Z = true) (k4 : (Cond.code y' by' ml' ret').before a0 Z = true) (hy : y'.cls ≠ "java/lang/invoke/MethodHandle" ∧ y'.cls ≠ "java/lang/invoke/VarHandle") (pd : parseMethodDescriptor y'.desc = some ⟨ps, rr⟩) (hd : decode bytes pc = .ok (.invokestatic i, 3))
    (hrm : rm.frames + 1 ≤ R.frames ∧ W + (ml' + 11) + rm.locals ≤ R.locals ∧ cells + rm.cells ≤ R.cells ∧ slots + rm.slots ≤ R.slots) (hsz : ls.size = ml) (hpl : argsL.length = ps.length) (has : argsL.toArray = as') (hst : st = argsL.reverse ++ rest) (hW : (rest.map fun v => v.category).sum ≤ W) (hp : pc + 3 = pc')
    (G : ∀ T' v Ls', Q v Ls' → St p l e R s m args below meth c Z y bytes ml ret h0 n0 T' Ls' (cells + rm.cells) (slots + rm.slots) → Go p e below F T' (mkF m pc' ls (v.toList ++ rest))) : Go p e below F T (mkF m pc ls st) := by
  subst hp; subst hst
  obtain ⟨w1, locs, X, N, H⟩ := w
  have w1' := w1
  obtain ⟨hx, hZ, hown, hby, hml, -⟩ := w1
  obtain ⟨v, _, ⟨T', L', c', n'⟩, -, X', ⟨Lc, ⟨Ls', hQ, N', H'⟩, l', z1, z2⟩, st'⟩ := Jvm.LawKit.callS X hx hown (mvT hZ k1) (mvT hZ k2) (mvT hZ k3) (mvT hZ k4) hy (backC (W := W) K H hZ k4 k3 hrm.1 hrm.2.1) (g := mkF m pc ls (argsL.reverse ++ rest)) rfl (by rw [hml]; exact hsz) (argsL := argsL) (rest := rest) (lenOf pd hpl) rfl (by show 2 * 0 + _ ≤ _; omega) (hb hby hd) (fun _ _ => ⟨has, rfl, hrm.2.2.1, hrm.2.2.2⟩)
  dsimp only [Pt.U, Pt.locs, Pt.cells, Pt.slots] at X' l' z1 z2 st' H'
  subst l' z1 z2
  exact Go.of st' (G T' v Ls' hQ ⟨w1', _, X', Fr.app N N', H'⟩)
theorem s_special {i : Nat} {y' : MethodName} {by' : ByteArray} {ml' : Nat} {rm : Room} {as' : Array Value} {Q : Option Value → List Ob → Prop} {ps : List FieldType} {rr : Option FieldType} (W : Nat) (argsL : List Value) (w : St p l e R s m args below meth c Z y bytes ml ret h0 n0 T Ls cells slots) (K : Con l Z y' by' ml' none rm as' h0 n0 Ls Q)
    (hy1 : y'.name = "<init>") (k1 : (Cond.methodLink y.cls i y').before a0 Z = true) (k2 : (Cond.instanceMethod y').before a0 Z = true) (k3 : (Cond.initialized y'.cls).before a0 Z = true) (k4 : (Cond.code y' by' ml' none).before a0 Z = true) (hy : y'.cls ≠ "java/lang/invoke/MethodHandle" ∧ y'.cls ≠ "java/lang/invoke/VarHandle") (pd : parseMethodDescriptor y'.desc = some ⟨ps, rr⟩) (hd : decode bytes pc = .ok (.invokespecial i, 3))
    (hrm : rm.frames + 1 ≤ R.frames ∧ W + (ml' + 11) + rm.locals ≤ R.locals ∧ cells + rm.cells ≤ R.cells ∧ slots + rm.slots ≤ R.slots) (hsz : ls.size = ml) (hpl : argsL.length = ps.length) (has : (.ref a :: argsL).toArray = as') (hst : st = argsL.reverse ++ .ref a :: rest) (hW : (rest.map fun v => v.category).sum ≤ W) (hp : pc + 3 = pc')
    (G : ∀ T' v Ls', Q v Ls' → St p l e R s m args below meth c Z y bytes ml ret h0 n0 T' Ls' (cells + rm.cells) (slots + rm.slots) → Go p e below F T' (mkF m pc' ls (v.toList ++ rest))) : Go p e below F T (mkF m pc ls st) := by
  subst hp; subst hst
  obtain ⟨w1, locs, X, N, H⟩ := w
  have w1' := w1
  obtain ⟨hx, hZ, hown, hby, hml, -⟩ := w1
  obtain ⟨v, _, ⟨T', L', c', n'⟩, -, X', ⟨Lc, ⟨Ls', hQ, N', H'⟩, l', z1, z2⟩, st'⟩ := X.specialBack hx hy1 hown (mvT hZ k1) (mvT hZ k2) (mvT hZ k4) hy (backC (W := W) K H hZ k4 k3 hrm.1 hrm.2.1) (g := mkF m pc ls (argsL.reverse ++ .ref a :: rest)) rfl (by rw [hml]; exact hsz) (Steps.refl _) (argsL := argsL) (rest := rest) (lenOf pd hpl) rfl (by show 2 * 0 + _ ≤ _; omega) (hb hby hd) (fun _ _ => ⟨has, rfl, hrm.2.2.1, hrm.2.2.2⟩)
  dsimp only [Pt.U, Pt.locs, Pt.cells, Pt.slots] at X' l' z1 z2 st' H'
  subst l' z1 z2
  exact Go.of (fun t q => st'.trans q) (G T' v Ls' hQ ⟨w1', _, X', Fr.app N N', H'⟩)
theorem s_virtual {i : Nat} {C : String} {fs : List (String × String × String)} {vs : List Value} {y1 y' : MethodName} {by' : ByteArray} {ml' : Nat} {ret' : Option FieldType} {rm : Room} {as' : Array Value} {Q : Option Value → List Ob → Prop} {ps : List FieldType} {rr : Option FieldType} (W : Nat) (argsL : List Value) (w : St p l e R s m args below meth c Z y bytes ml ret h0 n0 T Ls cells slots) (K : Con l Z y' by' ml' ret' rm as' h0 n0 Ls Q) (q : Lk Z h0 n0 Ls a (.inl (C, fs, vs)))
    (k1 : (Cond.methodLink y.cls i y1).before a0 Z = true) (k2 : (Cond.declares y1).before a0 Z = true) (k5 : NotFace s y1) (k6 : (Cond.selects C y1 y').before a0 Z = true) (k7 : (Cond.instanceMethod y').before a0 Z = true) (k3 : (Cond.initialized y'.cls).before a0 Z = true) (k4 : (Cond.code y' by' ml' ret').before a0 Z = true) (hy : y1.cls ≠ "java/lang/invoke/MethodHandle" ∧ y1.cls ≠ "java/lang/invoke/VarHandle") (pd : parseMethodDescriptor y1.desc = some ⟨ps, rr⟩) (hd : decode bytes pc = .ok (.invokevirtual i, 3))
    (hrm : rm.frames + 1 ≤ R.frames ∧ W + (ml' + 11) + rm.locals ≤ R.locals ∧ cells + rm.cells ≤ R.cells ∧ slots + rm.slots ≤ R.slots) (hsz : ls.size = ml) (hpl : argsL.length = ps.length) (has : (.ref a :: argsL).toArray = as') (hst : st = argsL.reverse ++ .ref a :: rest) (hW : (rest.map fun v => v.category).sum ≤ W) (hp : pc + 3 = pc')
    (G : ∀ T' v Ls', Q v Ls' → St p l e R s m args below meth c Z y bytes ml ret h0 n0 T' Ls' (cells + rm.cells) (slots + rm.slots) → Go p e below F T' (mkF m pc' ls (v.toList ++ rest))) : Go p e below F T (mkF m pc ls st) := by
  subst hp; subst hst
  obtain ⟨w1, locs, X, N, H⟩ := w
  have w1' := w1
  obtain ⟨hx, hZ, hown, hby, hml, -⟩ := w1
  obtain ⟨cq, kq, qa, qb, qc⟩ := isOf (s := s) (T := T) hZ rfl (H.lk q).1
  obtain ⟨v, _, ⟨T', L', c', n'⟩, -, X', ⟨Lc, ⟨Ls', hQ, N', H'⟩, l', z1, z2⟩, st'⟩ := X.virtualBack hx hown (mvT hZ k1) (mvT hZ k2) k5 (mvT hZ k6) (mvT hZ k7) hy (backC (W := W) K H hZ k4 k3 hrm.1 hrm.2.1) qa qc (g := mkF m pc ls (argsL.reverse ++ .ref a :: rest)) rfl (by rw [hml]; exact hsz) (Steps.refl _) (argsL := argsL) (rest := rest) (lenOf pd hpl) rfl (by show 2 * 0 + _ ≤ _; omega) (hb hby hd) (fun _ _ => ⟨has, rfl, hrm.2.2.1, hrm.2.2.2⟩)
  dsimp only [Pt.U, Pt.locs, Pt.cells, Pt.slots] at X' l' z1 z2 st' H'
  subst l' z1 z2
  exact Go.of (fun t q => st'.trans q) (G T' v Ls' hQ ⟨w1', _, X', Fr.app N N', H'⟩)
theorem St.notFace {C : String} {y1 : MethodName} (w : St p l e R s m args below meth c Z y bytes ml ret h0 n0 T Ls cells slots) (k : (Cond.selects C y1 y1).before a0 Z = true) : NotFace s y1 := by
  exact notFace_of_selects (args := #[]) (mvT w.1.2.1 k)
theorem s_face {i n : Nat} {C : String} {fs : List (String × String × String)} {vs : List Value} {y1 y' : MethodName} {by' : ByteArray} {ml' : Nat} {ret' : Option FieldType} {rm : Room} {as' : Array Value} {Q : Option Value → List Ob → Prop} {ps : List FieldType} {rr : Option FieldType} (W : Nat) (argsL : List Value) (w : St p l e R s m args below meth c Z y bytes ml ret h0 n0 T Ls cells slots) (K : Con l Z y' by' ml' ret' rm as' h0 n0 Ls Q) (q : Lk Z h0 n0 Ls a (.inl (C, fs, vs)))
    (k1 : (Cond.methodLink y.cls i y1).before a0 Z = true) (k2 : (Cond.declares y1).before a0 Z = true) (k5 : (Cond.interfaceMethod y1.cls y1.cls y1.name y1.desc).before a0 Z = true) (k6 : (Cond.selects C y1 y').before a0 Z = true) (k7 : (Cond.instanceMethod y').before a0 Z = true) (k8 : (Cond.publicMethod y').before a0 Z = true) (k9 : (Cond.unhidden C y1.name y1.desc).before a0 Z = true) (k10 : (Cond.castable C y1.cls).before a0 Z = true) (k3 : (Cond.initialized y'.cls).before a0 Z = true) (k4 : (Cond.code y' by' ml' ret').before a0 Z = true) (hy : y1.cls ≠ "java/lang/invoke/MethodHandle" ∧ y1.cls ≠ "java/lang/invoke/VarHandle") (pd : parseMethodDescriptor y1.desc = some ⟨ps, rr⟩) (hd : decode bytes pc = .ok (.invokeinterface i n, 5))
    (hrm : rm.frames + 1 ≤ R.frames ∧ W + (ml' + 11) + rm.locals ≤ R.locals ∧ cells + rm.cells ≤ R.cells ∧ slots + rm.slots ≤ R.slots) (hsz : ls.size = ml) (hpl : argsL.length = ps.length) (has : (.ref a :: argsL).toArray = as') (hst : st = argsL.reverse ++ .ref a :: rest) (hW : (rest.map fun v => v.category).sum ≤ W) (hp : pc + 5 = pc')
    (G : ∀ T' v Ls', Q v Ls' → St p l e R s m args below meth c Z y bytes ml ret h0 n0 T' Ls' (cells + rm.cells) (slots + rm.slots) → Go p e below F T' (mkF m pc' ls (v.toList ++ rest))) : Go p e below F T (mkF m pc ls st) := by
  subst hp; subst hst
  obtain ⟨w1, locs, X, N, H⟩ := w
  have w1' := w1
  obtain ⟨hx, hZ, hown, hby, hml, -⟩ := w1
  obtain ⟨cq, kq, qa, qb, qc⟩ := isOf (s := s) (T := T) hZ rfl (H.lk q).1
  obtain ⟨v, _, ⟨T', L', c', n'⟩, -, X', ⟨Lc, ⟨Ls', hQ, N', H'⟩, l', z1, z2⟩, st'⟩ := X.interfaceBack hx hown (mvT hZ k1) (mvT hZ k2) (mvT hZ k5 (by simp [Cond.onTables, Cond.keepsFace, Cond.keeps, Cond.steady, Cond.faceAtom]; exact hy)) (mvT hZ k6) (mvT hZ k7) (mvT hZ k8) (mvT hZ k9) (mvT hZ k10) hy (backC (W := W) K H hZ k4 k3 hrm.1 hrm.2.1) qa qb qc (g := mkF m pc ls (argsL.reverse ++ .ref a :: rest)) rfl (by rw [hml]; exact hsz) (Steps.refl _) (argsL := argsL) (rest := rest) (lenOf pd hpl) rfl (by show 2 * 0 + _ ≤ _; omega) (hb hby hd) (fun _ _ => ⟨has, rfl, hrm.2.2.1, hrm.2.2.2⟩)
  dsimp only [Pt.U, Pt.locs, Pt.cells, Pt.slots] at X' l' z1 z2 st' H'
  subst l' z1 z2
  exact Go.of (fun t q => st'.trans q) (G T' v Ls' hQ ⟨w1', _, X', Fr.app N N', H'⟩)
theorem s_private {i : Nat} {C : String} {fs : List (String × String × String)} {vs : List Value} {y1 y' : MethodName} {by' : ByteArray} {ml' : Nat} {ret' : Option FieldType} {rm : Room} {as' : Array Value} {Q : Option Value → List Ob → Prop} {ps : List FieldType} {rr : Option FieldType} (W : Nat) (argsL : List Value) (w : St p l e R s m args below meth c Z y bytes ml ret h0 n0 T Ls cells slots) (K : Con l Z y' by' ml' ret' rm as' h0 n0 Ls Q) (q : Lk Z h0 n0 Ls a (.inl (C, fs, vs)))
    (k1 : (Cond.methodLink y.cls i y').before a0 Z = true) (k7 : (Cond.instanceMethod y').before a0 Z = true) (k6 : (Cond.selects y'.cls y1 y1).before a0 Z = true) (hy1 : y1.cls = y'.cls) (k5 : (Cond.privateMethod y').before a0 Z = true) (k3 : (Cond.initialized y'.cls).before a0 Z = true) (k4 : (Cond.code y' by' ml' ret').before a0 Z = true) (hy : y'.cls ≠ "java/lang/invoke/MethodHandle" ∧ y'.cls ≠ "java/lang/invoke/VarHandle") (pd : parseMethodDescriptor y'.desc = some ⟨ps, rr⟩) (hd : decode bytes pc = .ok (.invokevirtual i, 3))
    (hrm : rm.frames + 1 ≤ R.frames ∧ W + (ml' + 11) + rm.locals ≤ R.locals ∧ cells + rm.cells ≤ R.cells ∧ slots + rm.slots ≤ R.slots) (hsz : ls.size = ml) (hpl : argsL.length = ps.length) (has : (.ref a :: argsL).toArray = as') (hst : st = argsL.reverse ++ .ref a :: rest) (hW : (rest.map fun v => v.category).sum ≤ W) (hp : pc + 3 = pc')
    (G : ∀ T' v Ls', Q v Ls' → St p l e R s m args below meth c Z y bytes ml ret h0 n0 T' Ls' (cells + rm.cells) (slots + rm.slots) → Go p e below F T' (mkF m pc' ls (v.toList ++ rest))) : Go p e below F T (mkF m pc ls st) := by
  subst hp; subst hst
  obtain ⟨w1, locs, X, N, H⟩ := w
  have w1' := w1
  obtain ⟨hx, hZ, hown, hby, hml, -⟩ := w1
  obtain ⟨cq, qa, qb⟩ := (H.lk q).1.cell
  obtain ⟨c2, r2, m2, -, -, q3, -, kP, hkP, hkPi⟩ := Cond.selects_spec (mvT hZ k6 : (Cond.selects y'.cls y1 y1).before args s = true)
  have hpr : s.PrivateAt y' := Cond.privateMethod_at (mvP hZ k5 (args := #[]))
  have hsel : (Cond.selects y'.cls y' y').before args s = true := selects_self_of_private (hy1 ▸ findClass_of_methodNamed q3) hkP hkPi hpr (mvT hZ k7) hy
  obtain ⟨v, _, ⟨T', L', c', n'⟩, -, X', ⟨Lc, ⟨Ls', hQ, N', H'⟩, l', z1, z2⟩, st'⟩ := X.privateBack hx hown (mvT hZ k1) (mvT hZ k7) hsel hpr (mvT hZ k4) hy (backC (W := W) K H hZ k4 k3 hrm.1 hrm.2.1) (g := mkF m pc ls (argsL.reverse ++ .ref a :: rest)) rfl (by rw [hml]; exact hsz) (Steps.refl _) (a := a) qa qb (argsL := argsL) (rest := rest) (lenOf pd hpl) rfl (by show 2 * 0 + _ ≤ _; omega) (hb hby hd) (fun _ _ => ⟨has, rfl, hrm.2.2.1, hrm.2.2.2⟩)
  dsimp only [Pt.U, Pt.locs, Pt.cells, Pt.slots] at X' l' z1 z2 st' H'
  subst l' z1 z2
  exact Go.of (fun t q => st'.trans q) (G T' v Ls' hQ ⟨w1', _, X', Fr.app N N', H'⟩)
theorem s_initO {i : Nat} (W : Nat) (w : St p l e R s m args below meth c Z y bytes ml ret h0 n0 T Ls cells slots) (k1 : (Cond.methodLink y.cls i Lib.objectInit).before a0 Z = true) (k2 : (Cond.instanceMethod Lib.objectInit).before a0 Z = true) (k3 : (Cond.code Lib.objectInit ⟨#[0xb1]⟩ 1 none).before a0 Z = true) (hd : decode bytes pc = .ok (.invokespecial i, 3)) (hsz : ls.size = ml) (hf : 1 ≤ R.frames) (hW : (st.map fun v => v.category).sum ≤ W) (hl : W + 12 ≤ R.locals) (hp : pc + 3 = pc')
    (G : ∀ T', St p l e R s m args below meth c Z y bytes ml ret h0 n0 T' Ls cells slots → Go p e below F T' (mkF m pc' ls st)) : Go p e below F T (mkF m pc ls (.ref a :: st)) := by
  subst hp
  obtain ⟨w1, locs, X, N, H⟩ := w
  have w1' := w1
  obtain ⟨hx, hZ, hown, hby, hml, -⟩ := w1
  obtain ⟨T', X', e', st'⟩ := initO X hx hZ hown k1 k2 k3 rfl (g := mkF m pc ls (.ref a :: st)) rfl (by rw [hml]; exact hsz) rfl (hb hby hd) hf (W := W) (by show 2 * 0 + _ ≤ _; omega) hl
  exact Go.of st' (G T' ⟨w1', locs, X', N, by rw [e']; exact H⟩)

end Own

theorem own_eqI {args : Array Value} {s : State} {t : Term} {z : Int32} (h : (Cond.eq t (.int z)).value args s none s [] = some true) : t.eval args s none [] s = some (.int z) := by
  cases ht : t.eval args s none [] s with
  | none => simp [Cond.value, ht] at h
  | some x => cases x <;> simp [Cond.value, ht, Term.eval] at h ⊢; exact h
theorem own_len0 {args : Array Value} {s : State} {t : Term} {a : Addr} {cl : Cell} (ev : t.eval args s none [] s = some (.ref a)) (ha : s.arrayAt? a = some cl) (h : (Cond.eq (.length t) (.int 0)).value args s none s [] = some true) : cl.slots.size = 0 := by
  have e := own_eqI h
  by_cases hl : cl.slots.size < 2 ^ 31
  · rw [len_f ev ha hl] at e
    have e1 : cl.slots.size.toInt32 = 0 := by simpa using e
    have e2 := len_toInt hl
    rw [e1] at e2
    have : (0 : Int32).toInt = 0 := rfl
    omega
  · simp [Term.eval, ev, ha, hl] at e

theorem set_self {Ls : List Ob} {k : Nat} {o : Ob} (q : Ls[k]? = some o) : Ls.set k o = Ls := by
  obtain ⟨h, rfl⟩ := List.getElem?_eq_some_iff.mp q
  exact List.set_getElem_self h
theorem succ32 (i : Nat) : i.toInt32 + (1 : Int32) = (i + 1).toInt32 := (Int32.ofNat_add i 1).symm
theorem fill_step {vs : List Value} {x : Value} {i : Nat} (h : i < vs.length) : (List.replicate i x ++ vs.drop i).set i x = List.replicate (i + 1) x ++ vs.drop (i + 1) := by
  rw [List.set_append_right _ _ (by simp), List.length_replicate, Nat.sub_self, List.drop_eq_getElem_cons h, List.set_cons_zero, List.replicate_succ', List.append_assoc]
  rfl

theorem n_toInt {a : Nat} (h : a < 2 ^ 31) : (Int32.ofNat a).toInt = a := len_toInt h
theorem n_bv {a : Nat} (h : a < 2 ^ 32) : (Int32.ofNat a).toBitVec.toNat = a := by
  show (BitVec.ofNat 32 a).toNat = a
  rw [BitVec.toNat_ofNat]; exact Nat.mod_eq_of_lt h
theorem n_back (x : Int32) : Int32.ofNat x.toBitVec.toNat = x := Int32.toBitVec_inj.mp (by show BitVec.ofNat 32 x.toBitVec.toNat = _; simp)
theorem n_pos {x : Int32} (h : 0 < x) : 1 ≤ x.toBitVec.toNat ∧ x.toBitVec.toNat < 2 ^ 31 := by
  rw [Int32.lt_iff_toInt_lt] at h
  have e : x.toInt = x.toBitVec.toInt := rfl
  have z : (0 : Int32).toInt = 0 := rfl
  rw [e, z, BitVec.toInt_eq_toNat_cond] at h
  have := x.toBitVec.isLt
  split at h <;> omega
theorem n_lt {a t : Nat} (ha : a < 2 ^ 31) (ht : t < 2 ^ 31) : Int32.ofNat a < Int32.ofNat t ↔ a < t := by
  rw [Int32.lt_iff_toInt_lt, n_toInt ha, n_toInt ht]; omega
theorem n_of {x : Int32} {a : Nat} (h : x.toBitVec.toNat = a) : x = Int32.ofNat a := by rw [← h, n_back]
theorem n_us16 {a : Nat} (h : a < 2 ^ 31) : Jvm.Free.XT.ushr (Int32.ofNat a) 16 = Int32.ofNat (a / 2 ^ 16) := n_of (by
  rw [show (Jvm.Free.XT.ushr (Int32.ofNat a) 16).toBitVec = (Int32.ofNat a).toBitVec >>> 16 from rfl, BitVec.toNat_ushiftRight, n_bv (by omega), Nat.shiftRight_eq_div_pow])
theorem n_us8 {a : Nat} (h : a < 2 ^ 31) : Jvm.Free.XT.ushr (Int32.ofNat a) 8 = Int32.ofNat (a / 2 ^ 8) := n_of (by
  rw [show (Jvm.Free.XT.ushr (Int32.ofNat a) 8).toBitVec = (Int32.ofNat a).toBitVec >>> 8 from rfl, BitVec.toNat_ushiftRight, n_bv (by omega), Nat.shiftRight_eq_div_pow])
theorem n_us4 {a : Nat} (h : a < 2 ^ 31) : Jvm.Free.XT.ushr (Int32.ofNat a) 4 = Int32.ofNat (a / 2 ^ 4) := n_of (by
  rw [show (Jvm.Free.XT.ushr (Int32.ofNat a) 4).toBitVec = (Int32.ofNat a).toBitVec >>> 4 from rfl, BitVec.toNat_ushiftRight, n_bv (by omega), Nat.shiftRight_eq_div_pow])
theorem n_us2 {a : Nat} (h : a < 2 ^ 31) : Jvm.Free.XT.ushr (Int32.ofNat a) 2 = Int32.ofNat (a / 2 ^ 2) := n_of (by
  rw [show (Jvm.Free.XT.ushr (Int32.ofNat a) 2).toBitVec = (Int32.ofNat a).toBitVec >>> 2 from rfl, BitVec.toNat_ushiftRight, n_bv (by omega), Nat.shiftRight_eq_div_pow])
theorem n_us1 {a : Nat} (h : a < 2 ^ 31) : Jvm.Free.XT.ushr (Int32.ofNat a) 1 = Int32.ofNat (a / 2) := n_of (by
  rw [show (Jvm.Free.XT.ushr (Int32.ofNat a) 1).toBitVec = (Int32.ofNat a).toBitVec >>> 1 from rfl, BitVec.toNat_ushiftRight, n_bv (by omega), Nat.shiftRight_eq_div_pow])
theorem n_down {c s : Nat} {t : Int32} (ht : t.toInt = -(s : Int)) (h : c + s ≤ 31) : Int32.ofNat (31 - c) + t = Int32.ofNat (31 - (c + s)) := Int32.toInt_inj.mp (by
  rw [Jvm.Free.XT.add32 (by rw [n_toInt (by omega), ht]; constructor <;> omega), n_toInt (by omega), n_toInt (by omega), ht]; omega)
theorem n_div (u c s : Nat) : u / 2 ^ c / 2 ^ s = u / 2 ^ (c + s) := by rw [Nat.div_div_eq_div_mul, ← Nat.pow_add]
theorem n_le (u c : Nat) (h : u < 2 ^ 31) : u / 2 ^ c < 2 ^ 31 := Nat.lt_of_le_of_lt (Nat.div_le_self ..) h
theorem n_end {u c : Nat} (hc : c ≤ 30) (h1 : 1 ≤ u / 2 ^ c) (h2 : u / 2 ^ c < 4) : ∃ n, Int32.ofNat (31 - c) - Int32.ofNat (u / 2 ^ c / 2) = Int32.ofNat n ∧ n ≤ 32 ∧ u < 2 ^ (32 - n) := by
  have hp : 0 < 2 ^ c := Nat.pow_pos (by decide)
  have hd : u < 2 ^ c * (u / 2 ^ c + 1) := by
    have := Nat.lt_mul_div_succ u hp; exact this
  refine ⟨31 - c - u / 2 ^ c / 2, ?_, by omega, ?_⟩
  · apply Int32.toInt_inj.mp
    rw [Jvm.Free.XT.sub32 (by rw [n_toInt (by omega), n_toInt (by omega)]; constructor <;> omega), n_toInt (by omega), n_toInt (by omega), n_toInt (by omega)]; omega
  · have e : 32 - (31 - c - u / 2 ^ c / 2) = c + (1 + u / 2 ^ c / 2) := by omega
    rw [e, Nat.pow_add]
    refine Nat.lt_of_lt_of_le hd (Nat.mul_le_mul_left _ ?_)
    generalize u / 2 ^ c = a at *
    have : a = 1 ∨ a = 2 ∨ a = 3 := by omega
    rcases this with rfl | rfl | rfl <;> decide

theorem l_hi0 {x : Int64} (h : x.toBitVec.toNat < 2 ^ 32) : (Jvm.Free.XT.ushrL x (32 : Int32)).toInt32 = 0 := by
  have e : Jvm.Free.XT.ushrL x (32 : Int32) = 0 := by
    apply Int64.toBitVec_inj.mp
    show x.toBitVec >>> 32 = 0#64
    apply BitVec.eq_of_toNat_eq
    rw [BitVec.toNat_ushiftRight, Nat.shiftRight_eq_div_pow, Nat.div_eq_of_lt h]; rfl
  rw [e]; rfl
theorem l_lo {x : Int64} (h : x.toBitVec.toNat < 2 ^ 32) : x.toInt32.toBitVec.toNat = x.toBitVec.toNat := by
  rw [Int64.toBitVec_toInt32, BitVec.signExtend_eq_setWidth_of_le _ (by decide), BitVec.toNat_setWidth, Nat.mod_eq_of_lt h]

def mkM (b : Nat) : Int64 := ((1 : Int64) <<< ((Int32.ofNat b).toInt64 &&& 63)) - 1
theorem nar_ref {v : Value} {C : String} (h : v.isRef = true) : narrow (.object C) v = v := by rcases ref_cases h with rfl | ⟨a, rfl⟩ <;> rfl
theorem fit_ref {v : Value} {C : String} (h : v.isRef = true) : fits (.object C) v = true := by rcases ref_cases h with rfl | ⟨a, rfl⟩ <;> rfl
theorem b_sub {b : Nat} (h : b ≤ 32) : (64 : Int32) - Int32.ofNat (64 - b) = Int32.ofNat b := Int32.toInt_inj.mp (by
  have c : (64 : Int32).toInt = 64 := by decide
  rw [Jvm.Free.XT.sub32 (by rw [n_toInt (by omega), c]; constructor <;> omega), n_toInt (by omega), n_toInt (by omega), c]; omega)
theorem b_add (a b : Nat) : Int32.ofNat a + Int32.ofNat b = Int32.ofNat (a + b) := (Int32.ofNat_add a b).symm
theorem b_le {a : Nat} (h : a ≤ 64) (h' : a < 2 ^ 31) : ¬ (64 : Int32) < Int32.ofNat a := fun q => by
  have := (n_lt (a := 64) (t := a) (by decide) h').mp q; omega
theorem b_gt {a : Nat} (h : 64 < a) (h' : a < 2 ^ 31) : (64 : Int32) < Int32.ofNat a := (n_lt (a := 64) (t := a) (by decide) h').mpr h
theorem full32 {x : Int64} {b : Nat} (h1 : 2 ^ 31 ≤ x.toBitVec.toNat) (h2 : x.toBitVec.toNat < 2 ^ b) (h3 : b ≤ 32) : b = 32 := by
  rcases Nat.lt_or_ge b 32 with h | h
  · have : 2 ^ b ≤ 2 ^ 31 := Nat.pow_le_pow_right (by decide) (by omega)
    omega
  · omega

def hfold (xs : List Int64) : Int64 := xs.foldl (fun h x => (h + x) * (-7046029254386353131)) 0
def hfin (a : Int64) : Int32 :=
  let b := a ^^^ Jvm.Free.XT.ushrL a 29
  let c := b * (-4658895280553007687)
  (c ^^^ Jvm.Free.XT.ushrL c 32).toInt32
theorem i_in {n w j : Nat} (hn : n < 1000) (hw : w < 1000) (hj : j < w) : Int32.ofNat (n + j) < Int32.ofNat (n + w) := (n_lt (by omega) (by omega)).mpr (by omega)
theorem i_out {n w : Nat} (hn : n < 1000) (hw : w < 1000) : ¬ Int32.ofNat (n + w) < Int32.ofNat (n + w) := fun h => by have := (n_lt (by omega) (by omega)).mp h; omega
theorem i_nn {a : Nat} (h : a < 2 ^ 31) : ¬ Int32.ofNat a < 0 := fun q => by
  rw [Int32.lt_iff_toInt_lt, n_toInt h] at q; have z : (0 : Int32).toInt = 0 := rfl; omega
theorem i_cl {a : Nat} (h : a < 2 ^ 31) : (Int32.ofNat a).toNatClampNeg = a := by simp only [Int32.toNatClampNeg, n_toInt h]; omega

def dS (s l sh : Int32) : Int64 := (s.toInt64 - l.toInt64) <<< (sh.toInt64 &&& 63)
def entF (i h : Int32) : Int32 := (Jvm.Free.XT.ushr h (10 : Int32) <<< (((10 : Int32) - (1 : Int32)) &&& 31)) ||| i
def numF (e : Int32) : Int32 := e &&& (((1 : Int32) <<< (((10 : Int32) - (1 : Int32)) &&& 31)) - (1 : Int32))
theorem tab_in (h : Int32) : ¬ (h &&& (1023 : Int32)) < 0 ∧ (h &&& (1023 : Int32)).toNatClampNeg < 1024 := by
  have e : (h &&& (1023 : Int32)).toBitVec.toNat < 1024 := by
    rw [Int32.toBitVec_and, BitVec.toNat_and]
    exact Nat.lt_of_le_of_lt Nat.and_le_right (by decide)
  have b := n_of (rfl : (h &&& (1023 : Int32)).toBitVec.toNat = _)
  generalize (h &&& (1023 : Int32)).toBitVec.toNat = a at *
  rw [b]
  exact ⟨i_nn (by omega), by rw [i_cl (by omega)]; exact e⟩

theorem tab_hit {i : Nat} {e : Int32} (h : i < 1024) : ((List.replicate 1024 (Value.int (-1))).set i (.int e))[i]? = some (.int e) := by rw [List.getElem?_set_self (by rw [List.length_replicate]; exact h)]
theorem tab_miss {x z e : Int32} (h1 : ¬ x < 0) (h2 : ¬ z < 0) (h : x.toNatClampNeg < 1024) (hn : ¬ x = z) : ((List.replicate 1024 (Value.int (-1))).set z.toNatClampNeg (.int e))[x.toNatClampNeg]? = some (.int (-1)) := by
  rw [List.getElem?_set_ne (fun q => hn (Int32.toInt_inj.mp (by rw [nat_of h1, nat_of h2, q]))), List.getElem?_replicate_of_lt h]
theorem ent_num (h : Int32) : numF (entF 0 h) = 0 := by
  apply Int32.toBitVec_inj.mp
  show ((h.toBitVec >>> 10) <<< 9 ||| 0#32) &&& 511#32 = 0#32
  apply BitVec.eq_of_getLsbD_eq
  intro i hi
  simp only [BitVec.getLsbD_and, BitVec.getLsbD_or, BitVec.getLsbD_shiftLeft, BitVec.getLsbD_zero, Bool.or_false]
  by_cases h9 : i < 9
  · simp [h9]
  · have : (511#32).getLsbD i = false := by
      rw [BitVec.getLsbD_ofNat, show 511 = 2 ^ 9 - 1 by decide, Nat.testBit_two_pow_sub_one]; simp [h9]
    simp [this]
theorem ent_ne (h : Int32) : ¬ entF 0 h = -1 := fun q => by
  have := ent_num h
  rw [q] at this
  exact absurd this (by decide)
theorem tab_next (h : Int32) : ¬ ((h &&& (1023 : Int32)) + (1 : Int32) &&& (1023 : Int32)) = (h &&& (1023 : Int32)) := fun q => by
  obtain ⟨f1, f2⟩ := tab_in h
  have hb : (h &&& (1023 : Int32)).toBitVec.toNat < 1024 := by
    rw [Int32.toBitVec_and, BitVec.toNat_and]; exact Nat.lt_of_le_of_lt Nat.and_le_right (by decide)
  generalize (h &&& (1023 : Int32)) = x at *
  have e := congrArg (fun z : Int32 => z.toBitVec.toNat) q
  simp only [Int32.toBitVec_and, Int32.toBitVec_add, BitVec.toNat_and, BitVec.toNat_add] at e
  rw [show (1023 : Int32).toBitVec.toNat = 2 ^ 10 - 1 from rfl, show (1 : Int32).toBitVec.toNat = 1 from rfl, Nat.and_two_pow_sub_one_eq_mod] at e
  omega

theorem copy_at1 {k0 : Int64} : (List.take (0 : Int32).toNatClampNeg (List.replicate 1024 (Value.long 0)) ++ List.take (1 : Int32).toNatClampNeg (List.drop (0 : Int32).toNatClampNeg [Value.long k0]) ++ List.drop ((0 : Int32).toNatClampNeg + (1 : Int32).toNatClampNeg) (List.replicate 1024 (Value.long 0))) = [Value.long k0] ++ List.replicate 1023 (.long 0) := by
  rw [show (0 : Int32).toNatClampNeg = 0 from rfl, show (1 : Int32).toNatClampNeg = 1 from rfl, List.drop_replicate]; rfl
theorem copy_at2 {k0 k1 : Int64} : (List.take (0 : Int32).toNatClampNeg (List.replicate 1024 (Value.long 0)) ++ List.take (2 : Int32).toNatClampNeg (List.drop (0 : Int32).toNatClampNeg [Value.long k0, .long k1]) ++ List.drop ((0 : Int32).toNatClampNeg + (2 : Int32).toNatClampNeg) (List.replicate 1024 (Value.long 0))) = [Value.long k0, .long k1] ++ List.replicate 1022 (.long 0) := by
  rw [show (0 : Int32).toNatClampNeg = 0 from rfl, show (2 : Int32).toNatClampNeg = 2 from rfl, List.drop_replicate]; rfl
theorem copy_two1 {p0 k0 : Int64} : (List.take (1 : Int32).toNatClampNeg ([Value.long p0] ++ List.replicate 1023 (.long 0)) ++ List.take (1 : Int32).toNatClampNeg (List.drop (0 : Int32).toNatClampNeg [Value.long k0]) ++ List.drop ((1 : Int32).toNatClampNeg + (1 : Int32).toNatClampNeg) ([Value.long p0] ++ List.replicate 1023 (.long 0))) = [Value.long p0, .long k0] ++ List.replicate 1022 (.long 0) := by
  rw [show (0 : Int32).toNatClampNeg = 0 from rfl, show (1 : Int32).toNatClampNeg = 1 from rfl, List.singleton_append, List.drop_succ_cons, List.drop_replicate]; rfl
theorem copy_two2 {p0 p1 k0 k1 : Int64} : (List.take (2 : Int32).toNatClampNeg ([Value.long p0, .long p1] ++ List.replicate 1022 (.long 0)) ++ List.take (2 : Int32).toNatClampNeg (List.drop (0 : Int32).toNatClampNeg [Value.long k0, .long k1]) ++ List.drop ((2 : Int32).toNatClampNeg + (2 : Int32).toNatClampNeg) ([Value.long p0, .long p1] ++ List.replicate 1022 (.long 0))) = [Value.long p0, .long p1, .long k0, .long k1] ++ List.replicate 1020 (.long 0) := by
  rw [show (0 : Int32).toNatClampNeg = 0 from rfl, show (2 : Int32).toNatClampNeg = 2 from rfl, List.cons_append, List.cons_append, List.nil_append, List.drop_succ_cons, List.drop_succ_cons, List.drop_replicate]; rfl

def setF (K M : Int64) (sh v l : Int32) : Int64 := (K &&& ((M <<< (sh.toInt64 &&& 63)) ^^^ (-1 : Int64))) ||| dS v l sh

def loF (r : Int64) : Int32 := (r >>> ((32 : Int32).toInt64 &&& 63)).toInt32
def hiF (r : Int64) : Int32 := ((loF r).toInt64 + ((r &&& (4294967295 : Int64)) - ((r &&& (4294967295 : Int64)) / (((2147483647 : Int64) - (loF r).toInt64) + (1 : Int64))) * (((2147483647 : Int64) - (loF r).toInt64) + (1 : Int64)))).toInt32

theorem nn_nat {x : Int64} (h : 0 ≤ x.toInt) : (x.toBitVec.toNat : Int) = x.toInt := by
  have e : x.toInt = x.toBitVec.toInt := rfl
  rw [e, BitVec.toInt_eq_toNat_cond] at h ⊢
  have := x.toBitVec.isLt
  split at h <;> split <;> omega
theorem sub_int (x y : Int32) : (x.toInt64 - y.toInt64).toInt = x.toInt - y.toInt := by
  have a1 := Int32.le_toInt x
  have a2 := Int32.toInt_lt x
  have b1 := Int32.le_toInt y
  have b2 := Int32.toInt_lt y
  rw [Jvm.Free.XT.sub64 (by rw [Int32.toInt_toInt64, Int32.toInt_toInt64]; constructor <;> omega), Int32.toInt_toInt64, Int32.toInt_toInt64]
theorem span_nat {u l : Int32} (h : ¬ u < l) : ((u.toInt64 - l.toInt64).toBitVec.toNat : Int) = u.toInt - l.toInt := by
  rw [Int32.lt_iff_toInt_lt] at h
  rw [nn_nat (by rw [sub_int]; omega), sub_int]
theorem span_lt {u l : Int32} (h : ¬ u < l) : (u.toInt64 - l.toInt64).toBitVec.toNat < 2 ^ 32 := by
  have := span_nat h
  have a2 := Int32.toInt_lt u
  have b1 := Int32.le_toInt l
  omega
theorem mod_int {hi lo : Int32} : ((hi.toInt64 - lo.toInt64) + (1 : Int64)).toInt = hi.toInt - lo.toInt + 1 := by
  have a1 := Int32.le_toInt hi
  have a2 := Int32.toInt_lt hi
  have b1 := Int32.le_toInt lo
  have b2 := Int32.toInt_lt lo
  have c2 : (1 : Int64).toInt = 1 := by decide
  rw [Jvm.Free.XT.add64 (by rw [sub_int, c2]; constructor <;> omega), sub_int, c2]
theorem pick_nz {hi lo : Int32} (h : ¬ hi < lo) : (hi.toInt64 - lo.toInt64) + (1 : Int64) ≠ 0 := fun q => by
  have e := mod_int (hi := hi) (lo := lo)
  rw [q] at e
  rw [Int32.lt_iff_toInt_lt] at h
  have c0 : (0 : Int64).toInt = 0 := rfl
  omega
theorem mask32 (x : Int64) : 0 ≤ (x &&& (4294967295 : Int64)).toInt ∧ (x &&& (4294967295 : Int64)).toInt < 4294967296 := by
  have e : (x &&& (4294967295 : Int64)).toBitVec.toNat < 4294967296 := by
    rw [Int64.toBitVec_and, BitVec.toNat_and]; exact Nat.lt_of_le_of_lt Nat.and_le_right (by decide)
  have e2 : (x &&& (4294967295 : Int64)).toInt = (x &&& (4294967295 : Int64)).toBitVec.toInt := rfl
  rw [e2, BitVec.toInt_eq_toNat_cond]
  split <;> omega
theorem rem_in {lo M X : Int64} {L n : Int} (hM : M.toInt = n) (hn : 0 < n) (hlo : lo.toInt = L) (hL : -2147483648 ≤ L) (hL2 : L + n ≤ 2147483648) (hX : 0 ≤ X.toInt) :
    L ≤ (lo + (X - (X / M) * M)).toInt32.toInt ∧ (lo + (X - (X / M) * M)).toInt32.toInt < L + n := by
  have er := (c_lrem X M _ hM).1 hX
  have r1 := Int.emod_nonneg X.toInt (show n ≠ 0 by omega)
  have r2 := Int.emod_lt_of_pos X.toInt hn
  have es : (lo + (X - (X / M) * M)).toInt = L + X.toInt % n := by
    rw [Jvm.Free.XT.add64 (by rw [hlo, er]; constructor <;> omega), hlo, er]
  rw [Jvm.Free.XT.narrowInt (by rw [es]; constructor <;> omega), es]
  omega
theorem own_key1 : ∀ m : Fin 65, (((Int32.ofNat m.val).toInt64 &&& 63).toBitVec.smod 64#64).toNat = m.val % 64 := by decide +kernel
theorem own_key2 : ∀ m : Fin 65, (UInt64.mod ((Int32.ofNat m.val).toInt64.toUInt64 &&& Int64.toUInt64 63) 64).toBitVec.toNat = m.val % 64 := by decide +kernel
theorem own_sh {n : Nat} (h : n ≤ 64) (x : Int64) : (x <<< ((Int32.ofNat n).toInt64 &&& 63)).toBitVec = x.toBitVec <<< (n % 64) := by
  show x.toBitVec <<< ((((Int32.ofNat n).toInt64 &&& 63).toBitVec.smod 64#64).toNat) = _
  rw [own_key1 ⟨n, by omega⟩]
theorem own_us {n : Nat} (h : n ≤ 64) (x : Int64) : (Jvm.Free.XT.ushrL x (Int32.ofNat n)).toBitVec = x.toBitVec >>> (n % 64) := by
  show x.toBitVec >>> ((UInt64.mod ((Int32.ofNat n).toInt64.toUInt64 &&& Int64.toUInt64 63) 64).toBitVec.toNat) = _
  rw [own_key2 ⟨n, by omega⟩]
theorem mask_bit {b : Nat} (h : b ≤ 32) (j : Nat) : (mkM b).toBitVec.getLsbD j = decide (j < b) := by
  have e : (mkM b).toBitVec = BitVec.ofNat 64 (2 ^ b - 1) := by
    unfold mkM
    rw [Int64.toBitVec_sub, own_sh (by omega), Nat.mod_eq_of_lt (by omega)]
    apply BitVec.eq_of_toNat_eq
    have hp : 2 ^ b ≤ 2 ^ 32 := Nat.pow_le_pow_right (by decide) h
    have hq : 0 < 2 ^ b := Nat.pow_pos (by decide)
    rw [BitVec.toNat_sub, BitVec.toNat_shiftLeft, BitVec.toNat_ofNat]
    rw [show (1 : Int64).toBitVec.toNat = 1 from rfl, Nat.one_shiftLeft, Nat.mod_eq_of_lt (by omega : 2 ^ b < 2 ^ 64)]
    rw [show 2 ^ 64 - 1 + 2 ^ b = 2 ^ b - 1 + 2 ^ 64 by omega, Nat.add_mod_right]
  rw [e, BitVec.getLsbD_ofNat, Nat.testBit_two_pow_sub_one]
  by_cases q : j < b
  · simp [q]; omega
  · simp [q]
theorem fld_bit {e : BitVec 64} {b j : Nat} (h : e.toNat < 2 ^ b) (hj : b ≤ j) : e.getLsbD j = false := by
  show e.toNat.testBit j = false
  exact Nat.testBit_lt_two_pow (Nat.lt_of_lt_of_le h (Nat.pow_le_pow_right (by decide) hj))
theorem trunc (s l : Int32) : (s.toInt64 - l.toInt64).toInt32 + l = s := by
  rw [Int64.toInt32_sub, Int32.toInt32_toInt64, Int32.toInt32_toInt64, Int32.sub_add_cancel]
theorem dS_bv {n : Nat} (h : n ≤ 64) (s l : Int32) : (dS s l (Int32.ofNat n)).toBitVec = (s.toInt64 - l.toInt64).toBitVec <<< (n % 64) := own_sh h _
theorem e_lt {s l u : Int32} {b : Nat} (h1 : ¬ s < l) (h2 : ¬ u < s) (h : (u.toInt64 - l.toInt64).toBitVec.toNat < 2 ^ b) : (s.toInt64 - l.toInt64).toBitVec.toNat < 2 ^ b := by
  have a := span_nat h1
  rw [Int32.lt_iff_toInt_lt] at h1 h2
  have hul : ¬ u < l := by rw [Int32.lt_iff_toInt_lt]; omega
  have c := span_nat hul
  omega
theorem get_of {K : Int64} {n b : Nat} {s l : Int32} (hn : n ≤ 64) (hb : b ≤ 32) (h : ∀ j, j < 64 → ((K.toBitVec >>> (n % 64)).getLsbD j && decide (j < b)) = (s.toInt64 - l.toInt64).toBitVec.getLsbD j) : ((Jvm.Free.XT.ushrL K (Int32.ofNat n)) &&& mkM b).toInt32 + l = s := by
  have e : (Jvm.Free.XT.ushrL K (Int32.ofNat n)) &&& mkM b = s.toInt64 - l.toInt64 := by
    apply Int64.toBitVec_inj.mp
    apply BitVec.eq_of_getLsbD_eq
    intro j hj
    rw [Int64.toBitVec_and, own_us hn, BitVec.getLsbD_and, mask_bit hb]
    exact h j hj
  rw [e, trunc]
theorem bits1 {e0 e1 e2 : BitVec 64} {b0 b1 b2 : Nat} (h0 : b0 ≤ 32) (h1 : b1 ≤ 32) (h2 : b2 ≤ 32) (hs : b0 + b1 + b2 ≤ 64) (f0 : e0.toNat < 2 ^ b0) (f1 : e1.toNat < 2 ^ b1) (f2 : e2.toNat < 2 ^ b2) :
    ∀ m, (((0#64 ||| e0 <<< (0 % 64)) ||| e1 <<< (b0 % 64)) ||| e2 <<< ((b0 + b1) % 64)).getLsbD m = (decide (m < 64) && ((decide (m < b0) && e0.getLsbD m) || (decide (b0 ≤ m ∧ m < b0 + b1) && e1.getLsbD (m - b0)) || (decide (b0 + b1 ≤ m ∧ m < b0 + b1 + b2) && e2.getLsbD (m - (b0 + b1))))) := by
  intro m
  simp only [BitVec.getLsbD_or, BitVec.getLsbD_shiftLeft, BitVec.getLsbD_zero, Bool.false_or, Nat.zero_mod, Nat.sub_zero, Nat.not_lt_zero, decide_false, Bool.not_false, Bool.and_true]
  rw [Nat.mod_eq_of_lt (by omega : b0 < 64)]
  by_cases hm : m < 64
  · simp only [hm, decide_true, Bool.true_and]
    have z0 : e0.getLsbD m = (decide (m < b0) && e0.getLsbD m) := by
      by_cases q : m < b0
      · simp [q]
      · simp [q, fld_bit f0 (Nat.le_of_not_lt q)]
    have z1 : (!decide (m < b0) && e1.getLsbD (m - b0)) = (decide (b0 ≤ m ∧ m < b0 + b1) && e1.getLsbD (m - b0)) := by
      by_cases q : m < b0
      · have : ¬ (b0 ≤ m ∧ m < b0 + b1) := by omega
        simp [q, this]
      · by_cases r : m < b0 + b1
        · have : b0 ≤ m ∧ m < b0 + b1 := by omega
          simp [q, this]
        · have : ¬ (b0 ≤ m ∧ m < b0 + b1) := by omega
          simp [q, this, fld_bit f1 (by omega : b1 ≤ m - b0)]
    have z2 : (!decide (m < (b0 + b1) % 64) && e2.getLsbD (m - (b0 + b1) % 64)) = (decide (b0 + b1 ≤ m ∧ m < b0 + b1 + b2) && e2.getLsbD (m - (b0 + b1))) := by
      by_cases q : b0 + b1 = 64
      · have : ¬ (b0 + b1 ≤ m ∧ m < b0 + b1 + b2) := by omega
        have hz : b2 = 0 := by omega
        simp [q, this, fld_bit f2 (by omega : b2 ≤ m)]
        omega
      · rw [Nat.mod_eq_of_lt (by omega : b0 + b1 < 64)]
        by_cases r : m < b0 + b1
        · have : ¬ (b0 + b1 ≤ m ∧ m < b0 + b1 + b2) := by omega
          simp [r, this]
        · by_cases t : m < b0 + b1 + b2
          · have : b0 + b1 ≤ m ∧ m < b0 + b1 + b2 := by omega
            simp [r, this]
          · have : ¬ (b0 + b1 ≤ m ∧ m < b0 + b1 + b2) := by omega
            simp [r, this, fld_bit f2 (by omega : b2 ≤ m - (b0 + b1))]
    rw [z1, z2, ← z0]
  · simp [hm]
theorem bits2 {e0 e1 : BitVec 64} {b0 b1 : Nat} (h0 : b0 ≤ 32) (h1 : b1 ≤ 32) (f0 : e0.toNat < 2 ^ b0) (f1 : e1.toNat < 2 ^ b1) :
    ∀ m, ((0#64 ||| e0 <<< (0 % 64)) ||| e1 <<< (b0 % 64)).getLsbD m = (decide (m < 64) && ((decide (m < b0) && e0.getLsbD m) || (decide (b0 ≤ m ∧ m < b0 + b1) && e1.getLsbD (m - b0)))) := by
  intro m
  have q := bits1 (e2 := 0#64) h0 h1 (Nat.zero_le _ : 0 ≤ 32) (by omega) f0 f1 (by simp) m
  simpa using q
theorem ext_bit {K e : BitVec 64} {n b : Nat} (f : e.toNat < 2 ^ b) (h : ∀ j, j < b → n + j < 64 → K.getLsbD (n + j) = e.getLsbD j) (hn : n + b ≤ 64) : ∀ j, j < 64 → ((K >>> n).getLsbD j && decide (j < b)) = e.getLsbD j := by
  intro j hj
  rw [BitVec.getLsbD_ushiftRight]
  by_cases q : j < b
  · rw [h j q (by omega)]; simp [q]
  · rw [fld_bit f (Nat.le_of_not_lt q)]; simp [q]
theorem pick0 (a b c : Bool) (p q r : Prop) [Decidable p] [Decidable q] [Decidable r] (hp : p) (hq : ¬ q) (hr : ¬ r) : (true && ((decide p && a) || (decide q && b) || (decide r && c))) = a := by simp [hp, hq, hr]
theorem unpack1 {b0 b1 b2 : Nat} {s0 l0 u0 s1 l1 u1 s2 l2 u2 : Int32} (h0 : b0 ≤ 32) (h1 : b1 ≤ 32) (h2 : b2 ≤ 32) (hs : b0 + b1 + b2 ≤ 64)
    (p0 : ¬ s0 < l0) (q0 : ¬ u0 < s0) (x0 : (u0.toInt64 - l0.toInt64).toBitVec.toNat < 2 ^ b0) (p1 : ¬ s1 < l1) (q1 : ¬ u1 < s1) (x1 : (u1.toInt64 - l1.toInt64).toBitVec.toNat < 2 ^ b1) (p2 : ¬ s2 < l2) (q2 : ¬ u2 < s2) (x2 : (u2.toInt64 - l2.toInt64).toBitVec.toNat < 2 ^ b2) :
    (((Jvm.Free.XT.ushrL ((((0 : Int64) ||| (dS s0 l0 (Int32.ofNat 0))) ||| (dS s1 l1 (Int32.ofNat b0))) ||| (dS s2 l2 (Int32.ofNat (b0 + b1)))) (Int32.ofNat 0)) &&& mkM b0).toInt32 + l0) = s0 ∧
    (((Jvm.Free.XT.ushrL ((((0 : Int64) ||| (dS s0 l0 (Int32.ofNat 0))) ||| (dS s1 l1 (Int32.ofNat b0))) ||| (dS s2 l2 (Int32.ofNat (b0 + b1)))) (Int32.ofNat b0)) &&& mkM b1).toInt32 + l1) = s1 ∧
    (((Jvm.Free.XT.ushrL ((((0 : Int64) ||| (dS s0 l0 (Int32.ofNat 0))) ||| (dS s1 l1 (Int32.ofNat b0))) ||| (dS s2 l2 (Int32.ofNat (b0 + b1)))) (Int32.ofNat (b0 + b1))) &&& mkM b2).toInt32 + l2) = s2 := by
  have f0 := e_lt p0 q0 x0
  have f1 := e_lt p1 q1 x1
  have f2 := e_lt p2 q2 x2
  have B := bits1 h0 h1 h2 hs f0 f1 f2
  have eK : ((((0 : Int64) ||| (dS s0 l0 (Int32.ofNat 0))) ||| (dS s1 l1 (Int32.ofNat b0))) ||| (dS s2 l2 (Int32.ofNat (b0 + b1)))).toBitVec = (((0#64 ||| (s0.toInt64 - l0.toInt64).toBitVec <<< (0 % 64)) ||| (s1.toInt64 - l1.toInt64).toBitVec <<< (b0 % 64)) ||| (s2.toInt64 - l2.toInt64).toBitVec <<< ((b0 + b1) % 64)) := by
    rw [Int64.toBitVec_or, Int64.toBitVec_or, Int64.toBitVec_or, dS_bv (by omega), dS_bv (by omega), dS_bv (by omega)]; rfl
  rw [← eK] at B
  generalize ((((0 : Int64) ||| (dS s0 l0 (Int32.ofNat 0))) ||| (dS s1 l1 (Int32.ofNat b0))) ||| (dS s2 l2 (Int32.ofNat (b0 + b1)))) = K at *
  refine ⟨get_of (by omega) h0 ?_, get_of (by omega) h1 ?_, get_of (by omega) h2 ?_⟩
  · rw [Nat.zero_mod]
    refine ext_bit f0 (fun j hj hk => ?_) (by omega)
    rw [B, Nat.zero_add]
    simp [show j < 64 by omega, hj, show ¬ (b0 ≤ j) by omega, show ¬ (b0 + b1 ≤ j) by omega]
  · rw [Nat.mod_eq_of_lt (by omega : b0 < 64)]
    refine ext_bit f1 (fun j hj hk => ?_) (by omega)
    rw [B]
    simp [hk, hj, show ¬ (b0 + b1 ≤ b0 + j) by omega, show b0 ≤ b0 + j by omega, show ¬ (b0 + j < b0) by omega]
  · by_cases e : b0 + b1 = 64
    · have hz : b2 = 0 := by omega
      subst hz
      intro j hj
      rw [fld_bit f2 (Nat.zero_le j)]; simp
    · rw [Nat.mod_eq_of_lt (by omega : b0 + b1 < 64)]
      refine ext_bit f2 (fun j hj hk => ?_) (by omega)
      rw [B]
      simp [hk, hj, show ¬ (b0 + b1 + j < b0) by omega, show ¬ (b0 + b1 + j < b0 + b1) by omega, show b0 + b1 + j - (b0 + b1) = j by omega]
theorem unpack2 {b0 b1 b2 : Nat} {s0 l0 u0 s1 l1 u1 s2 l2 u2 : Int32} (h0 : b0 ≤ 32) (h1 : b1 ≤ 32) (h2 : b2 ≤ 32) (hs : 64 < b0 + b1 + b2)
    (p0 : ¬ s0 < l0) (q0 : ¬ u0 < s0) (x0 : (u0.toInt64 - l0.toInt64).toBitVec.toNat < 2 ^ b0) (p1 : ¬ s1 < l1) (q1 : ¬ u1 < s1) (x1 : (u1.toInt64 - l1.toInt64).toBitVec.toNat < 2 ^ b1) (p2 : ¬ s2 < l2) (q2 : ¬ u2 < s2) (x2 : (u2.toInt64 - l2.toInt64).toBitVec.toNat < 2 ^ b2) :
    (((Jvm.Free.XT.ushrL (((0 : Int64) ||| (dS s0 l0 (Int32.ofNat 0))) ||| (dS s1 l1 (Int32.ofNat b0))) (Int32.ofNat 0)) &&& mkM b0).toInt32 + l0) = s0 ∧
    (((Jvm.Free.XT.ushrL (((0 : Int64) ||| (dS s0 l0 (Int32.ofNat 0))) ||| (dS s1 l1 (Int32.ofNat b0))) (Int32.ofNat b0)) &&& mkM b1).toInt32 + l1) = s1 ∧
    (((Jvm.Free.XT.ushrL ((0 : Int64) ||| (dS s2 l2 (Int32.ofNat 0))) (Int32.ofNat 0)) &&& mkM b2).toInt32 + l2) = s2 := by
  have f0 := e_lt p0 q0 x0
  have f1 := e_lt p1 q1 x1
  have f2 := e_lt p2 q2 x2
  have B := bits2 h0 h1 f0 f1
  have eK : (((0 : Int64) ||| (dS s0 l0 (Int32.ofNat 0))) ||| (dS s1 l1 (Int32.ofNat b0))).toBitVec = ((0#64 ||| (s0.toInt64 - l0.toInt64).toBitVec <<< (0 % 64)) ||| (s1.toInt64 - l1.toInt64).toBitVec <<< (b0 % 64)) := by
    rw [Int64.toBitVec_or, Int64.toBitVec_or, dS_bv (by omega), dS_bv (by omega)]; rfl
  have eL : ((0 : Int64) ||| (dS s2 l2 (Int32.ofNat 0))).toBitVec = (s2.toInt64 - l2.toInt64).toBitVec := by
    rw [Int64.toBitVec_or, dS_bv (by omega), Nat.zero_mod, BitVec.shiftLeft_zero]; exact BitVec.zero_or
  rw [← eK] at B
  generalize (((0 : Int64) ||| (dS s0 l0 (Int32.ofNat 0))) ||| (dS s1 l1 (Int32.ofNat b0))) = K at *
  refine ⟨get_of (by omega) h0 ?_, get_of (by omega) h1 ?_, get_of (by omega) h2 ?_⟩
  · rw [Nat.zero_mod]
    refine ext_bit f0 (fun j hj hk => ?_) (by omega)
    rw [B, Nat.zero_add]
    simp [show j < 64 by omega, hj, show ¬ (b0 ≤ j) by omega]
  · rw [Nat.mod_eq_of_lt (by omega : b0 < 64)]
    refine ext_bit f1 (fun j hj hk => ?_) (by omega)
    rw [B]
    simp [hk, hj, show b0 ≤ b0 + j by omega, show ¬ (b0 + j < b0) by omega]
  · rw [Nat.zero_mod, eL]
    refine ext_bit f2 (fun j hj hk => ?_) (by omega)
    rw [Nat.zero_add]
theorem pick_in {lo hi : Int32} {v : Int64} (h : ¬ hi < lo) : lo.toInt ≤ (lo.toInt64 + ((v &&& (4294967295 : Int64)) - ((v &&& (4294967295 : Int64)) / ((hi.toInt64 - lo.toInt64) + (1 : Int64))) * ((hi.toInt64 - lo.toInt64) + (1 : Int64)))).toInt32.toInt ∧ (lo.toInt64 + ((v &&& (4294967295 : Int64)) - ((v &&& (4294967295 : Int64)) / ((hi.toInt64 - lo.toInt64) + (1 : Int64))) * ((hi.toInt64 - lo.toInt64) + (1 : Int64)))).toInt32.toInt < lo.toInt + (hi.toInt - lo.toInt + 1) := by
  rw [Int32.lt_iff_toInt_lt] at h
  have a2 := Int32.toInt_lt hi
  have b1 := Int32.le_toInt lo
  exact rem_in mod_int (by omega) (Int32.toInt_toInt64 lo) b1 (by omega) (mask32 _).1
theorem pick_lo {lo hi : Int32} {v : Int64} (h : ¬ hi < lo) : ¬ (lo.toInt64 + ((v &&& (4294967295 : Int64)) - ((v &&& (4294967295 : Int64)) / ((hi.toInt64 - lo.toInt64) + (1 : Int64))) * ((hi.toInt64 - lo.toInt64) + (1 : Int64)))).toInt32 < lo := by
  rw [Int32.lt_iff_toInt_lt]; have := pick_in (v := v) h; omega
theorem pick_hi {lo hi : Int32} {v : Int64} (h : ¬ hi < lo) : ¬ hi < (lo.toInt64 + ((v &&& (4294967295 : Int64)) - ((v &&& (4294967295 : Int64)) / ((hi.toInt64 - lo.toInt64) + (1 : Int64))) * ((hi.toInt64 - lo.toInt64) + (1 : Int64)))).toInt32 := by
  rw [Int32.lt_iff_toInt_lt]; have := pick_in (v := v) h; omega

theorem high_int (r : Int64) : (((2147483647 : Int64) - (loF r).toInt64) + (1 : Int64)).toInt = 2147483648 - (loF r).toInt := by
  generalize loF r = f
  have h1 := Int32.le_toInt f
  have h2 := Int32.toInt_lt f
  have e0 : f.toInt64.toInt = f.toInt := Int32.toInt_toInt64 f
  have c1 : (2147483647 : Int64).toInt = 2147483647 := by decide
  have c2 : (1 : Int64).toInt = 1 := by decide
  have e1 : ((2147483647 : Int64) - f.toInt64).toInt = 2147483647 - f.toInt := by
    rw [Jvm.Free.XT.sub64 (by rw [c1, e0]; constructor <;> omega), c1, e0]
  rw [Jvm.Free.XT.add64 (by rw [e1, c2]; constructor <;> omega), e1, c2]; omega
theorem high_nz (r : Int64) : ((2147483647 : Int64) - (loF r).toInt64) + (1 : Int64) ≠ 0 := fun h => by
  have e := high_int r
  rw [h] at e
  have h2 := Int32.toInt_lt (loF r)
  have c0 : (0 : Int64).toInt = 0 := rfl
  omega
theorem lohi (r : Int64) : ¬ hiF r < loF r := by
  rw [Int32.lt_iff_toInt_lt]
  have h1 := Int32.le_toInt (loF r)
  have h2 := Int32.toInt_lt (loF r)
  have q := (rem_in (lo := (loF r).toInt64) (X := r &&& (4294967295 : Int64)) (high_int r) (by omega) (Int32.toInt_toInt64 (loF r)) h1 (by omega) (mask32 r).1).1
  unfold hiF
  omega
theorem rem3 (x : Int32) : ∃ n : Nat, n ≤ 2 ∧ ((x &&& (255 : Int32)) - ((x &&& (255 : Int32)) / (3 : Int32)) * (3 : Int32)) = Int32.ofNat n := by
  have e : (x &&& (255 : Int32)).toBitVec.toNat < 256 := by
    rw [Int32.toBitVec_and, BitVec.toNat_and]; exact Nat.lt_of_le_of_lt Nat.and_le_right (by decide)
  have b := n_of (rfl : (x &&& (255 : Int32)).toBitVec.toNat = _)
  generalize (x &&& (255 : Int32)).toBitVec.toNat = a at *
  rw [b]
  refine ⟨a % 3, by omega, Int32.toInt_inj.mp ?_⟩
  rw [irem_eq_mod, Int32.toInt_mod, n_toInt (by omega), n_toInt (by omega), show (3 : Int32).toInt = 3 by decide]
  rw [Int.tmod_eq_emod_of_nonneg (by omega)]; omega
theorem setF_bit {K : Int64} {n b : Nat} {v l : Int32} (hn : n ≤ 64) (hb : b ≤ 32) (m : Nat) (hm : m < 64) : (setF K (mkM b) (Int32.ofNat n) v l).toBitVec.getLsbD m = ((K.toBitVec.getLsbD m && !(decide (n % 64 ≤ m) && decide (m - n % 64 < b))) || (decide (n % 64 ≤ m) && (v.toInt64 - l.toInt64).toBitVec.getLsbD (m - n % 64))) := by
  unfold setF
  rw [Int64.toBitVec_or, Int64.toBitVec_and, Int64.toBitVec_xor, dS_bv hn, own_sh hn]
  rw [BitVec.getLsbD_or, BitVec.getLsbD_and, BitVec.getLsbD_xor, BitVec.getLsbD_shiftLeft, BitVec.getLsbD_shiftLeft, mask_bit hb]
  have h1 : (-1 : Int64).toBitVec.getLsbD m = true := by
    rw [show (-1 : Int64).toBitVec = BitVec.allOnes 64 from rfl, BitVec.getLsbD_allOnes]; simpa using hm
  rw [h1]
  by_cases q : n % 64 ≤ m
  · simp [q, hm, Nat.not_lt.mpr q]
  · simp [q, hm, Nat.lt_of_not_le q]
theorem bits1i {e0 e1 e2 : BitVec 64} {b0 b1 b2 : Nat} (h0 : b0 ≤ 32) (h1 : b1 ≤ 32) (h2 : b2 ≤ 32) (hs : b0 + b1 + b2 ≤ 64) (f0 : e0.toNat < 2 ^ b0) (f1 : e1.toNat < 2 ^ b1) (f2 : e2.toNat < 2 ^ b2) (m : Nat) (hm : m < 64) :
    (((0#64 ||| e0 <<< (0 % 64)) ||| e1 <<< (b0 % 64)) ||| e2 <<< ((b0 + b1) % 64)).getLsbD m = (if m < b0 then e0.getLsbD m else if m < b0 + b1 then e1.getLsbD (m - b0) else if m < b0 + b1 + b2 then e2.getLsbD (m - (b0 + b1)) else false) := by
  rw [bits1 h0 h1 h2 hs f0 f1 f2 m]
  by_cases c0 : m < b0
  · simp [hm, c0, show ¬ b0 ≤ m by omega, show ¬ b0 + b1 ≤ m by omega]
  · by_cases c1 : m < b0 + b1
    · simp [hm, c0, c1, show b0 ≤ m by omega, show ¬ b0 + b1 ≤ m by omega]
    · by_cases c2 : m < b0 + b1 + b2
      · simp [hm, c0, c1, c2, show b0 + b1 ≤ m by omega]
      · simp [hm, c0, c1, c2]
theorem bits2i {e0 e1 : BitVec 64} {b0 b1 : Nat} (h0 : b0 ≤ 32) (h1 : b1 ≤ 32) (f0 : e0.toNat < 2 ^ b0) (f1 : e1.toNat < 2 ^ b1) (m : Nat) (hm : m < 64) :
    ((0#64 ||| e0 <<< (0 % 64)) ||| e1 <<< (b0 % 64)).getLsbD m = (if m < b0 then e0.getLsbD m else if m < b0 + b1 then e1.getLsbD (m - b0) else false) := by
  rw [bits2 h0 h1 f0 f1 m]
  by_cases c0 : m < b0
  · simp [hm, c0, show ¬ b0 ≤ m by omega]
  · by_cases c1 : m < b0 + b1
    · simp [hm, c0, c1, show b0 ≤ m by omega]
    · simp [hm, c0, c1]
theorem set_gen {K K' : Int64} {n b : Nat} {v l : Int32} (hn : n ≤ 64) (hb : b ≤ 32) (h : ∀ m, m < 64 → ((K.toBitVec.getLsbD m && !(decide (n % 64 ≤ m) && decide (m - n % 64 < b))) || (decide (n % 64 ≤ m) && (v.toInt64 - l.toInt64).toBitVec.getLsbD (m - n % 64))) = K'.toBitVec.getLsbD m) : setF K (mkM b) (Int32.ofNat n) v l = K' := by
  apply Int64.toBitVec_inj.mp
  apply BitVec.eq_of_getLsbD_eq
  intro m hm
  rw [setF_bit hn hb m hm]
  exact h m hm
theorem pack1_bv {b0 b1 : Nat} (h0 : b0 ≤ 32) (h1 : b1 ≤ 32) (s0 s1 s2 l0 l1 l2 : Int32) : ((((0 : Int64) ||| (dS s0 l0 (Int32.ofNat 0))) ||| (dS s1 l1 (Int32.ofNat b0))) ||| (dS s2 l2 (Int32.ofNat (b0 + b1)))).toBitVec = (((0#64 ||| (s0.toInt64 - l0.toInt64).toBitVec <<< (0 % 64)) ||| (s1.toInt64 - l1.toInt64).toBitVec <<< (b0 % 64)) ||| (s2.toInt64 - l2.toInt64).toBitVec <<< ((b0 + b1) % 64)) := by
  rw [Int64.toBitVec_or, Int64.toBitVec_or, Int64.toBitVec_or, dS_bv (by omega), dS_bv (by omega), dS_bv (by omega)]; rfl
theorem pack2_bv {b0 : Nat} (h0 : b0 ≤ 32) (s0 s1 l0 l1 : Int32) : (((0 : Int64) ||| (dS s0 l0 (Int32.ofNat 0))) ||| (dS s1 l1 (Int32.ofNat b0))).toBitVec = ((0#64 ||| (s0.toInt64 - l0.toInt64).toBitVec <<< (0 % 64)) ||| (s1.toInt64 - l1.toInt64).toBitVec <<< (b0 % 64)) := by
  rw [Int64.toBitVec_or, Int64.toBitVec_or, dS_bv (by omega), dS_bv (by omega)]; rfl
theorem pack3_bv (s2 l2 : Int32) : ((0 : Int64) ||| (dS s2 l2 (Int32.ofNat 0))).toBitVec = (s2.toInt64 - l2.toInt64).toBitVec := by
  rw [Int64.toBitVec_or, dS_bv (by omega), Nat.zero_mod, BitVec.shiftLeft_zero]; exact BitVec.zero_or
theorem set1_0 {b0 b1 b2 : Nat} {s0 l0 u0 s1 l1 u1 s2 l2 u2 xv : Int32} (h0 : b0 ≤ 32) (h1 : b1 ≤ 32) (h2 : b2 ≤ 32) (hs : b0 + b1 + b2 ≤ 64) (p0 : ¬ s0 < l0) (q0 : ¬ u0 < s0) (x0 : (u0.toInt64 - l0.toInt64).toBitVec.toNat < 2 ^ b0) (p1 : ¬ s1 < l1) (q1 : ¬ u1 < s1) (x1 : (u1.toInt64 - l1.toInt64).toBitVec.toNat < 2 ^ b1) (p2 : ¬ s2 < l2) (q2 : ¬ u2 < s2) (x2 : (u2.toInt64 - l2.toInt64).toBitVec.toNat < 2 ^ b2) (px : ¬ xv < l0) (qx : ¬ u0 < xv) : setF ((((0 : Int64) ||| (dS s0 l0 (Int32.ofNat 0))) ||| (dS s1 l1 (Int32.ofNat b0))) ||| (dS s2 l2 (Int32.ofNat (b0 + b1)))) (mkM b0) (Int32.ofNat 0) xv l0 = ((((0 : Int64) ||| (dS xv l0 (Int32.ofNat 0))) ||| (dS s1 l1 (Int32.ofNat b0))) ||| (dS s2 l2 (Int32.ofNat (b0 + b1)))) := by
  have f0 := e_lt p0 q0 x0
  have f1 := e_lt p1 q1 x1
  have f2 := e_lt p2 q2 x2
  have fx := e_lt px qx x0
  refine set_gen (by omega) h0 fun m hm => ?_
  rw [pack1_bv h0 h1, pack1_bv h0 h1, bits1i h0 h1 h2 hs f0 f1 f2 m hm, bits1i h0 h1 h2 hs fx f1 f2 m hm]
  generalize (s0.toInt64 - l0.toInt64).toBitVec = e0 at *
  generalize (s1.toInt64 - l1.toInt64).toBitVec = e1 at *
  generalize (s2.toInt64 - l2.toInt64).toBitVec = e2 at *
  generalize (xv.toInt64 - l0.toInt64).toBitVec = ex at *
  rw [Nat.zero_mod]
  by_cases c0 : m < b0
  · simp [c0]
  · simp [c0, fld_bit fx (Nat.le_of_not_lt c0)]
theorem set1_1 {b0 b1 b2 : Nat} {s0 l0 u0 s1 l1 u1 s2 l2 u2 xv : Int32} (h0 : b0 ≤ 32) (h1 : b1 ≤ 32) (h2 : b2 ≤ 32) (hs : b0 + b1 + b2 ≤ 64) (p0 : ¬ s0 < l0) (q0 : ¬ u0 < s0) (x0 : (u0.toInt64 - l0.toInt64).toBitVec.toNat < 2 ^ b0) (p1 : ¬ s1 < l1) (q1 : ¬ u1 < s1) (x1 : (u1.toInt64 - l1.toInt64).toBitVec.toNat < 2 ^ b1) (p2 : ¬ s2 < l2) (q2 : ¬ u2 < s2) (x2 : (u2.toInt64 - l2.toInt64).toBitVec.toNat < 2 ^ b2) (px : ¬ xv < l1) (qx : ¬ u1 < xv) : setF ((((0 : Int64) ||| (dS s0 l0 (Int32.ofNat 0))) ||| (dS s1 l1 (Int32.ofNat b0))) ||| (dS s2 l2 (Int32.ofNat (b0 + b1)))) (mkM b1) (Int32.ofNat b0) xv l1 = ((((0 : Int64) ||| (dS s0 l0 (Int32.ofNat 0))) ||| (dS xv l1 (Int32.ofNat b0))) ||| (dS s2 l2 (Int32.ofNat (b0 + b1)))) := by
  have f0 := e_lt p0 q0 x0
  have f1 := e_lt p1 q1 x1
  have f2 := e_lt p2 q2 x2
  have fx := e_lt px qx x1
  refine set_gen (by omega) h1 fun m hm => ?_
  rw [pack1_bv h0 h1, pack1_bv h0 h1, bits1i h0 h1 h2 hs f0 f1 f2 m hm, bits1i h0 h1 h2 hs f0 fx f2 m hm]
  generalize (s0.toInt64 - l0.toInt64).toBitVec = e0 at *
  generalize (s1.toInt64 - l1.toInt64).toBitVec = e1 at *
  generalize (s2.toInt64 - l2.toInt64).toBitVec = e2 at *
  generalize (xv.toInt64 - l1.toInt64).toBitVec = ex at *
  rw [Nat.mod_eq_of_lt (by omega : b0 < 64)]
  by_cases c0 : m < b0
  · simp [c0, show ¬ b0 ≤ m by omega]
  · by_cases c1 : m < b0 + b1
    · simp [c0, c1, show b0 ≤ m by omega, show m - b0 < b1 by omega]
    · simp [c0, c1, show ¬ m - b0 < b1 by omega, fld_bit fx (by omega : b1 ≤ m - b0)]
theorem set1_2 {b0 b1 b2 : Nat} {s0 l0 u0 s1 l1 u1 s2 l2 u2 xv : Int32} (h0 : b0 ≤ 32) (h1 : b1 ≤ 32) (h2 : b2 ≤ 32) (hs : b0 + b1 + b2 ≤ 64) (p0 : ¬ s0 < l0) (q0 : ¬ u0 < s0) (x0 : (u0.toInt64 - l0.toInt64).toBitVec.toNat < 2 ^ b0) (p1 : ¬ s1 < l1) (q1 : ¬ u1 < s1) (x1 : (u1.toInt64 - l1.toInt64).toBitVec.toNat < 2 ^ b1) (p2 : ¬ s2 < l2) (q2 : ¬ u2 < s2) (x2 : (u2.toInt64 - l2.toInt64).toBitVec.toNat < 2 ^ b2) (px : ¬ xv < l2) (qx : ¬ u2 < xv) : setF ((((0 : Int64) ||| (dS s0 l0 (Int32.ofNat 0))) ||| (dS s1 l1 (Int32.ofNat b0))) ||| (dS s2 l2 (Int32.ofNat (b0 + b1)))) (mkM b2) (Int32.ofNat (b0 + b1)) xv l2 = ((((0 : Int64) ||| (dS s0 l0 (Int32.ofNat 0))) ||| (dS s1 l1 (Int32.ofNat b0))) ||| (dS xv l2 (Int32.ofNat (b0 + b1)))) := by
  have f0 := e_lt p0 q0 x0
  have f1 := e_lt p1 q1 x1
  have f2 := e_lt p2 q2 x2
  have fx := e_lt px qx x2
  refine set_gen (by omega) h2 fun m hm => ?_
  rw [pack1_bv h0 h1, pack1_bv h0 h1, bits1i h0 h1 h2 hs f0 f1 f2 m hm, bits1i h0 h1 h2 hs f0 f1 fx m hm]
  generalize (s0.toInt64 - l0.toInt64).toBitVec = e0 at *
  generalize (s1.toInt64 - l1.toInt64).toBitVec = e1 at *
  generalize (s2.toInt64 - l2.toInt64).toBitVec = e2 at *
  generalize (xv.toInt64 - l2.toInt64).toBitVec = ex at *
  by_cases e : b0 + b1 = 64
  · have hz : b2 = 0 := by omega
    subst hz
    rw [e, Nat.mod_self]
    have ez : ex = 0#64 := BitVec.eq_of_toNat_eq (by rw [Nat.pow_zero] at fx; show ex.toNat = 0; omega)
    have ey : e2 = 0#64 := BitVec.eq_of_toNat_eq (by rw [Nat.pow_zero] at f2; show e2.toNat = 0; omega)
    rw [ez, ey]
    by_cases c0 : m < b0
    · simp [c0, hm]
    · simp [c0, hm]
  · rw [Nat.mod_eq_of_lt (by omega : b0 + b1 < 64)]
    by_cases c0 : m < b0
    · simp [c0, show ¬ b0 + b1 ≤ m by omega]
    · by_cases c1 : m < b0 + b1
      · simp [c0, c1, show ¬ b0 + b1 ≤ m by omega]
      · by_cases c2 : m < b0 + b1 + b2
        · simp [c0, c1, c2, show b0 + b1 ≤ m by omega, show m - (b0 + b1) < b2 by omega]
        · simp [c0, c1, c2, fld_bit fx (by omega : b2 ≤ m - (b0 + b1))]
theorem set2_0 {b0 b1 b2 : Nat} {s0 l0 u0 s1 l1 u1 s2 l2 u2 xv : Int32} (h0 : b0 ≤ 32) (h1 : b1 ≤ 32) (h2 : b2 ≤ 32) (hs : 64 < b0 + b1 + b2) (p0 : ¬ s0 < l0) (q0 : ¬ u0 < s0) (x0 : (u0.toInt64 - l0.toInt64).toBitVec.toNat < 2 ^ b0) (p1 : ¬ s1 < l1) (q1 : ¬ u1 < s1) (x1 : (u1.toInt64 - l1.toInt64).toBitVec.toNat < 2 ^ b1) (p2 : ¬ s2 < l2) (q2 : ¬ u2 < s2) (x2 : (u2.toInt64 - l2.toInt64).toBitVec.toNat < 2 ^ b2) (px : ¬ xv < l0) (qx : ¬ u0 < xv) : setF (((0 : Int64) ||| (dS s0 l0 (Int32.ofNat 0))) ||| (dS s1 l1 (Int32.ofNat b0))) (mkM b0) (Int32.ofNat 0) xv l0 = (((0 : Int64) ||| (dS xv l0 (Int32.ofNat 0))) ||| (dS s1 l1 (Int32.ofNat b0))) := by
  have f0 := e_lt p0 q0 x0
  have f1 := e_lt p1 q1 x1
  have f2 := e_lt p2 q2 x2
  have fx := e_lt px qx x0
  refine set_gen (by omega) h0 fun m hm => ?_
  rw [pack2_bv h0, pack2_bv h0, bits2i h0 h1 f0 f1 m hm, bits2i h0 h1 fx f1 m hm]
  generalize (s0.toInt64 - l0.toInt64).toBitVec = e0 at *
  generalize (s1.toInt64 - l1.toInt64).toBitVec = e1 at *
  generalize (s2.toInt64 - l2.toInt64).toBitVec = e2 at *
  generalize (xv.toInt64 - l0.toInt64).toBitVec = ex at *
  rw [Nat.zero_mod]
  by_cases c0 : m < b0
  · simp [c0]
  · simp [c0, fld_bit fx (Nat.le_of_not_lt c0)]
theorem set2_1 {b0 b1 b2 : Nat} {s0 l0 u0 s1 l1 u1 s2 l2 u2 xv : Int32} (h0 : b0 ≤ 32) (h1 : b1 ≤ 32) (h2 : b2 ≤ 32) (hs : 64 < b0 + b1 + b2) (p0 : ¬ s0 < l0) (q0 : ¬ u0 < s0) (x0 : (u0.toInt64 - l0.toInt64).toBitVec.toNat < 2 ^ b0) (p1 : ¬ s1 < l1) (q1 : ¬ u1 < s1) (x1 : (u1.toInt64 - l1.toInt64).toBitVec.toNat < 2 ^ b1) (p2 : ¬ s2 < l2) (q2 : ¬ u2 < s2) (x2 : (u2.toInt64 - l2.toInt64).toBitVec.toNat < 2 ^ b2) (px : ¬ xv < l1) (qx : ¬ u1 < xv) : setF (((0 : Int64) ||| (dS s0 l0 (Int32.ofNat 0))) ||| (dS s1 l1 (Int32.ofNat b0))) (mkM b1) (Int32.ofNat b0) xv l1 = (((0 : Int64) ||| (dS s0 l0 (Int32.ofNat 0))) ||| (dS xv l1 (Int32.ofNat b0))) := by
  have f0 := e_lt p0 q0 x0
  have f1 := e_lt p1 q1 x1
  have f2 := e_lt p2 q2 x2
  have fx := e_lt px qx x1
  refine set_gen (by omega) h1 fun m hm => ?_
  rw [pack2_bv h0, pack2_bv h0, bits2i h0 h1 f0 f1 m hm, bits2i h0 h1 f0 fx m hm]
  generalize (s0.toInt64 - l0.toInt64).toBitVec = e0 at *
  generalize (s1.toInt64 - l1.toInt64).toBitVec = e1 at *
  generalize (s2.toInt64 - l2.toInt64).toBitVec = e2 at *
  generalize (xv.toInt64 - l1.toInt64).toBitVec = ex at *
  rw [Nat.mod_eq_of_lt (by omega : b0 < 64)]
  by_cases c0 : m < b0
  · simp [c0, show ¬ b0 ≤ m by omega]
  · by_cases c1 : m < b0 + b1
    · simp [c0, c1, show b0 ≤ m by omega, show m - b0 < b1 by omega]
    · simp [c0, c1, show ¬ m - b0 < b1 by omega, fld_bit fx (by omega : b1 ≤ m - b0)]
theorem set2_2 {b0 b1 b2 : Nat} {s0 l0 u0 s1 l1 u1 s2 l2 u2 xv : Int32} (h0 : b0 ≤ 32) (h1 : b1 ≤ 32) (h2 : b2 ≤ 32) (hs : 64 < b0 + b1 + b2) (p0 : ¬ s0 < l0) (q0 : ¬ u0 < s0) (x0 : (u0.toInt64 - l0.toInt64).toBitVec.toNat < 2 ^ b0) (p1 : ¬ s1 < l1) (q1 : ¬ u1 < s1) (x1 : (u1.toInt64 - l1.toInt64).toBitVec.toNat < 2 ^ b1) (p2 : ¬ s2 < l2) (q2 : ¬ u2 < s2) (x2 : (u2.toInt64 - l2.toInt64).toBitVec.toNat < 2 ^ b2) (px : ¬ xv < l2) (qx : ¬ u2 < xv) : setF ((0 : Int64) ||| (dS s2 l2 (Int32.ofNat 0))) (mkM b2) (Int32.ofNat 0) xv l2 = ((0 : Int64) ||| (dS xv l2 (Int32.ofNat 0))) := by
  have f0 := e_lt p0 q0 x0
  have f1 := e_lt p1 q1 x1
  have f2 := e_lt p2 q2 x2
  have fx := e_lt px qx x2
  refine set_gen (by omega) h2 fun m hm => ?_
  rw [pack3_bv, pack3_bv, Nat.zero_mod]
  generalize (s2.toInt64 - l2.toInt64).toBitVec = e2 at *
  generalize (xv.toInt64 - l2.toInt64).toBitVec = ex at *
  by_cases c0 : m < b2
  · simp [c0]
  · simp [c0, fld_bit f2 (Nat.le_of_not_lt c0)]
theorem key_at1_0 {st : Nat} {ww A0 : Int64} (h : st ≤ 2) : (List.take st [Value.long ww, Value.long ww, Value.long ww, Value.long ww, Value.long ww] ++ [Value.long A0] ++ List.drop (st + 1) [Value.long ww, Value.long ww, Value.long ww, Value.long ww, Value.long ww])[st + 0]? = some (.long A0) := by
  have h3 : st = 0 ∨ st = 1 ∨ st = 2 := by omega
  rcases h3 with rfl | rfl | rfl <;> rfl
theorem list_set1_0 {st : Nat} {ww A0 B0 : Int64} (h : st ≤ 2) : (List.take st [Value.long ww, Value.long ww, Value.long ww, Value.long ww, Value.long ww] ++ [Value.long A0] ++ List.drop (st + 1) [Value.long ww, Value.long ww, Value.long ww, Value.long ww, Value.long ww]).set (st + 0) (.long B0) = (List.take st [Value.long ww, Value.long ww, Value.long ww, Value.long ww, Value.long ww] ++ [Value.long B0] ++ List.drop (st + 1) [Value.long ww, Value.long ww, Value.long ww, Value.long ww, Value.long ww]) := by
  have h3 : st = 0 ∨ st = 1 ∨ st = 2 := by omega
  rcases h3 with rfl | rfl | rfl <;> rfl
theorem list_five1 {st : Nat} {a B0 : Int64} (h : st ≤ 2) : ∃ z0 z1 z2 z3 z4 : Int64, (List.take st [Value.long a, Value.long a, Value.long a, Value.long a, Value.long a] ++ [Value.long B0] ++ List.drop (st + 1) [Value.long a, Value.long a, Value.long a, Value.long a, Value.long a]) = [.long z0, .long z1, .long z2, .long z3, .long z4] := by
  have h3 : st = 0 ∨ st = 1 ∨ st = 2 := by omega
  rcases h3 with rfl | rfl | rfl <;> exact ⟨_, _, _, _, _, rfl⟩
theorem key_at2_0 {st : Nat} {ww A0 A1 : Int64} (h : st ≤ 2) : (List.take st [Value.long ww, Value.long ww, Value.long ww, Value.long ww, Value.long ww] ++ [Value.long A0, Value.long A1] ++ List.drop (st + 2) [Value.long ww, Value.long ww, Value.long ww, Value.long ww, Value.long ww])[st + 0]? = some (.long A0) := by
  have h3 : st = 0 ∨ st = 1 ∨ st = 2 := by omega
  rcases h3 with rfl | rfl | rfl <;> rfl
theorem list_set2_0 {st : Nat} {ww A0 B0 B1 : Int64} (h : st ≤ 2) : (List.take st [Value.long ww, Value.long ww, Value.long ww, Value.long ww, Value.long ww] ++ [Value.long A0, Value.long B1] ++ List.drop (st + 2) [Value.long ww, Value.long ww, Value.long ww, Value.long ww, Value.long ww]).set (st + 0) (.long B0) = (List.take st [Value.long ww, Value.long ww, Value.long ww, Value.long ww, Value.long ww] ++ [Value.long B0, Value.long B1] ++ List.drop (st + 2) [Value.long ww, Value.long ww, Value.long ww, Value.long ww, Value.long ww]) := by
  have h3 : st = 0 ∨ st = 1 ∨ st = 2 := by omega
  rcases h3 with rfl | rfl | rfl <;> rfl
theorem key_at2_1 {st : Nat} {ww A0 A1 : Int64} (h : st ≤ 2) : (List.take st [Value.long ww, Value.long ww, Value.long ww, Value.long ww, Value.long ww] ++ [Value.long A0, Value.long A1] ++ List.drop (st + 2) [Value.long ww, Value.long ww, Value.long ww, Value.long ww, Value.long ww])[st + 1]? = some (.long A1) := by
  have h3 : st = 0 ∨ st = 1 ∨ st = 2 := by omega
  rcases h3 with rfl | rfl | rfl <;> rfl
theorem list_set2_1 {st : Nat} {ww A1 B0 B1 : Int64} (h : st ≤ 2) : (List.take st [Value.long ww, Value.long ww, Value.long ww, Value.long ww, Value.long ww] ++ [Value.long B0, Value.long A1] ++ List.drop (st + 2) [Value.long ww, Value.long ww, Value.long ww, Value.long ww, Value.long ww]).set (st + 1) (.long B1) = (List.take st [Value.long ww, Value.long ww, Value.long ww, Value.long ww, Value.long ww] ++ [Value.long B0, Value.long B1] ++ List.drop (st + 2) [Value.long ww, Value.long ww, Value.long ww, Value.long ww, Value.long ww]) := by
  have h3 : st = 0 ∨ st = 1 ∨ st = 2 := by omega
  rcases h3 with rfl | rfl | rfl <;> rfl
theorem list_five2 {st : Nat} {a B0 B1 : Int64} (h : st ≤ 2) : ∃ z0 z1 z2 z3 z4 : Int64, (List.take st [Value.long a, Value.long a, Value.long a, Value.long a, Value.long a] ++ [Value.long B0, Value.long B1] ++ List.drop (st + 2) [Value.long a, Value.long a, Value.long a, Value.long a, Value.long a]) = [.long z0, .long z1, .long z2, .long z3, .long z4] := by
  have h3 : st = 0 ∨ st = 1 ∨ st = 2 := by omega
  rcases h3 with rfl | rfl | rfl <;> exact ⟨_, _, _, _, _, rfl⟩


abbrev aI (vs : List Value) : Ob := .inr (.int, vs)
abbrev aJ (vs : List Value) : Ob := .inr (.long, vs)
abbrev aO (vs : List Value) : Ob := .inr (.object "java/lang/Object", vs)
def Tw (Z : State) (a0 : Array Value) : Prop := ∀ d ∈ tables_1, d.before a0 Z = true
theorem t0 {Z : State} {a0 : Array Value} (hw : Tw Z a0) : ((Jvm.Cond.methodLink "com/example/ryazan/ryazan/statespace/StateStoreSetPinLaw" (13 : Nat) ({ cls := "com/example/ryazan/ryazan/statespace/StateStoreSetPinLaw", name := "low", desc := "(J)I" } : Jvm.MethodName))).before a0 Z = true := hw _ (List.mem_of_getElem? (i := 0) rfl)
theorem t1 {Z : State} {a0 : Array Value} (hw : Tw Z a0) : ((Jvm.Cond.static ({ cls := "com/example/ryazan/ryazan/statespace/StateStoreSetPinLaw", name := "low", desc := "(J)I" } : Jvm.MethodName))).before a0 Z = true := hw _ (List.mem_of_getElem? (i := 1) rfl)
theorem t2 {Z : State} {a0 : Array Value} (hw : Tw Z a0) : ((Jvm.Cond.initialized "com/example/ryazan/ryazan/statespace/StateStoreSetPinLaw")).before a0 Z = true := hw _ (List.mem_of_getElem? (i := 2) rfl)
theorem t3 {Z : State} {a0 : Array Value} (hw : Tw Z a0) : ((Jvm.Cond.code ({ cls := "com/example/ryazan/ryazan/statespace/StateStoreSetPinLaw", name := "low", desc := "(J)I" } : Jvm.MethodName) method_2_code (2 : Nat) (Option.some Jvm.ClassFile.FieldType.int))).before a0 Z = true := hw _ (List.mem_of_getElem? (i := 3) rfl)
theorem t4 {Z : State} {a0 : Array Value} (hw : Tw Z a0) : ((Jvm.Cond.methodLink "com/example/ryazan/ryazan/statespace/StateStoreSetPinLaw" (19 : Nat) ({ cls := "com/example/ryazan/ryazan/statespace/StateStoreSetPinLaw", name := "high", desc := "(J)I" } : Jvm.MethodName))).before a0 Z = true := hw _ (List.mem_of_getElem? (i := 4) rfl)
theorem t5 {Z : State} {a0 : Array Value} (hw : Tw Z a0) : ((Jvm.Cond.static ({ cls := "com/example/ryazan/ryazan/statespace/StateStoreSetPinLaw", name := "high", desc := "(J)I" } : Jvm.MethodName))).before a0 Z = true := hw _ (List.mem_of_getElem? (i := 5) rfl)
theorem t6 {Z : State} {a0 : Array Value} (hw : Tw Z a0) : ((Jvm.Cond.code ({ cls := "com/example/ryazan/ryazan/statespace/StateStoreSetPinLaw", name := "high", desc := "(J)I" } : Jvm.MethodName) method_3_code (8 : Nat) (Option.some Jvm.ClassFile.FieldType.int))).before a0 Z = true := hw _ (List.mem_of_getElem? (i := 6) rfl)
theorem t7 {Z : State} {a0 : Array Value} (hw : Tw Z a0) : ((Jvm.Cond.constantLong "com/example/ryazan/ryazan/statespace/StateStoreSetPinLaw" (9 : Nat) (2147483647 : Int64))).before a0 Z = true := hw _ (List.mem_of_getElem? (i := 7) rfl)
theorem t8 {Z : State} {a0 : Array Value} (hw : Tw Z a0) : ((Jvm.Cond.constantLong "com/example/ryazan/ryazan/statespace/StateStoreSetPinLaw" (11 : Nat) (4294967295 : Int64))).before a0 Z = true := hw _ (List.mem_of_getElem? (i := 8) rfl)
theorem t9 {Z : State} {a0 : Array Value} (hw : Tw Z a0) : ((Jvm.Cond.classLink "com/example/ryazan/ryazan/statespace/StateStoreSetPinLaw" (22 : Nat) "java/util/ArrayList")).before a0 Z = true := hw _ (List.mem_of_getElem? (i := 9) rfl)
theorem t10 {Z : State} {a0 : Array Value} (hw : Tw Z a0) : ((Jvm.Cond.instantiable "java/util/ArrayList" (3 : Nat))).before a0 Z = true := hw _ (List.mem_of_getElem? (i := 10) rfl)
theorem t11 {Z : State} {a0 : Array Value} (hw : Tw Z a0) : ((Jvm.Cond.initialized "java/util/ArrayList")).before a0 Z = true := hw _ (List.mem_of_getElem? (i := 11) rfl)
theorem t12 {Z : State} {a0 : Array Value} (hw : Tw Z a0) : ((Jvm.Cond.methodLink "com/example/ryazan/ryazan/statespace/StateStoreSetPinLaw" (24 : Nat) ({ cls := "java/util/ArrayList", name := "<init>", desc := "()V" } : Jvm.MethodName))).before a0 Z = true := hw _ (List.mem_of_getElem? (i := 12) rfl)
theorem t13 {Z : State} {a0 : Array Value} (hw : Tw Z a0) : ((Jvm.Cond.instanceMethod ({ cls := "java/util/ArrayList", name := "<init>", desc := "()V" } : Jvm.MethodName))).before a0 Z = true := hw _ (List.mem_of_getElem? (i := 13) rfl)
theorem t14 {Z : State} {a0 : Array Value} (hw : Tw Z a0) : ((Jvm.Cond.code ({ cls := "java/util/ArrayList", name := "<init>", desc := "()V" } : Jvm.MethodName) jdk_38_method_2_code (1 : Nat) (Option.none : Option Jvm.ClassFile.FieldType))).before a0 Z = true := hw _ (List.mem_of_getElem? (i := 14) rfl)
theorem t15 {Z : State} {a0 : Array Value} (hw : Tw Z a0) : ((Jvm.Cond.methodLink "java/util/ArrayList" (1 : Nat) ({ cls := "java/util/AbstractList", name := "<init>", desc := "()V" } : Jvm.MethodName))).before a0 Z = true := hw _ (List.mem_of_getElem? (i := 15) rfl)
theorem t16 {Z : State} {a0 : Array Value} (hw : Tw Z a0) : ((Jvm.Cond.instanceMethod ({ cls := "java/util/AbstractList", name := "<init>", desc := "()V" } : Jvm.MethodName))).before a0 Z = true := hw _ (List.mem_of_getElem? (i := 16) rfl)
theorem t19 {Z : State} {a0 : Array Value} (hw : Tw Z a0) : ((Jvm.Cond.initialized "java/util/AbstractList")).before a0 Z = true := hw _ (List.mem_of_getElem? (i := 19) rfl)
theorem t20 {Z : State} {a0 : Array Value} (hw : Tw Z a0) : ((Jvm.Cond.code ({ cls := "java/util/AbstractList", name := "<init>", desc := "()V" } : Jvm.MethodName) jdk_39_method_1_code (1 : Nat) (Option.none : Option Jvm.ClassFile.FieldType))).before a0 Z = true := hw _ (List.mem_of_getElem? (i := 20) rfl)
theorem t21 {Z : State} {a0 : Array Value} (hw : Tw Z a0) : ((Jvm.Cond.methodLink "java/util/AbstractList" (1 : Nat) ({ cls := "java/util/AbstractCollection", name := "<init>", desc := "()V" } : Jvm.MethodName))).before a0 Z = true := hw _ (List.mem_of_getElem? (i := 21) rfl)
theorem t22 {Z : State} {a0 : Array Value} (hw : Tw Z a0) : ((Jvm.Cond.instanceMethod ({ cls := "java/util/AbstractCollection", name := "<init>", desc := "()V" } : Jvm.MethodName))).before a0 Z = true := hw _ (List.mem_of_getElem? (i := 22) rfl)
theorem t25 {Z : State} {a0 : Array Value} (hw : Tw Z a0) : ((Jvm.Cond.initialized "java/util/AbstractCollection")).before a0 Z = true := hw _ (List.mem_of_getElem? (i := 25) rfl)
theorem t26 {Z : State} {a0 : Array Value} (hw : Tw Z a0) : ((Jvm.Cond.code ({ cls := "java/util/AbstractCollection", name := "<init>", desc := "()V" } : Jvm.MethodName) jdk_22_method_1_code (1 : Nat) (Option.none : Option Jvm.ClassFile.FieldType))).before a0 Z = true := hw _ (List.mem_of_getElem? (i := 26) rfl)
theorem t27 {Z : State} {a0 : Array Value} (hw : Tw Z a0) : ((Jvm.Cond.methodLink "java/util/AbstractCollection" (1 : Nat) ({ cls := "java/lang/Object", name := "<init>", desc := "()V" } : Jvm.MethodName))).before a0 Z = true := hw _ (List.mem_of_getElem? (i := 27) rfl)
theorem t28 {Z : State} {a0 : Array Value} (hw : Tw Z a0) : ((Jvm.Cond.instanceMethod ({ cls := "java/lang/Object", name := "<init>", desc := "()V" } : Jvm.MethodName))).before a0 Z = true := hw _ (List.mem_of_getElem? (i := 28) rfl)
theorem t29 {Z : State} {a0 : Array Value} (hw : Tw Z a0) : ((Jvm.Cond.code ({ cls := "java/lang/Object", name := "<init>", desc := "()V" } : Jvm.MethodName) object_method_1_code (1 : Nat) (Option.none : Option Jvm.ClassFile.FieldType))).before a0 Z = true := hw _ (List.mem_of_getElem? (i := 29) rfl)
theorem t30 {Z : State} {a0 : Array Value} (hw : Tw Z a0) : ((Jvm.Cond.fieldLink "java/util/AbstractList" (7 : Nat) "java/util/AbstractList" "modCount" "I")).before a0 Z = true := hw _ (List.mem_of_getElem? (i := 30) rfl)
theorem t31 {Z : State} {a0 : Array Value} (hw : Tw Z a0) : ((Jvm.Cond.lays "java/util/ArrayList" "java/util/AbstractList" "modCount" "I")).before a0 Z = true := hw _ (List.mem_of_getElem? (i := 31) rfl)
theorem t32 {Z : State} {a0 : Array Value} (hw : Tw Z a0) : ((Jvm.Cond.fieldLink "java/util/ArrayList" (39 : Nat) "java/util/ArrayList" "DEFAULTCAPACITY_EMPTY_ELEMENTDATA" "[Ljava/lang/Object;")).before a0 Z = true := hw _ (List.mem_of_getElem? (i := 32) rfl)
theorem t33 {Z : State} {a0 : Array Value} (hw : Tw Z a0) : ((Jvm.Cond.fieldLink "java/util/ArrayList" (9 : Nat) "java/util/ArrayList" "elementData" "[Ljava/lang/Object;")).before a0 Z = true := hw _ (List.mem_of_getElem? (i := 33) rfl)
theorem t34 {Z : State} {a0 : Array Value} (hw : Tw Z a0) : ((Jvm.Cond.lays "java/util/ArrayList" "java/util/ArrayList" "elementData" "[Ljava/lang/Object;")).before a0 Z = true := hw _ (List.mem_of_getElem? (i := 34) rfl)
theorem t35 {Z : State} {a0 : Array Value} (hw : Tw Z a0) : ((Jvm.Cond.classLink "com/example/ryazan/ryazan/statespace/StateStoreSetPinLaw" (25 : Nat) "com/example/ryazan/ryazan/model/Model$Variable")).before a0 Z = true := hw _ (List.mem_of_getElem? (i := 35) rfl)
theorem t36 {Z : State} {a0 : Array Value} (hw : Tw Z a0) : ((Jvm.Cond.instantiable "com/example/ryazan/ryazan/model/Model$Variable" (6 : Nat))).before a0 Z = true := hw _ (List.mem_of_getElem? (i := 36) rfl)
theorem t37 {Z : State} {a0 : Array Value} (hw : Tw Z a0) : ((Jvm.Cond.initialized "com/example/ryazan/ryazan/model/Model$Variable")).before a0 Z = true := hw _ (List.mem_of_getElem? (i := 37) rfl)
theorem t38 {Z : State} {a0 : Array Value} (hw : Tw Z a0) : ((Jvm.Cond.fieldLink "com/example/ryazan/ryazan/statespace/StateStoreSetPinLaw" (27 : Nat) "com/example/ryazan/ryazan/lang/Type" "INT" "Lcom/example/ryazan/ryazan/lang/Type;")).before a0 Z = true := hw _ (List.mem_of_getElem? (i := 38) rfl)
theorem t41 {Z : State} {a0 : Array Value} (hw : Tw Z a0) : ((Jvm.Cond.methodLink "com/example/ryazan/ryazan/statespace/StateStoreSetPinLaw" (33 : Nat) ({ cls := "com/example/ryazan/ryazan/model/Model$Variable", name := "<init>", desc := "(Ljava/lang/String;Lcom/example/ryazan/ryazan/lang/Type;IIILcom/example/ryazan/ryazan/lang/SourcePosition;)V" } : Jvm.MethodName))).before a0 Z = true := hw _ (List.mem_of_getElem? (i := 41) rfl)
theorem t42 {Z : State} {a0 : Array Value} (hw : Tw Z a0) : ((Jvm.Cond.instanceMethod ({ cls := "com/example/ryazan/ryazan/model/Model$Variable", name := "<init>", desc := "(Ljava/lang/String;Lcom/example/ryazan/ryazan/lang/Type;IIILcom/example/ryazan/ryazan/lang/SourcePosition;)V" } : Jvm.MethodName))).before a0 Z = true := hw _ (List.mem_of_getElem? (i := 42) rfl)
theorem t43 {Z : State} {a0 : Array Value} (hw : Tw Z a0) : ((Jvm.Cond.code ({ cls := "com/example/ryazan/ryazan/model/Model$Variable", name := "<init>", desc := "(Ljava/lang/String;Lcom/example/ryazan/ryazan/lang/Type;IIILcom/example/ryazan/ryazan/lang/SourcePosition;)V" } : Jvm.MethodName) prog_172_method_1_code (7 : Nat) (Option.none : Option Jvm.ClassFile.FieldType))).before a0 Z = true := hw _ (List.mem_of_getElem? (i := 43) rfl)
theorem t44 {Z : State} {a0 : Array Value} (hw : Tw Z a0) : ((Jvm.Cond.methodLink "com/example/ryazan/ryazan/model/Model$Variable" (1 : Nat) ({ cls := "java/lang/Record", name := "<init>", desc := "()V" } : Jvm.MethodName))).before a0 Z = true := hw _ (List.mem_of_getElem? (i := 44) rfl)
theorem t45 {Z : State} {a0 : Array Value} (hw : Tw Z a0) : ((Jvm.Cond.instanceMethod ({ cls := "java/lang/Record", name := "<init>", desc := "()V" } : Jvm.MethodName))).before a0 Z = true := hw _ (List.mem_of_getElem? (i := 45) rfl)
theorem t47 {Z : State} {a0 : Array Value} (hw : Tw Z a0) : ((Jvm.Cond.initialized "java/lang/Record")).before a0 Z = true := hw _ (List.mem_of_getElem? (i := 47) rfl)
theorem t48 {Z : State} {a0 : Array Value} (hw : Tw Z a0) : ((Jvm.Cond.code ({ cls := "java/lang/Record", name := "<init>", desc := "()V" } : Jvm.MethodName) jdk_30_method_1_code (1 : Nat) (Option.none : Option Jvm.ClassFile.FieldType))).before a0 Z = true := hw _ (List.mem_of_getElem? (i := 48) rfl)
theorem t49 {Z : State} {a0 : Array Value} (hw : Tw Z a0) : ((Jvm.Cond.methodLink "java/lang/Record" (1 : Nat) ({ cls := "java/lang/Object", name := "<init>", desc := "()V" } : Jvm.MethodName))).before a0 Z = true := hw _ (List.mem_of_getElem? (i := 49) rfl)
theorem t50 {Z : State} {a0 : Array Value} (hw : Tw Z a0) : ((Jvm.Cond.fieldLink "com/example/ryazan/ryazan/model/Model$Variable" (7 : Nat) "com/example/ryazan/ryazan/model/Model$Variable" "name" "Ljava/lang/String;")).before a0 Z = true := hw _ (List.mem_of_getElem? (i := 50) rfl)
theorem t51 {Z : State} {a0 : Array Value} (hw : Tw Z a0) : ((Jvm.Cond.laysFinal "com/example/ryazan/ryazan/model/Model$Variable" "com/example/ryazan/ryazan/model/Model$Variable" "name" "Ljava/lang/String;")).before a0 Z = true := hw _ (List.mem_of_getElem? (i := 51) rfl)
theorem t52 {Z : State} {a0 : Array Value} (hw : Tw Z a0) : ((Jvm.Cond.fieldLink "com/example/ryazan/ryazan/model/Model$Variable" (13 : Nat) "com/example/ryazan/ryazan/model/Model$Variable" "type" "Lcom/example/ryazan/ryazan/lang/Type;")).before a0 Z = true := hw _ (List.mem_of_getElem? (i := 52) rfl)
theorem t53 {Z : State} {a0 : Array Value} (hw : Tw Z a0) : ((Jvm.Cond.laysFinal "com/example/ryazan/ryazan/model/Model$Variable" "com/example/ryazan/ryazan/model/Model$Variable" "type" "Lcom/example/ryazan/ryazan/lang/Type;")).before a0 Z = true := hw _ (List.mem_of_getElem? (i := 53) rfl)
theorem t54 {Z : State} {a0 : Array Value} (hw : Tw Z a0) : ((Jvm.Cond.fieldLink "com/example/ryazan/ryazan/model/Model$Variable" (17 : Nat) "com/example/ryazan/ryazan/model/Model$Variable" "low" "I")).before a0 Z = true := hw _ (List.mem_of_getElem? (i := 54) rfl)
theorem t55 {Z : State} {a0 : Array Value} (hw : Tw Z a0) : ((Jvm.Cond.laysFinal "com/example/ryazan/ryazan/model/Model$Variable" "com/example/ryazan/ryazan/model/Model$Variable" "low" "I")).before a0 Z = true := hw _ (List.mem_of_getElem? (i := 55) rfl)
theorem t56 {Z : State} {a0 : Array Value} (hw : Tw Z a0) : ((Jvm.Cond.fieldLink "com/example/ryazan/ryazan/model/Model$Variable" (21 : Nat) "com/example/ryazan/ryazan/model/Model$Variable" "high" "I")).before a0 Z = true := hw _ (List.mem_of_getElem? (i := 56) rfl)
theorem t57 {Z : State} {a0 : Array Value} (hw : Tw Z a0) : ((Jvm.Cond.laysFinal "com/example/ryazan/ryazan/model/Model$Variable" "com/example/ryazan/ryazan/model/Model$Variable" "high" "I")).before a0 Z = true := hw _ (List.mem_of_getElem? (i := 57) rfl)
theorem t58 {Z : State} {a0 : Array Value} (hw : Tw Z a0) : ((Jvm.Cond.fieldLink "com/example/ryazan/ryazan/model/Model$Variable" (24 : Nat) "com/example/ryazan/ryazan/model/Model$Variable" "initial" "I")).before a0 Z = true := hw _ (List.mem_of_getElem? (i := 58) rfl)
theorem t59 {Z : State} {a0 : Array Value} (hw : Tw Z a0) : ((Jvm.Cond.laysFinal "com/example/ryazan/ryazan/model/Model$Variable" "com/example/ryazan/ryazan/model/Model$Variable" "initial" "I")).before a0 Z = true := hw _ (List.mem_of_getElem? (i := 59) rfl)
theorem t60 {Z : State} {a0 : Array Value} (hw : Tw Z a0) : ((Jvm.Cond.fieldLink "com/example/ryazan/ryazan/model/Model$Variable" (27 : Nat) "com/example/ryazan/ryazan/model/Model$Variable" "position" "Lcom/example/ryazan/ryazan/lang/SourcePosition;")).before a0 Z = true := hw _ (List.mem_of_getElem? (i := 60) rfl)
theorem t61 {Z : State} {a0 : Array Value} (hw : Tw Z a0) : ((Jvm.Cond.laysFinal "com/example/ryazan/ryazan/model/Model$Variable" "com/example/ryazan/ryazan/model/Model$Variable" "position" "Lcom/example/ryazan/ryazan/lang/SourcePosition;")).before a0 Z = true := hw _ (List.mem_of_getElem? (i := 61) rfl)
theorem t62 {Z : State} {a0 : Array Value} (hw : Tw Z a0) : ((Jvm.Cond.methodLink "com/example/ryazan/ryazan/statespace/StateStoreSetPinLaw" (36 : Nat) ({ cls := "java/util/ArrayList", name := "add", desc := "(Ljava/lang/Object;)Z" } : Jvm.MethodName))).before a0 Z = true := hw _ (List.mem_of_getElem? (i := 62) rfl)
theorem t63 {Z : State} {a0 : Array Value} (hw : Tw Z a0) : ((Jvm.Cond.declares ({ cls := "java/util/ArrayList", name := "add", desc := "(Ljava/lang/Object;)Z" } : Jvm.MethodName))).before a0 Z = true := hw _ (List.mem_of_getElem? (i := 63) rfl)
theorem t64 {Z : State} {a0 : Array Value} (hw : Tw Z a0) : ((Jvm.Cond.instanceMethod ({ cls := "java/util/ArrayList", name := "add", desc := "(Ljava/lang/Object;)Z" } : Jvm.MethodName))).before a0 Z = true := hw _ (List.mem_of_getElem? (i := 64) rfl)
theorem t65 {Z : State} {a0 : Array Value} (hw : Tw Z a0) : ((Jvm.Cond.selects "java/util/ArrayList" ({ cls := "java/util/ArrayList", name := "add", desc := "(Ljava/lang/Object;)Z" } : Jvm.MethodName) ({ cls := "java/util/ArrayList", name := "add", desc := "(Ljava/lang/Object;)Z" } : Jvm.MethodName))).before a0 Z = true := hw _ (List.mem_of_getElem? (i := 65) rfl)
theorem t66 {Z : State} {a0 : Array Value} (hw : Tw Z a0) : ((Jvm.Cond.code ({ cls := "java/util/ArrayList", name := "add", desc := "(Ljava/lang/Object;)Z" } : Jvm.MethodName) jdk_38_method_25_code (2 : Nat) (Option.some Jvm.ClassFile.FieldType.boolean))).before a0 Z = true := hw _ (List.mem_of_getElem? (i := 66) rfl)
theorem t67 {Z : State} {a0 : Array Value} (hw : Tw Z a0) : ((Jvm.Cond.fieldLink "java/util/ArrayList" (63 : Nat) "java/util/ArrayList" "modCount" "I")).before a0 Z = true := hw _ (List.mem_of_getElem? (i := 67) rfl)
theorem t68 {Z : State} {a0 : Array Value} (hw : Tw Z a0) : ((Jvm.Cond.sameField "java/util/ArrayList" "java/util/AbstractList" "modCount" "I")).before a0 Z = true := hw _ (List.mem_of_getElem? (i := 68) rfl)
theorem t69 {Z : State} {a0 : Array Value} (hw : Tw Z a0) : ((Jvm.Cond.fieldLink "java/util/ArrayList" (48 : Nat) "java/util/ArrayList" "size" "I")).before a0 Z = true := hw _ (List.mem_of_getElem? (i := 69) rfl)
theorem t70 {Z : State} {a0 : Array Value} (hw : Tw Z a0) : ((Jvm.Cond.lays "java/util/ArrayList" "java/util/ArrayList" "size" "I")).before a0 Z = true := hw _ (List.mem_of_getElem? (i := 70) rfl)
theorem t71 {Z : State} {a0 : Array Value} (hw : Tw Z a0) : ((Jvm.Cond.methodLink "java/util/ArrayList" (131 : Nat) ({ cls := "java/util/ArrayList", name := "add", desc := "(Ljava/lang/Object;[Ljava/lang/Object;I)V" } : Jvm.MethodName))).before a0 Z = true := hw _ (List.mem_of_getElem? (i := 71) rfl)
theorem t72 {Z : State} {a0 : Array Value} (hw : Tw Z a0) : ((Jvm.Cond.instanceMethod ({ cls := "java/util/ArrayList", name := "add", desc := "(Ljava/lang/Object;[Ljava/lang/Object;I)V" } : Jvm.MethodName))).before a0 Z = true := hw _ (List.mem_of_getElem? (i := 72) rfl)
theorem t73 {Z : State} {a0 : Array Value} (hw : Tw Z a0) : ((Jvm.Cond.privateMethod ({ cls := "java/util/ArrayList", name := "add", desc := "(Ljava/lang/Object;[Ljava/lang/Object;I)V" } : Jvm.MethodName))).before a0 Z = true := hw _ (List.mem_of_getElem? (i := 73) rfl)
theorem t75 {Z : State} {a0 : Array Value} (hw : Tw Z a0) : ((Jvm.Cond.code ({ cls := "java/util/ArrayList", name := "add", desc := "(Ljava/lang/Object;[Ljava/lang/Object;I)V" } : Jvm.MethodName) jdk_38_method_24_code (4 : Nat) (Option.none : Option Jvm.ClassFile.FieldType))).before a0 Z = true := hw _ (List.mem_of_getElem? (i := 75) rfl)
theorem t76 {Z : State} {a0 : Array Value} (hw : Tw Z a0) : ((Jvm.Cond.methodLink "java/util/ArrayList" (129 : Nat) ({ cls := "java/util/ArrayList", name := "grow", desc := "()[Ljava/lang/Object;" } : Jvm.MethodName))).before a0 Z = true := hw _ (List.mem_of_getElem? (i := 76) rfl)
theorem t77 {Z : State} {a0 : Array Value} (hw : Tw Z a0) : ((Jvm.Cond.instanceMethod ({ cls := "java/util/ArrayList", name := "grow", desc := "()[Ljava/lang/Object;" } : Jvm.MethodName))).before a0 Z = true := hw _ (List.mem_of_getElem? (i := 77) rfl)
theorem t78 {Z : State} {a0 : Array Value} (hw : Tw Z a0) : ((Jvm.Cond.privateMethod ({ cls := "java/util/ArrayList", name := "grow", desc := "()[Ljava/lang/Object;" } : Jvm.MethodName))).before a0 Z = true := hw _ (List.mem_of_getElem? (i := 78) rfl)
theorem t80 {Z : State} {a0 : Array Value} (hw : Tw Z a0) : ((Jvm.Cond.code ({ cls := "java/util/ArrayList", name := "grow", desc := "()[Ljava/lang/Object;" } : Jvm.MethodName) jdk_38_method_7_code (1 : Nat) (Option.some (Jvm.ClassFile.FieldType.array (Jvm.ClassFile.FieldType.object "java/lang/Object"))))).before a0 Z = true := hw _ (List.mem_of_getElem? (i := 80) rfl)
theorem t81 {Z : State} {a0 : Array Value} (hw : Tw Z a0) : ((Jvm.Cond.methodLink "java/util/ArrayList" (69 : Nat) ({ cls := "java/util/ArrayList", name := "grow", desc := "(I)[Ljava/lang/Object;" } : Jvm.MethodName))).before a0 Z = true := hw _ (List.mem_of_getElem? (i := 81) rfl)
theorem t82 {Z : State} {a0 : Array Value} (hw : Tw Z a0) : ((Jvm.Cond.instanceMethod ({ cls := "java/util/ArrayList", name := "grow", desc := "(I)[Ljava/lang/Object;" } : Jvm.MethodName))).before a0 Z = true := hw _ (List.mem_of_getElem? (i := 82) rfl)
theorem t83 {Z : State} {a0 : Array Value} (hw : Tw Z a0) : ((Jvm.Cond.privateMethod ({ cls := "java/util/ArrayList", name := "grow", desc := "(I)[Ljava/lang/Object;" } : Jvm.MethodName))).before a0 Z = true := hw _ (List.mem_of_getElem? (i := 83) rfl)
theorem t85 {Z : State} {a0 : Array Value} (hw : Tw Z a0) : ((Jvm.Cond.code ({ cls := "java/util/ArrayList", name := "grow", desc := "(I)[Ljava/lang/Object;" } : Jvm.MethodName) jdk_38_method_6_code (4 : Nat) (Option.some (Jvm.ClassFile.FieldType.array (Jvm.ClassFile.FieldType.object "java/lang/Object"))))).before a0 Z = true := hw _ (List.mem_of_getElem? (i := 85) rfl)
theorem t86 {Z : State} {a0 : Array Value} (hw : Tw Z a0) : ((Jvm.Cond.methodLink "java/util/ArrayList" (79 : Nat) ({ cls := "java/lang/Math", name := "max", desc := "(II)I" } : Jvm.MethodName))).before a0 Z = true := hw _ (List.mem_of_getElem? (i := 86) rfl)
theorem t87 {Z : State} {a0 : Array Value} (hw : Tw Z a0) : ((Jvm.Cond.static ({ cls := "java/lang/Math", name := "max", desc := "(II)I" } : Jvm.MethodName))).before a0 Z = true := hw _ (List.mem_of_getElem? (i := 87) rfl)
theorem t88 {Z : State} {a0 : Array Value} (hw : Tw Z a0) : ((Jvm.Cond.initialized "java/lang/Math")).before a0 Z = true := hw _ (List.mem_of_getElem? (i := 88) rfl)
theorem t89 {Z : State} {a0 : Array Value} (hw : Tw Z a0) : ((Jvm.Cond.code ({ cls := "java/lang/Math", name := "max", desc := "(II)I" } : Jvm.MethodName) jdk_29_method_65_code (2 : Nat) (Option.some Jvm.ClassFile.FieldType.int))).before a0 Z = true := hw _ (List.mem_of_getElem? (i := 89) rfl)
theorem t90 {Z : State} {a0 : Array Value} (hw : Tw Z a0) : ((Jvm.Cond.classLink "java/util/ArrayList" (7 : Nat) "java/lang/Object")).before a0 Z = true := hw _ (List.mem_of_getElem? (i := 90) rfl)
theorem t91 {Z : State} {a0 : Array Value} (hw : Tw Z a0) : ((Jvm.Cond.arrayOver (Jvm.ClassFile.FieldType.object "java/lang/Object"))).before a0 Z = true := hw _ (List.mem_of_getElem? (i := 91) rfl)
theorem t92 {Z : State} {a0 : Array Value} (hw : Tw Z a0) : ((Jvm.Cond.castable "com/example/ryazan/ryazan/model/Model$Variable" "java/lang/Object")).before a0 Z = true := hw _ (List.mem_of_getElem? (i := 92) rfl)
theorem t93 {Z : State} {a0 : Array Value} (hw : Tw Z a0) : ((Jvm.Cond.classLink "com/example/ryazan/ryazan/statespace/StateStoreSetPinLaw" (40 : Nat) "com/example/ryazan/ryazan/statespace/StateStore")).before a0 Z = true := hw _ (List.mem_of_getElem? (i := 93) rfl)
theorem t94 {Z : State} {a0 : Array Value} (hw : Tw Z a0) : ((Jvm.Cond.instantiable "com/example/ryazan/ryazan/statespace/StateStore" (12 : Nat))).before a0 Z = true := hw _ (List.mem_of_getElem? (i := 94) rfl)
theorem t95 {Z : State} {a0 : Array Value} (hw : Tw Z a0) : ((Jvm.Cond.initialized "com/example/ryazan/ryazan/statespace/StateStore")).before a0 Z = true := hw _ (List.mem_of_getElem? (i := 95) rfl)
theorem t96 {Z : State} {a0 : Array Value} (hw : Tw Z a0) : ((Jvm.Cond.methodLink "com/example/ryazan/ryazan/statespace/StateStoreSetPinLaw" (42 : Nat) ({ cls := "com/example/ryazan/ryazan/statespace/StateStore", name := "<init>", desc := "(Ljava/util/List;)V" } : Jvm.MethodName))).before a0 Z = true := hw _ (List.mem_of_getElem? (i := 96) rfl)
theorem t97 {Z : State} {a0 : Array Value} (hw : Tw Z a0) : ((Jvm.Cond.instanceMethod ({ cls := "com/example/ryazan/ryazan/statespace/StateStore", name := "<init>", desc := "(Ljava/util/List;)V" } : Jvm.MethodName))).before a0 Z = true := hw _ (List.mem_of_getElem? (i := 97) rfl)
theorem t98 {Z : State} {a0 : Array Value} (hw : Tw Z a0) : ((Jvm.Cond.code ({ cls := "com/example/ryazan/ryazan/statespace/StateStore", name := "<init>", desc := "(Ljava/util/List;)V" } : Jvm.MethodName) prog_197_method_1_code (10 : Nat) (Option.none : Option Jvm.ClassFile.FieldType))).before a0 Z = true := hw _ (List.mem_of_getElem? (i := 98) rfl)
theorem t99 {Z : State} {a0 : Array Value} (hw : Tw Z a0) : ((Jvm.Cond.methodLink "com/example/ryazan/ryazan/statespace/StateStore" (1 : Nat) ({ cls := "java/lang/Object", name := "<init>", desc := "()V" } : Jvm.MethodName))).before a0 Z = true := hw _ (List.mem_of_getElem? (i := 99) rfl)
theorem t100 {Z : State} {a0 : Array Value} (hw : Tw Z a0) : ((Jvm.Cond.arrayClass Jvm.ClassFile.FieldType.long)).before a0 Z = true := hw _ (List.mem_of_getElem? (i := 100) rfl)
theorem t101 {Z : State} {a0 : Array Value} (hw : Tw Z a0) : ((Jvm.Cond.fieldLink "com/example/ryazan/ryazan/statespace/StateStore" (7 : Nat) "com/example/ryazan/ryazan/statespace/StateStore" "packed" "[J")).before a0 Z = true := hw _ (List.mem_of_getElem? (i := 101) rfl)
theorem t102 {Z : State} {a0 : Array Value} (hw : Tw Z a0) : ((Jvm.Cond.lays "com/example/ryazan/ryazan/statespace/StateStore" "com/example/ryazan/ryazan/statespace/StateStore" "packed" "[J")).before a0 Z = true := hw _ (List.mem_of_getElem? (i := 102) rfl)
theorem t103 {Z : State} {a0 : Array Value} (hw : Tw Z a0) : ((Jvm.Cond.fieldLink "com/example/ryazan/ryazan/statespace/StateStore" (13 : Nat) "com/example/ryazan/ryazan/statespace/StateStore" "slotBits" "I")).before a0 Z = true := hw _ (List.mem_of_getElem? (i := 103) rfl)
theorem t104 {Z : State} {a0 : Array Value} (hw : Tw Z a0) : ((Jvm.Cond.lays "com/example/ryazan/ryazan/statespace/StateStore" "com/example/ryazan/ryazan/statespace/StateStore" "slotBits" "I")).before a0 Z = true := hw _ (List.mem_of_getElem? (i := 104) rfl)
theorem t105 {Z : State} {a0 : Array Value} (hw : Tw Z a0) : ((Jvm.Cond.methodLink "com/example/ryazan/ryazan/statespace/StateStore" (17 : Nat) ({ cls := "com/example/ryazan/ryazan/statespace/StateStore", name := "emptyTable", desc := "(I)[I" } : Jvm.MethodName))).before a0 Z = true := hw _ (List.mem_of_getElem? (i := 105) rfl)
theorem t106 {Z : State} {a0 : Array Value} (hw : Tw Z a0) : ((Jvm.Cond.static ({ cls := "com/example/ryazan/ryazan/statespace/StateStore", name := "emptyTable", desc := "(I)[I" } : Jvm.MethodName))).before a0 Z = true := hw _ (List.mem_of_getElem? (i := 106) rfl)
theorem t107 {Z : State} {a0 : Array Value} (hw : Tw Z a0) : ((Jvm.Cond.code ({ cls := "com/example/ryazan/ryazan/statespace/StateStore", name := "emptyTable", desc := "(I)[I" } : Jvm.MethodName) prog_197_method_24_code (2 : Nat) (Option.some (Jvm.ClassFile.FieldType.array Jvm.ClassFile.FieldType.int)))).before a0 Z = true := hw _ (List.mem_of_getElem? (i := 107) rfl)
theorem t108 {Z : State} {a0 : Array Value} (hw : Tw Z a0) : ((Jvm.Cond.methodLink "com/example/ryazan/ryazan/statespace/StateStore" (152 : Nat) ({ cls := "java/lang/Math", name := "toIntExact", desc := "(J)I" } : Jvm.MethodName))).before a0 Z = true := hw _ (List.mem_of_getElem? (i := 108) rfl)
theorem t109 {Z : State} {a0 : Array Value} (hw : Tw Z a0) : ((Jvm.Cond.static ({ cls := "java/lang/Math", name := "toIntExact", desc := "(J)I" } : Jvm.MethodName))).before a0 Z = true := hw _ (List.mem_of_getElem? (i := 109) rfl)
theorem t110 {Z : State} {a0 : Array Value} (hw : Tw Z a0) : ((Jvm.Cond.code ({ cls := "java/lang/Math", name := "toIntExact", desc := "(J)I" } : Jvm.MethodName) jdk_29_method_43_code (2 : Nat) (Option.some Jvm.ClassFile.FieldType.int))).before a0 Z = true := hw _ (List.mem_of_getElem? (i := 110) rfl)
theorem t111 {Z : State} {a0 : Array Value} (hw : Tw Z a0) : ((Jvm.Cond.arrayClass Jvm.ClassFile.FieldType.int)).before a0 Z = true := hw _ (List.mem_of_getElem? (i := 111) rfl)
theorem t112 {Z : State} {a0 : Array Value} (hw : Tw Z a0) : ((Jvm.Cond.methodLink "com/example/ryazan/ryazan/statespace/StateStore" (155 : Nat) ({ cls := "java/util/Arrays", name := "fill", desc := "([II)V" } : Jvm.MethodName))).before a0 Z = true := hw _ (List.mem_of_getElem? (i := 112) rfl)
theorem t113 {Z : State} {a0 : Array Value} (hw : Tw Z a0) : ((Jvm.Cond.static ({ cls := "java/util/Arrays", name := "fill", desc := "([II)V" } : Jvm.MethodName))).before a0 Z = true := hw _ (List.mem_of_getElem? (i := 113) rfl)
theorem t114 {Z : State} {a0 : Array Value} (hw : Tw Z a0) : ((Jvm.Cond.initialized "java/util/Arrays")).before a0 Z = true := hw _ (List.mem_of_getElem? (i := 114) rfl)
theorem t115 {Z : State} {a0 : Array Value} (hw : Tw Z a0) : ((Jvm.Cond.code ({ cls := "java/util/Arrays", name := "fill", desc := "([II)V" } : Jvm.MethodName) jdk_65_method_103_code (4 : Nat) (Option.none : Option Jvm.ClassFile.FieldType))).before a0 Z = true := hw _ (List.mem_of_getElem? (i := 115) rfl)
theorem t116 {Z : State} {a0 : Array Value} (hw : Tw Z a0) : ((Jvm.Cond.fieldLink "com/example/ryazan/ryazan/statespace/StateStore" (21 : Nat) "com/example/ryazan/ryazan/statespace/StateStore" "table" "[I")).before a0 Z = true := hw _ (List.mem_of_getElem? (i := 116) rfl)
theorem t117 {Z : State} {a0 : Array Value} (hw : Tw Z a0) : ((Jvm.Cond.lays "com/example/ryazan/ryazan/statespace/StateStore" "com/example/ryazan/ryazan/statespace/StateStore" "table" "[I")).before a0 Z = true := hw _ (List.mem_of_getElem? (i := 117) rfl)
theorem t118 {Z : State} {a0 : Array Value} (hw : Tw Z a0) : ((Jvm.Cond.fieldLink "com/example/ryazan/ryazan/statespace/StateStore" (25 : Nat) "com/example/ryazan/ryazan/statespace/StateStore" "hashes" "[I")).before a0 Z = true := hw _ (List.mem_of_getElem? (i := 118) rfl)
theorem t119 {Z : State} {a0 : Array Value} (hw : Tw Z a0) : ((Jvm.Cond.lays "com/example/ryazan/ryazan/statespace/StateStore" "com/example/ryazan/ryazan/statespace/StateStore" "hashes" "[I")).before a0 Z = true := hw _ (List.mem_of_getElem? (i := 119) rfl)
theorem t120 {Z : State} {a0 : Array Value} (hw : Tw Z a0) : ((Jvm.Cond.methodLink "com/example/ryazan/ryazan/statespace/StateStore" (28 : Nat) ({ cls := "java/util/List", name := "size", desc := "()I" } : Jvm.MethodName))).before a0 Z = true := hw _ (List.mem_of_getElem? (i := 120) rfl)
theorem t121 {Z : State} {a0 : Array Value} (hw : Tw Z a0) : ((Jvm.Cond.declares ({ cls := "java/util/List", name := "size", desc := "()I" } : Jvm.MethodName))).before a0 Z = true := hw _ (List.mem_of_getElem? (i := 121) rfl)
theorem t122 {Z : State} {a0 : Array Value} (hw : Tw Z a0) : ((Jvm.Cond.interfaceMethod "java/util/List" "java/util/List" "size" "()I")).before a0 Z = true := hw _ (List.mem_of_getElem? (i := 122) rfl)
theorem t123 {Z : State} {a0 : Array Value} (hw : Tw Z a0) : ((Jvm.Cond.selects "java/util/ArrayList" ({ cls := "java/util/List", name := "size", desc := "()I" } : Jvm.MethodName) ({ cls := "java/util/ArrayList", name := "size", desc := "()I" } : Jvm.MethodName))).before a0 Z = true := hw _ (List.mem_of_getElem? (i := 123) rfl)
theorem t124 {Z : State} {a0 : Array Value} (hw : Tw Z a0) : ((Jvm.Cond.instanceMethod ({ cls := "java/util/ArrayList", name := "size", desc := "()I" } : Jvm.MethodName))).before a0 Z = true := hw _ (List.mem_of_getElem? (i := 124) rfl)
theorem t125 {Z : State} {a0 : Array Value} (hw : Tw Z a0) : ((Jvm.Cond.publicMethod ({ cls := "java/util/ArrayList", name := "size", desc := "()I" } : Jvm.MethodName))).before a0 Z = true := hw _ (List.mem_of_getElem? (i := 125) rfl)
theorem t126 {Z : State} {a0 : Array Value} (hw : Tw Z a0) : ((Jvm.Cond.unhidden "java/util/ArrayList" "size" "()I")).before a0 Z = true := hw _ (List.mem_of_getElem? (i := 126) rfl)
theorem t127 {Z : State} {a0 : Array Value} (hw : Tw Z a0) : ((Jvm.Cond.castable "java/util/ArrayList" "java/util/List")).before a0 Z = true := hw _ (List.mem_of_getElem? (i := 127) rfl)
theorem t128 {Z : State} {a0 : Array Value} (hw : Tw Z a0) : ((Jvm.Cond.code ({ cls := "java/util/ArrayList", name := "size", desc := "()I" } : Jvm.MethodName) jdk_38_method_8_code (1 : Nat) (Option.some Jvm.ClassFile.FieldType.int))).before a0 Z = true := hw _ (List.mem_of_getElem? (i := 128) rfl)
theorem t129 {Z : State} {a0 : Array Value} (hw : Tw Z a0) : ((Jvm.Cond.fieldLink "com/example/ryazan/ryazan/statespace/StateStore" (34 : Nat) "com/example/ryazan/ryazan/statespace/StateStore" "lows" "[I")).before a0 Z = true := hw _ (List.mem_of_getElem? (i := 129) rfl)
theorem t130 {Z : State} {a0 : Array Value} (hw : Tw Z a0) : ((Jvm.Cond.laysFinal "com/example/ryazan/ryazan/statespace/StateStore" "com/example/ryazan/ryazan/statespace/StateStore" "lows" "[I")).before a0 Z = true := hw _ (List.mem_of_getElem? (i := 130) rfl)
theorem t131 {Z : State} {a0 : Array Value} (hw : Tw Z a0) : ((Jvm.Cond.fieldLink "com/example/ryazan/ryazan/statespace/StateStore" (37 : Nat) "com/example/ryazan/ryazan/statespace/StateStore" "words" "[I")).before a0 Z = true := hw _ (List.mem_of_getElem? (i := 131) rfl)
theorem t132 {Z : State} {a0 : Array Value} (hw : Tw Z a0) : ((Jvm.Cond.laysFinal "com/example/ryazan/ryazan/statespace/StateStore" "com/example/ryazan/ryazan/statespace/StateStore" "words" "[I")).before a0 Z = true := hw _ (List.mem_of_getElem? (i := 132) rfl)
theorem t133 {Z : State} {a0 : Array Value} (hw : Tw Z a0) : ((Jvm.Cond.fieldLink "com/example/ryazan/ryazan/statespace/StateStore" (40 : Nat) "com/example/ryazan/ryazan/statespace/StateStore" "shifts" "[I")).before a0 Z = true := hw _ (List.mem_of_getElem? (i := 133) rfl)
theorem t134 {Z : State} {a0 : Array Value} (hw : Tw Z a0) : ((Jvm.Cond.laysFinal "com/example/ryazan/ryazan/statespace/StateStore" "com/example/ryazan/ryazan/statespace/StateStore" "shifts" "[I")).before a0 Z = true := hw _ (List.mem_of_getElem? (i := 134) rfl)
theorem t135 {Z : State} {a0 : Array Value} (hw : Tw Z a0) : ((Jvm.Cond.fieldLink "com/example/ryazan/ryazan/statespace/StateStore" (43 : Nat) "com/example/ryazan/ryazan/statespace/StateStore" "masks" "[J")).before a0 Z = true := hw _ (List.mem_of_getElem? (i := 135) rfl)
theorem t136 {Z : State} {a0 : Array Value} (hw : Tw Z a0) : ((Jvm.Cond.laysFinal "com/example/ryazan/ryazan/statespace/StateStore" "com/example/ryazan/ryazan/statespace/StateStore" "masks" "[J")).before a0 Z = true := hw _ (List.mem_of_getElem? (i := 136) rfl)
theorem t137 {Z : State} {a0 : Array Value} (hw : Tw Z a0) : ((Jvm.Cond.methodLink "com/example/ryazan/ryazan/statespace/StateStore" (46 : Nat) ({ cls := "java/util/List", name := "get", desc := "(I)Ljava/lang/Object;" } : Jvm.MethodName))).before a0 Z = true := hw _ (List.mem_of_getElem? (i := 137) rfl)
theorem t138 {Z : State} {a0 : Array Value} (hw : Tw Z a0) : ((Jvm.Cond.declares ({ cls := "java/util/List", name := "get", desc := "(I)Ljava/lang/Object;" } : Jvm.MethodName))).before a0 Z = true := hw _ (List.mem_of_getElem? (i := 138) rfl)
theorem t139 {Z : State} {a0 : Array Value} (hw : Tw Z a0) : ((Jvm.Cond.interfaceMethod "java/util/List" "java/util/List" "get" "(I)Ljava/lang/Object;")).before a0 Z = true := hw _ (List.mem_of_getElem? (i := 139) rfl)
theorem t140 {Z : State} {a0 : Array Value} (hw : Tw Z a0) : ((Jvm.Cond.selects "java/util/ArrayList" ({ cls := "java/util/List", name := "get", desc := "(I)Ljava/lang/Object;" } : Jvm.MethodName) ({ cls := "java/util/ArrayList", name := "get", desc := "(I)Ljava/lang/Object;" } : Jvm.MethodName))).before a0 Z = true := hw _ (List.mem_of_getElem? (i := 140) rfl)
theorem t141 {Z : State} {a0 : Array Value} (hw : Tw Z a0) : ((Jvm.Cond.instanceMethod ({ cls := "java/util/ArrayList", name := "get", desc := "(I)Ljava/lang/Object;" } : Jvm.MethodName))).before a0 Z = true := hw _ (List.mem_of_getElem? (i := 141) rfl)
theorem t142 {Z : State} {a0 : Array Value} (hw : Tw Z a0) : ((Jvm.Cond.publicMethod ({ cls := "java/util/ArrayList", name := "get", desc := "(I)Ljava/lang/Object;" } : Jvm.MethodName))).before a0 Z = true := hw _ (List.mem_of_getElem? (i := 142) rfl)
theorem t143 {Z : State} {a0 : Array Value} (hw : Tw Z a0) : ((Jvm.Cond.unhidden "java/util/ArrayList" "get" "(I)Ljava/lang/Object;")).before a0 Z = true := hw _ (List.mem_of_getElem? (i := 143) rfl)
theorem t144 {Z : State} {a0 : Array Value} (hw : Tw Z a0) : ((Jvm.Cond.code ({ cls := "java/util/ArrayList", name := "get", desc := "(I)Ljava/lang/Object;" } : Jvm.MethodName) jdk_38_method_20_code (2 : Nat) (Option.some (Jvm.ClassFile.FieldType.object "java/lang/Object")))).before a0 Z = true := hw _ (List.mem_of_getElem? (i := 144) rfl)
theorem t145 {Z : State} {a0 : Array Value} (hw : Tw Z a0) : ((Jvm.Cond.methodLink "java/util/ArrayList" (118 : Nat) ({ cls := "java/util/Objects", name := "checkIndex", desc := "(II)I" } : Jvm.MethodName))).before a0 Z = true := hw _ (List.mem_of_getElem? (i := 145) rfl)
theorem t146 {Z : State} {a0 : Array Value} (hw : Tw Z a0) : ((Jvm.Cond.static ({ cls := "java/util/Objects", name := "checkIndex", desc := "(II)I" } : Jvm.MethodName))).before a0 Z = true := hw _ (List.mem_of_getElem? (i := 146) rfl)
theorem t147 {Z : State} {a0 : Array Value} (hw : Tw Z a0) : ((Jvm.Cond.initialized "java/util/Objects")).before a0 Z = true := hw _ (List.mem_of_getElem? (i := 147) rfl)
theorem t148 {Z : State} {a0 : Array Value} (hw : Tw Z a0) : ((Jvm.Cond.code ({ cls := "java/util/Objects", name := "checkIndex", desc := "(II)I" } : Jvm.MethodName) jdk_31_method_17_code (2 : Nat) (Option.some Jvm.ClassFile.FieldType.int))).before a0 Z = true := hw _ (List.mem_of_getElem? (i := 148) rfl)
theorem t149 {Z : State} {a0 : Array Value} (hw : Tw Z a0) : ((Jvm.Cond.methodLink "java/util/Objects" (105 : Nat) ({ cls := "jdk/internal/util/Preconditions", name := "checkIndex", desc := "(IILjava/util/function/BiFunction;)I" } : Jvm.MethodName))).before a0 Z = true := hw _ (List.mem_of_getElem? (i := 149) rfl)
theorem t150 {Z : State} {a0 : Array Value} (hw : Tw Z a0) : ((Jvm.Cond.static ({ cls := "jdk/internal/util/Preconditions", name := "checkIndex", desc := "(IILjava/util/function/BiFunction;)I" } : Jvm.MethodName))).before a0 Z = true := hw _ (List.mem_of_getElem? (i := 150) rfl)
theorem t151 {Z : State} {a0 : Array Value} (hw : Tw Z a0) : ((Jvm.Cond.initialized "jdk/internal/util/Preconditions")).before a0 Z = true := hw _ (List.mem_of_getElem? (i := 151) rfl)
theorem t152 {Z : State} {a0 : Array Value} (hw : Tw Z a0) : ((Jvm.Cond.code ({ cls := "jdk/internal/util/Preconditions", name := "checkIndex", desc := "(IILjava/util/function/BiFunction;)I" } : Jvm.MethodName) jdk_41_method_11_code (3 : Nat) (Option.some Jvm.ClassFile.FieldType.int))).before a0 Z = true := hw _ (List.mem_of_getElem? (i := 152) rfl)
theorem t153 {Z : State} {a0 : Array Value} (hw : Tw Z a0) : ((Jvm.Cond.methodLink "java/util/ArrayList" (123 : Nat) ({ cls := "java/util/ArrayList", name := "elementData", desc := "(I)Ljava/lang/Object;" } : Jvm.MethodName))).before a0 Z = true := hw _ (List.mem_of_getElem? (i := 153) rfl)
theorem t154 {Z : State} {a0 : Array Value} (hw : Tw Z a0) : ((Jvm.Cond.declares ({ cls := "java/util/ArrayList", name := "elementData", desc := "(I)Ljava/lang/Object;" } : Jvm.MethodName))).before a0 Z = true := hw _ (List.mem_of_getElem? (i := 154) rfl)
theorem t155 {Z : State} {a0 : Array Value} (hw : Tw Z a0) : ((Jvm.Cond.instanceMethod ({ cls := "java/util/ArrayList", name := "elementData", desc := "(I)Ljava/lang/Object;" } : Jvm.MethodName))).before a0 Z = true := hw _ (List.mem_of_getElem? (i := 155) rfl)
theorem t156 {Z : State} {a0 : Array Value} (hw : Tw Z a0) : ((Jvm.Cond.selects "java/util/ArrayList" ({ cls := "java/util/ArrayList", name := "elementData", desc := "(I)Ljava/lang/Object;" } : Jvm.MethodName) ({ cls := "java/util/ArrayList", name := "elementData", desc := "(I)Ljava/lang/Object;" } : Jvm.MethodName))).before a0 Z = true := hw _ (List.mem_of_getElem? (i := 156) rfl)
theorem t157 {Z : State} {a0 : Array Value} (hw : Tw Z a0) : ((Jvm.Cond.code ({ cls := "java/util/ArrayList", name := "elementData", desc := "(I)Ljava/lang/Object;" } : Jvm.MethodName) jdk_38_method_18_code (2 : Nat) (Option.some (Jvm.ClassFile.FieldType.object "java/lang/Object")))).before a0 Z = true := hw _ (List.mem_of_getElem? (i := 157) rfl)
theorem t158 {Z : State} {a0 : Array Value} (hw : Tw Z a0) : ((Jvm.Cond.classLink "com/example/ryazan/ryazan/statespace/StateStore" (50 : Nat) "com/example/ryazan/ryazan/model/Model$Variable")).before a0 Z = true := hw _ (List.mem_of_getElem? (i := 158) rfl)
theorem t160 {Z : State} {a0 : Array Value} (hw : Tw Z a0) : ((Jvm.Cond.methodLink "com/example/ryazan/ryazan/statespace/StateStore" (52 : Nat) ({ cls := "com/example/ryazan/ryazan/model/Model$Variable", name := "high", desc := "()I" } : Jvm.MethodName))).before a0 Z = true := hw _ (List.mem_of_getElem? (i := 160) rfl)
theorem t161 {Z : State} {a0 : Array Value} (hw : Tw Z a0) : ((Jvm.Cond.declares ({ cls := "com/example/ryazan/ryazan/model/Model$Variable", name := "high", desc := "()I" } : Jvm.MethodName))).before a0 Z = true := hw _ (List.mem_of_getElem? (i := 161) rfl)
theorem t162 {Z : State} {a0 : Array Value} (hw : Tw Z a0) : ((Jvm.Cond.instanceMethod ({ cls := "com/example/ryazan/ryazan/model/Model$Variable", name := "high", desc := "()I" } : Jvm.MethodName))).before a0 Z = true := hw _ (List.mem_of_getElem? (i := 162) rfl)
theorem t163 {Z : State} {a0 : Array Value} (hw : Tw Z a0) : ((Jvm.Cond.selects "com/example/ryazan/ryazan/model/Model$Variable" ({ cls := "com/example/ryazan/ryazan/model/Model$Variable", name := "high", desc := "()I" } : Jvm.MethodName) ({ cls := "com/example/ryazan/ryazan/model/Model$Variable", name := "high", desc := "()I" } : Jvm.MethodName))).before a0 Z = true := hw _ (List.mem_of_getElem? (i := 163) rfl)
theorem t164 {Z : State} {a0 : Array Value} (hw : Tw Z a0) : ((Jvm.Cond.code ({ cls := "com/example/ryazan/ryazan/model/Model$Variable", name := "high", desc := "()I" } : Jvm.MethodName) prog_172_method_10_code (1 : Nat) (Option.some Jvm.ClassFile.FieldType.int))).before a0 Z = true := hw _ (List.mem_of_getElem? (i := 164) rfl)
theorem t165 {Z : State} {a0 : Array Value} (hw : Tw Z a0) : ((Jvm.Cond.methodLink "com/example/ryazan/ryazan/statespace/StateStore" (55 : Nat) ({ cls := "com/example/ryazan/ryazan/model/Model$Variable", name := "low", desc := "()I" } : Jvm.MethodName))).before a0 Z = true := hw _ (List.mem_of_getElem? (i := 165) rfl)
theorem t166 {Z : State} {a0 : Array Value} (hw : Tw Z a0) : ((Jvm.Cond.declares ({ cls := "com/example/ryazan/ryazan/model/Model$Variable", name := "low", desc := "()I" } : Jvm.MethodName))).before a0 Z = true := hw _ (List.mem_of_getElem? (i := 166) rfl)
theorem t167 {Z : State} {a0 : Array Value} (hw : Tw Z a0) : ((Jvm.Cond.instanceMethod ({ cls := "com/example/ryazan/ryazan/model/Model$Variable", name := "low", desc := "()I" } : Jvm.MethodName))).before a0 Z = true := hw _ (List.mem_of_getElem? (i := 167) rfl)
theorem t168 {Z : State} {a0 : Array Value} (hw : Tw Z a0) : ((Jvm.Cond.selects "com/example/ryazan/ryazan/model/Model$Variable" ({ cls := "com/example/ryazan/ryazan/model/Model$Variable", name := "low", desc := "()I" } : Jvm.MethodName) ({ cls := "com/example/ryazan/ryazan/model/Model$Variable", name := "low", desc := "()I" } : Jvm.MethodName))).before a0 Z = true := hw _ (List.mem_of_getElem? (i := 168) rfl)
theorem t169 {Z : State} {a0 : Array Value} (hw : Tw Z a0) : ((Jvm.Cond.code ({ cls := "com/example/ryazan/ryazan/model/Model$Variable", name := "low", desc := "()I" } : Jvm.MethodName) prog_172_method_9_code (1 : Nat) (Option.some Jvm.ClassFile.FieldType.int))).before a0 Z = true := hw _ (List.mem_of_getElem? (i := 169) rfl)
theorem t170 {Z : State} {a0 : Array Value} (hw : Tw Z a0) : ((Jvm.Cond.methodLink "com/example/ryazan/ryazan/statespace/StateStore" (58 : Nat) ({ cls := "java/lang/Long", name := "numberOfLeadingZeros", desc := "(J)I" } : Jvm.MethodName))).before a0 Z = true := hw _ (List.mem_of_getElem? (i := 170) rfl)
theorem t171 {Z : State} {a0 : Array Value} (hw : Tw Z a0) : ((Jvm.Cond.static ({ cls := "java/lang/Long", name := "numberOfLeadingZeros", desc := "(J)I" } : Jvm.MethodName))).before a0 Z = true := hw _ (List.mem_of_getElem? (i := 171) rfl)
theorem t172 {Z : State} {a0 : Array Value} (hw : Tw Z a0) : ((Jvm.Cond.initialized "java/lang/Long")).before a0 Z = true := hw _ (List.mem_of_getElem? (i := 172) rfl)
theorem t173 {Z : State} {a0 : Array Value} (hw : Tw Z a0) : ((Jvm.Cond.code ({ cls := "java/lang/Long", name := "numberOfLeadingZeros", desc := "(J)I" } : Jvm.MethodName) jdk_35_method_48_code (3 : Nat) (Option.some Jvm.ClassFile.FieldType.int))).before a0 Z = true := hw _ (List.mem_of_getElem? (i := 173) rfl)
theorem t174 {Z : State} {a0 : Array Value} (hw : Tw Z a0) : ((Jvm.Cond.methodLink "java/lang/Long" (308 : Nat) ({ cls := "java/lang/Integer", name := "numberOfLeadingZeros", desc := "(I)I" } : Jvm.MethodName))).before a0 Z = true := hw _ (List.mem_of_getElem? (i := 174) rfl)
theorem t175 {Z : State} {a0 : Array Value} (hw : Tw Z a0) : ((Jvm.Cond.static ({ cls := "java/lang/Integer", name := "numberOfLeadingZeros", desc := "(I)I" } : Jvm.MethodName))).before a0 Z = true := hw _ (List.mem_of_getElem? (i := 175) rfl)
theorem t176 {Z : State} {a0 : Array Value} (hw : Tw Z a0) : ((Jvm.Cond.initialized "java/lang/Integer")).before a0 Z = true := hw _ (List.mem_of_getElem? (i := 176) rfl)
theorem t177 {Z : State} {a0 : Array Value} (hw : Tw Z a0) : ((Jvm.Cond.code ({ cls := "java/lang/Integer", name := "numberOfLeadingZeros", desc := "(I)I" } : Jvm.MethodName) jdk_33_method_47_code (2 : Nat) (Option.some Jvm.ClassFile.FieldType.int))).before a0 Z = true := hw _ (List.mem_of_getElem? (i := 177) rfl)
theorem t178 {Z : State} {a0 : Array Value} (hw : Tw Z a0) : ((Jvm.Cond.constant "java/lang/Integer" (264 : Nat) (65536 : Int32))).before a0 Z = true := hw _ (List.mem_of_getElem? (i := 178) rfl)
theorem t179 {Z : State} {a0 : Array Value} (hw : Tw Z a0) : ((Jvm.Cond.fieldLink "com/example/ryazan/ryazan/statespace/StateStore" (64 : Nat) "com/example/ryazan/ryazan/statespace/StateStore" "wordsPerState" "I")).before a0 Z = true := hw _ (List.mem_of_getElem? (i := 179) rfl)
theorem t180 {Z : State} {a0 : Array Value} (hw : Tw Z a0) : ((Jvm.Cond.laysFinal "com/example/ryazan/ryazan/statespace/StateStore" "com/example/ryazan/ryazan/statespace/StateStore" "wordsPerState" "I")).before a0 Z = true := hw _ (List.mem_of_getElem? (i := 180) rfl)
theorem t181 {Z : State} {a0 : Array Value} (hw : Tw Z a0) : ((Jvm.Cond.fieldLink "com/example/ryazan/ryazan/statespace/StateStore" (67 : Nat) "com/example/ryazan/ryazan/statespace/StateStore" "key" "[J")).before a0 Z = true := hw _ (List.mem_of_getElem? (i := 181) rfl)
theorem t182 {Z : State} {a0 : Array Value} (hw : Tw Z a0) : ((Jvm.Cond.laysFinal "com/example/ryazan/ryazan/statespace/StateStore" "com/example/ryazan/ryazan/statespace/StateStore" "key" "[J")).before a0 Z = true := hw _ (List.mem_of_getElem? (i := 182) rfl)
theorem t183 {Z : State} {a0 : Array Value} (hw : Tw Z a0) : ((Jvm.Cond.methodLink "com/example/ryazan/ryazan/statespace/StateStoreSetPinLaw" (45 : Nat) ({ cls := "com/example/ryazan/ryazan/statespace/StateStoreSetPinLaw", name := "within", desc := "(IIJ)I" } : Jvm.MethodName))).before a0 Z = true := hw _ (List.mem_of_getElem? (i := 183) rfl)
theorem t184 {Z : State} {a0 : Array Value} (hw : Tw Z a0) : ((Jvm.Cond.static ({ cls := "com/example/ryazan/ryazan/statespace/StateStoreSetPinLaw", name := "within", desc := "(IIJ)I" } : Jvm.MethodName))).before a0 Z = true := hw _ (List.mem_of_getElem? (i := 184) rfl)
theorem t185 {Z : State} {a0 : Array Value} (hw : Tw Z a0) : ((Jvm.Cond.code ({ cls := "com/example/ryazan/ryazan/statespace/StateStoreSetPinLaw", name := "within", desc := "(IIJ)I" } : Jvm.MethodName) method_4_code (6 : Nat) (Option.some Jvm.ClassFile.FieldType.int))).before a0 Z = true := hw _ (List.mem_of_getElem? (i := 185) rfl)
theorem t186 {Z : State} {a0 : Array Value} (hw : Tw Z a0) : ((Jvm.Cond.methodLink "com/example/ryazan/ryazan/statespace/StateStoreSetPinLaw" (49 : Nat) ({ cls := "com/example/ryazan/ryazan/statespace/StateStore", name := "add", desc := "([I)I" } : Jvm.MethodName))).before a0 Z = true := hw _ (List.mem_of_getElem? (i := 186) rfl)
theorem t187 {Z : State} {a0 : Array Value} (hw : Tw Z a0) : ((Jvm.Cond.declares ({ cls := "com/example/ryazan/ryazan/statespace/StateStore", name := "add", desc := "([I)I" } : Jvm.MethodName))).before a0 Z = true := hw _ (List.mem_of_getElem? (i := 187) rfl)
theorem t188 {Z : State} {a0 : Array Value} (hw : Tw Z a0) : ((Jvm.Cond.instanceMethod ({ cls := "com/example/ryazan/ryazan/statespace/StateStore", name := "add", desc := "([I)I" } : Jvm.MethodName))).before a0 Z = true := hw _ (List.mem_of_getElem? (i := 188) rfl)
theorem t189 {Z : State} {a0 : Array Value} (hw : Tw Z a0) : ((Jvm.Cond.selects "com/example/ryazan/ryazan/statespace/StateStore" ({ cls := "com/example/ryazan/ryazan/statespace/StateStore", name := "add", desc := "([I)I" } : Jvm.MethodName) ({ cls := "com/example/ryazan/ryazan/statespace/StateStore", name := "add", desc := "([I)I" } : Jvm.MethodName))).before a0 Z = true := hw _ (List.mem_of_getElem? (i := 189) rfl)
theorem t190 {Z : State} {a0 : Array Value} (hw : Tw Z a0) : ((Jvm.Cond.code ({ cls := "com/example/ryazan/ryazan/statespace/StateStore", name := "add", desc := "([I)I" } : Jvm.MethodName) prog_197_method_5_code (2 : Nat) (Option.some Jvm.ClassFile.FieldType.int))).before a0 Z = true := hw _ (List.mem_of_getElem? (i := 190) rfl)
theorem t191 {Z : State} {a0 : Array Value} (hw : Tw Z a0) : ((Jvm.Cond.methodLink "com/example/ryazan/ryazan/statespace/StateStore" (72 : Nat) ({ cls := "com/example/ryazan/ryazan/statespace/StateStore", name := "placeAgain", desc := "()V" } : Jvm.MethodName))).before a0 Z = true := hw _ (List.mem_of_getElem? (i := 191) rfl)
theorem t192 {Z : State} {a0 : Array Value} (hw : Tw Z a0) : ((Jvm.Cond.instanceMethod ({ cls := "com/example/ryazan/ryazan/statespace/StateStore", name := "placeAgain", desc := "()V" } : Jvm.MethodName))).before a0 Z = true := hw _ (List.mem_of_getElem? (i := 192) rfl)
theorem t193 {Z : State} {a0 : Array Value} (hw : Tw Z a0) : ((Jvm.Cond.privateMethod ({ cls := "com/example/ryazan/ryazan/statespace/StateStore", name := "placeAgain", desc := "()V" } : Jvm.MethodName))).before a0 Z = true := hw _ (List.mem_of_getElem? (i := 193) rfl)
theorem t194 {Z : State} {a0 : Array Value} (hw : Tw Z a0) : ((Jvm.Cond.code ({ cls := "com/example/ryazan/ryazan/statespace/StateStore", name := "placeAgain", desc := "()V" } : Jvm.MethodName) prog_197_method_9_code (1 : Nat) (Option.none : Option Jvm.ClassFile.FieldType))).before a0 Z = true := hw _ (List.mem_of_getElem? (i := 194) rfl)
theorem t195 {Z : State} {a0 : Array Value} (hw : Tw Z a0) : ((Jvm.Cond.methodLink "com/example/ryazan/ryazan/statespace/StateStore" (75 : Nat) ({ cls := "com/example/ryazan/ryazan/statespace/StateStore", name := "pack", desc := "([I)V" } : Jvm.MethodName))).before a0 Z = true := hw _ (List.mem_of_getElem? (i := 195) rfl)
theorem t196 {Z : State} {a0 : Array Value} (hw : Tw Z a0) : ((Jvm.Cond.instanceMethod ({ cls := "com/example/ryazan/ryazan/statespace/StateStore", name := "pack", desc := "([I)V" } : Jvm.MethodName))).before a0 Z = true := hw _ (List.mem_of_getElem? (i := 196) rfl)
theorem t197 {Z : State} {a0 : Array Value} (hw : Tw Z a0) : ((Jvm.Cond.privateMethod ({ cls := "com/example/ryazan/ryazan/statespace/StateStore", name := "pack", desc := "([I)V" } : Jvm.MethodName))).before a0 Z = true := hw _ (List.mem_of_getElem? (i := 197) rfl)
theorem t198 {Z : State} {a0 : Array Value} (hw : Tw Z a0) : ((Jvm.Cond.code ({ cls := "com/example/ryazan/ryazan/statespace/StateStore", name := "pack", desc := "([I)V" } : Jvm.MethodName) prog_197_method_13_code (3 : Nat) (Option.none : Option Jvm.ClassFile.FieldType))).before a0 Z = true := hw _ (List.mem_of_getElem? (i := 198) rfl)
theorem t199 {Z : State} {a0 : Array Value} (hw : Tw Z a0) : ((Jvm.Cond.methodLink "com/example/ryazan/ryazan/statespace/StateStore" (124 : Nat) ({ cls := "java/util/Arrays", name := "fill", desc := "([JJ)V" } : Jvm.MethodName))).before a0 Z = true := hw _ (List.mem_of_getElem? (i := 199) rfl)
theorem t200 {Z : State} {a0 : Array Value} (hw : Tw Z a0) : ((Jvm.Cond.static ({ cls := "java/util/Arrays", name := "fill", desc := "([JJ)V" } : Jvm.MethodName))).before a0 Z = true := hw _ (List.mem_of_getElem? (i := 200) rfl)
theorem t201 {Z : State} {a0 : Array Value} (hw : Tw Z a0) : ((Jvm.Cond.code ({ cls := "java/util/Arrays", name := "fill", desc := "([JJ)V" } : Jvm.MethodName) jdk_65_method_101_code (5 : Nat) (Option.none : Option Jvm.ClassFile.FieldType))).before a0 Z = true := hw _ (List.mem_of_getElem? (i := 201) rfl)
theorem t202 {Z : State} {a0 : Array Value} (hw : Tw Z a0) : ((Jvm.Cond.methodLink "com/example/ryazan/ryazan/statespace/StateStore" (79 : Nat) ({ cls := "com/example/ryazan/ryazan/statespace/StateStore", name := "hash", desc := "([JI)I" } : Jvm.MethodName))).before a0 Z = true := hw _ (List.mem_of_getElem? (i := 202) rfl)
theorem t203 {Z : State} {a0 : Array Value} (hw : Tw Z a0) : ((Jvm.Cond.declares ({ cls := "com/example/ryazan/ryazan/statespace/StateStore", name := "hash", desc := "([JI)I" } : Jvm.MethodName))).before a0 Z = true := hw _ (List.mem_of_getElem? (i := 203) rfl)
theorem t204 {Z : State} {a0 : Array Value} (hw : Tw Z a0) : ((Jvm.Cond.instanceMethod ({ cls := "com/example/ryazan/ryazan/statespace/StateStore", name := "hash", desc := "([JI)I" } : Jvm.MethodName))).before a0 Z = true := hw _ (List.mem_of_getElem? (i := 204) rfl)
theorem t205 {Z : State} {a0 : Array Value} (hw : Tw Z a0) : ((Jvm.Cond.selects "com/example/ryazan/ryazan/statespace/StateStore" ({ cls := "com/example/ryazan/ryazan/statespace/StateStore", name := "hash", desc := "([JI)I" } : Jvm.MethodName) ({ cls := "com/example/ryazan/ryazan/statespace/StateStore", name := "hash", desc := "([JI)I" } : Jvm.MethodName))).before a0 Z = true := hw _ (List.mem_of_getElem? (i := 205) rfl)
theorem t206 {Z : State} {a0 : Array Value} (hw : Tw Z a0) : ((Jvm.Cond.code ({ cls := "com/example/ryazan/ryazan/statespace/StateStore", name := "hash", desc := "([JI)I" } : Jvm.MethodName) prog_197_method_25_code (6 : Nat) (Option.some Jvm.ClassFile.FieldType.int))).before a0 Z = true := hw _ (List.mem_of_getElem? (i := 206) rfl)
theorem t207 {Z : State} {a0 : Array Value} (hw : Tw Z a0) : ((Jvm.Cond.constantLong "com/example/ryazan/ryazan/statespace/StateStore" (158 : Nat) (-7046029254386353131 : Int64))).before a0 Z = true := hw _ (List.mem_of_getElem? (i := 207) rfl)
theorem t208 {Z : State} {a0 : Array Value} (hw : Tw Z a0) : ((Jvm.Cond.constantLong "com/example/ryazan/ryazan/statespace/StateStore" (160 : Nat) (-4658895280553007687 : Int64))).before a0 Z = true := hw _ (List.mem_of_getElem? (i := 208) rfl)
theorem t209 {Z : State} {a0 : Array Value} (hw : Tw Z a0) : ((Jvm.Cond.methodLink "com/example/ryazan/ryazan/statespace/StateStore" (83 : Nat) ({ cls := "com/example/ryazan/ryazan/statespace/StateStore", name := "add", desc := "([JII)I" } : Jvm.MethodName))).before a0 Z = true := hw _ (List.mem_of_getElem? (i := 209) rfl)
theorem t210 {Z : State} {a0 : Array Value} (hw : Tw Z a0) : ((Jvm.Cond.instanceMethod ({ cls := "com/example/ryazan/ryazan/statespace/StateStore", name := "add", desc := "([JII)I" } : Jvm.MethodName))).before a0 Z = true := hw _ (List.mem_of_getElem? (i := 210) rfl)
theorem t211 {Z : State} {a0 : Array Value} (hw : Tw Z a0) : ((Jvm.Cond.privateMethod ({ cls := "com/example/ryazan/ryazan/statespace/StateStore", name := "add", desc := "([JII)I" } : Jvm.MethodName))).before a0 Z = true := hw _ (List.mem_of_getElem? (i := 211) rfl)
theorem t212 {Z : State} {a0 : Array Value} (hw : Tw Z a0) : ((Jvm.Cond.code ({ cls := "com/example/ryazan/ryazan/statespace/StateStore", name := "add", desc := "([JII)I" } : Jvm.MethodName) prog_197_method_16_code (7 : Nat) (Option.some Jvm.ClassFile.FieldType.int))).before a0 Z = true := hw _ (List.mem_of_getElem? (i := 212) rfl)
theorem t213 {Z : State} {a0 : Array Value} (hw : Tw Z a0) : ((Jvm.Cond.methodLink "com/example/ryazan/ryazan/statespace/StateStore" (100 : Nat) ({ cls := "com/example/ryazan/ryazan/statespace/StateStore", name := "slot", desc := "([JII)I" } : Jvm.MethodName))).before a0 Z = true := hw _ (List.mem_of_getElem? (i := 213) rfl)
theorem t214 {Z : State} {a0 : Array Value} (hw : Tw Z a0) : ((Jvm.Cond.instanceMethod ({ cls := "com/example/ryazan/ryazan/statespace/StateStore", name := "slot", desc := "([JII)I" } : Jvm.MethodName))).before a0 Z = true := hw _ (List.mem_of_getElem? (i := 214) rfl)
theorem t215 {Z : State} {a0 : Array Value} (hw : Tw Z a0) : ((Jvm.Cond.privateMethod ({ cls := "com/example/ryazan/ryazan/statespace/StateStore", name := "slot", desc := "([JII)I" } : Jvm.MethodName))).before a0 Z = true := hw _ (List.mem_of_getElem? (i := 215) rfl)
theorem t216 {Z : State} {a0 : Array Value} (hw : Tw Z a0) : ((Jvm.Cond.code ({ cls := "com/example/ryazan/ryazan/statespace/StateStore", name := "slot", desc := "([JII)I" } : Jvm.MethodName) prog_197_method_17_code (6 : Nat) (Option.some Jvm.ClassFile.FieldType.int))).before a0 Z = true := hw _ (List.mem_of_getElem? (i := 216) rfl)
theorem t217 {Z : State} {a0 : Array Value} (hw : Tw Z a0) : ((Jvm.Cond.fieldLink "com/example/ryazan/ryazan/statespace/StateStore" (70 : Nat) "com/example/ryazan/ryazan/statespace/StateStore" "size" "I")).before a0 Z = true := hw _ (List.mem_of_getElem? (i := 217) rfl)
theorem t218 {Z : State} {a0 : Array Value} (hw : Tw Z a0) : ((Jvm.Cond.lays "com/example/ryazan/ryazan/statespace/StateStore" "com/example/ryazan/ryazan/statespace/StateStore" "size" "I")).before a0 Z = true := hw _ (List.mem_of_getElem? (i := 218) rfl)
theorem t219 {Z : State} {a0 : Array Value} (hw : Tw Z a0) : ((Jvm.Cond.methodLink "com/example/ryazan/ryazan/statespace/StateStore" (87 : Nat) ({ cls := "java/lang/Math", name := "multiplyExact", desc := "(II)I" } : Jvm.MethodName))).before a0 Z = true := hw _ (List.mem_of_getElem? (i := 219) rfl)
theorem t220 {Z : State} {a0 : Array Value} (hw : Tw Z a0) : ((Jvm.Cond.static ({ cls := "java/lang/Math", name := "multiplyExact", desc := "(II)I" } : Jvm.MethodName))).before a0 Z = true := hw _ (List.mem_of_getElem? (i := 220) rfl)
theorem t221 {Z : State} {a0 : Array Value} (hw : Tw Z a0) : ((Jvm.Cond.code ({ cls := "java/lang/Math", name := "multiplyExact", desc := "(II)I" } : Jvm.MethodName) jdk_29_method_28_code (4 : Nat) (Option.some Jvm.ClassFile.FieldType.int))).before a0 Z = true := hw _ (List.mem_of_getElem? (i := 221) rfl)
theorem t222 {Z : State} {a0 : Array Value} (hw : Tw Z a0) : ((Jvm.Cond.methodLink "com/example/ryazan/ryazan/statespace/StateStore" (93 : Nat) ({ cls := "java/lang/Math", name := "max", desc := "(II)I" } : Jvm.MethodName))).before a0 Z = true := hw _ (List.mem_of_getElem? (i := 222) rfl)
theorem t223 {Z : State} {a0 : Array Value} (hw : Tw Z a0) : ((Jvm.Cond.methodLink "com/example/ryazan/ryazan/statespace/StateStore" (107 : Nat) ({ cls := "java/util/Arrays", name := "copyOf", desc := "([JI)[J" } : Jvm.MethodName))).before a0 Z = true := hw _ (List.mem_of_getElem? (i := 223) rfl)
theorem t224 {Z : State} {a0 : Array Value} (hw : Tw Z a0) : ((Jvm.Cond.static ({ cls := "java/util/Arrays", name := "copyOf", desc := "([JI)[J" } : Jvm.MethodName))).before a0 Z = true := hw _ (List.mem_of_getElem? (i := 224) rfl)
theorem t225 {Z : State} {a0 : Array Value} (hw : Tw Z a0) : ((Jvm.Cond.code ({ cls := "java/util/Arrays", name := "copyOf", desc := "([JI)[J" } : Jvm.MethodName) jdk_65_method_124_code (3 : Nat) (Option.some (Jvm.ClassFile.FieldType.array Jvm.ClassFile.FieldType.long)))).before a0 Z = true := hw _ (List.mem_of_getElem? (i := 225) rfl)
theorem t226 {Z : State} {a0 : Array Value} (hw : Tw Z a0) : ((Jvm.Cond.methodLink "java/util/Arrays" (304 : Nat) ({ cls := "java/lang/Math", name := "min", desc := "(II)I" } : Jvm.MethodName))).before a0 Z = true := hw _ (List.mem_of_getElem? (i := 226) rfl)
theorem t227 {Z : State} {a0 : Array Value} (hw : Tw Z a0) : ((Jvm.Cond.static ({ cls := "java/lang/Math", name := "min", desc := "(II)I" } : Jvm.MethodName))).before a0 Z = true := hw _ (List.mem_of_getElem? (i := 227) rfl)
theorem t228 {Z : State} {a0 : Array Value} (hw : Tw Z a0) : ((Jvm.Cond.code ({ cls := "java/lang/Math", name := "min", desc := "(II)I" } : Jvm.MethodName) jdk_29_method_69_code (2 : Nat) (Option.some Jvm.ClassFile.FieldType.int))).before a0 Z = true := hw _ (List.mem_of_getElem? (i := 228) rfl)
theorem t229 {Z : State} {a0 : Array Value} (hw : Tw Z a0) : ((Jvm.Cond.methodLink "java/util/Arrays" (150 : Nat) ({ cls := "java/lang/System", name := "arraycopy", desc := "(Ljava/lang/Object;ILjava/lang/Object;II)V" } : Jvm.MethodName))).before a0 Z = true := hw _ (List.mem_of_getElem? (i := 229) rfl)
theorem t230 {Z : State} {a0 : Array Value} (hw : Tw Z a0) : ((Jvm.Cond.static ({ cls := "java/lang/System", name := "arraycopy", desc := "(Ljava/lang/Object;ILjava/lang/Object;II)V" } : Jvm.MethodName))).before a0 Z = true := hw _ (List.mem_of_getElem? (i := 230) rfl)
theorem t231 {Z : State} {a0 : Array Value} (hw : Tw Z a0) : ((Jvm.Cond.initialized "java/lang/System")).before a0 Z = true := hw _ (List.mem_of_getElem? (i := 231) rfl)
theorem t232 {Z : State} {a0 : Array Value} (hw : Tw Z a0) : ((Jvm.Cond.native ({ cls := "java/lang/System", name := "arraycopy", desc := "(Ljava/lang/Object;ILjava/lang/Object;II)V" } : Jvm.MethodName))).before a0 Z = true := hw _ (List.mem_of_getElem? (i := 232) rfl)
theorem t233 {Z : State} {a0 : Array Value} (hw : Tw Z a0) : ((Jvm.Cond.methodLink "com/example/ryazan/ryazan/statespace/StateStore" (116 : Nat) ({ cls := "java/lang/System", name := "arraycopy", desc := "(Ljava/lang/Object;ILjava/lang/Object;II)V" } : Jvm.MethodName))).before a0 Z = true := hw _ (List.mem_of_getElem? (i := 233) rfl)
theorem t234 {Z : State} {a0 : Array Value} (hw : Tw Z a0) : ((Jvm.Cond.methodLink "com/example/ryazan/ryazan/statespace/StateStore" (139 : Nat) ({ cls := "com/example/ryazan/ryazan/statespace/StateStore", name := "entry", desc := "(II)I" } : Jvm.MethodName))).before a0 Z = true := hw _ (List.mem_of_getElem? (i := 234) rfl)
theorem t235 {Z : State} {a0 : Array Value} (hw : Tw Z a0) : ((Jvm.Cond.instanceMethod ({ cls := "com/example/ryazan/ryazan/statespace/StateStore", name := "entry", desc := "(II)I" } : Jvm.MethodName))).before a0 Z = true := hw _ (List.mem_of_getElem? (i := 235) rfl)
theorem t236 {Z : State} {a0 : Array Value} (hw : Tw Z a0) : ((Jvm.Cond.privateMethod ({ cls := "com/example/ryazan/ryazan/statespace/StateStore", name := "entry", desc := "(II)I" } : Jvm.MethodName))).before a0 Z = true := hw _ (List.mem_of_getElem? (i := 236) rfl)
theorem t237 {Z : State} {a0 : Array Value} (hw : Tw Z a0) : ((Jvm.Cond.code ({ cls := "com/example/ryazan/ryazan/statespace/StateStore", name := "entry", desc := "(II)I" } : Jvm.MethodName) prog_197_method_19_code (3 : Nat) (Option.some Jvm.ClassFile.FieldType.int))).before a0 Z = true := hw _ (List.mem_of_getElem? (i := 237) rfl)
theorem t238 {Z : State} {a0 : Array Value} (hw : Tw Z a0) : ((Jvm.Cond.methodLink "com/example/ryazan/ryazan/statespace/StateStoreSetPinLaw" (52 : Nat) ({ cls := "com/example/ryazan/ryazan/statespace/StateStore", name := "key", desc := "(I[JI)V" } : Jvm.MethodName))).before a0 Z = true := hw _ (List.mem_of_getElem? (i := 238) rfl)
theorem t239 {Z : State} {a0 : Array Value} (hw : Tw Z a0) : ((Jvm.Cond.declares ({ cls := "com/example/ryazan/ryazan/statespace/StateStore", name := "key", desc := "(I[JI)V" } : Jvm.MethodName))).before a0 Z = true := hw _ (List.mem_of_getElem? (i := 239) rfl)
theorem t240 {Z : State} {a0 : Array Value} (hw : Tw Z a0) : ((Jvm.Cond.instanceMethod ({ cls := "com/example/ryazan/ryazan/statespace/StateStore", name := "key", desc := "(I[JI)V" } : Jvm.MethodName))).before a0 Z = true := hw _ (List.mem_of_getElem? (i := 240) rfl)
theorem t241 {Z : State} {a0 : Array Value} (hw : Tw Z a0) : ((Jvm.Cond.selects "com/example/ryazan/ryazan/statespace/StateStore" ({ cls := "com/example/ryazan/ryazan/statespace/StateStore", name := "key", desc := "(I[JI)V" } : Jvm.MethodName) ({ cls := "com/example/ryazan/ryazan/statespace/StateStore", name := "key", desc := "(I[JI)V" } : Jvm.MethodName))).before a0 Z = true := hw _ (List.mem_of_getElem? (i := 241) rfl)
theorem t242 {Z : State} {a0 : Array Value} (hw : Tw Z a0) : ((Jvm.Cond.code ({ cls := "com/example/ryazan/ryazan/statespace/StateStore", name := "key", desc := "(I[JI)V" } : Jvm.MethodName) prog_197_method_11_code (4 : Nat) (Option.none : Option Jvm.ClassFile.FieldType))).before a0 Z = true := hw _ (List.mem_of_getElem? (i := 242) rfl)
theorem t243 {Z : State} {a0 : Array Value} (hw : Tw Z a0) : ((Jvm.Cond.methodLink "com/example/ryazan/ryazan/statespace/StateStoreSetPinLaw" (56 : Nat) ({ cls := "com/example/ryazan/ryazan/statespace/StateStore", name := "set", desc := "([JIII)V" } : Jvm.MethodName))).before a0 Z = true := hw _ (List.mem_of_getElem? (i := 243) rfl)
theorem t244 {Z : State} {a0 : Array Value} (hw : Tw Z a0) : ((Jvm.Cond.declares ({ cls := "com/example/ryazan/ryazan/statespace/StateStore", name := "set", desc := "([JIII)V" } : Jvm.MethodName))).before a0 Z = true := hw _ (List.mem_of_getElem? (i := 244) rfl)
theorem t245 {Z : State} {a0 : Array Value} (hw : Tw Z a0) : ((Jvm.Cond.instanceMethod ({ cls := "com/example/ryazan/ryazan/statespace/StateStore", name := "set", desc := "([JIII)V" } : Jvm.MethodName))).before a0 Z = true := hw _ (List.mem_of_getElem? (i := 245) rfl)
theorem t246 {Z : State} {a0 : Array Value} (hw : Tw Z a0) : ((Jvm.Cond.selects "com/example/ryazan/ryazan/statespace/StateStore" ({ cls := "com/example/ryazan/ryazan/statespace/StateStore", name := "set", desc := "([JIII)V" } : Jvm.MethodName) ({ cls := "com/example/ryazan/ryazan/statespace/StateStore", name := "set", desc := "([JIII)V" } : Jvm.MethodName))).before a0 Z = true := hw _ (List.mem_of_getElem? (i := 246) rfl)
theorem t247 {Z : State} {a0 : Array Value} (hw : Tw Z a0) : ((Jvm.Cond.code ({ cls := "com/example/ryazan/ryazan/statespace/StateStore", name := "set", desc := "([JIII)V" } : Jvm.MethodName) prog_197_method_12_code (8 : Nat) (Option.none : Option Jvm.ClassFile.FieldType))).before a0 Z = true := hw _ (List.mem_of_getElem? (i := 247) rfl)
theorem t248 {Z : State} {a0 : Array Value} (hw : Tw Z a0) : ((Jvm.Cond.constantLong "com/example/ryazan/ryazan/statespace/StateStore" (122 : Nat) (-1 : Int64))).before a0 Z = true := hw _ (List.mem_of_getElem? (i := 248) rfl)
theorem t249 {Z : State} {a0 : Array Value} (hw : Tw Z a0) : ((Jvm.Cond.methodLink "com/example/ryazan/ryazan/statespace/StateStore" (145 : Nat) ({ cls := "com/example/ryazan/ryazan/statespace/StateStore", name := "holds", desc := "(II[JI)Z" } : Jvm.MethodName))).before a0 Z = true := hw _ (List.mem_of_getElem? (i := 249) rfl)
theorem t250 {Z : State} {a0 : Array Value} (hw : Tw Z a0) : ((Jvm.Cond.instanceMethod ({ cls := "com/example/ryazan/ryazan/statespace/StateStore", name := "holds", desc := "(II[JI)Z" } : Jvm.MethodName))).before a0 Z = true := hw _ (List.mem_of_getElem? (i := 250) rfl)
theorem t251 {Z : State} {a0 : Array Value} (hw : Tw Z a0) : ((Jvm.Cond.privateMethod ({ cls := "com/example/ryazan/ryazan/statespace/StateStore", name := "holds", desc := "(II[JI)Z" } : Jvm.MethodName))).before a0 Z = true := hw _ (List.mem_of_getElem? (i := 251) rfl)
theorem t252 {Z : State} {a0 : Array Value} (hw : Tw Z a0) : ((Jvm.Cond.code ({ cls := "com/example/ryazan/ryazan/statespace/StateStore", name := "holds", desc := "(II[JI)Z" } : Jvm.MethodName) prog_197_method_18_code (7 : Nat) (Option.some Jvm.ClassFile.FieldType.boolean))).before a0 Z = true := hw _ (List.mem_of_getElem? (i := 252) rfl)
theorem t253 {Z : State} {a0 : Array Value} (hw : Tw Z a0) : ((Jvm.Cond.methodLink "com/example/ryazan/ryazan/statespace/StateStore" (132 : Nat) ({ cls := "com/example/ryazan/ryazan/statespace/StateStore", name := "sharesHash", desc := "(II)Z" } : Jvm.MethodName))).before a0 Z = true := hw _ (List.mem_of_getElem? (i := 253) rfl)
theorem t254 {Z : State} {a0 : Array Value} (hw : Tw Z a0) : ((Jvm.Cond.instanceMethod ({ cls := "com/example/ryazan/ryazan/statespace/StateStore", name := "sharesHash", desc := "(II)Z" } : Jvm.MethodName))).before a0 Z = true := hw _ (List.mem_of_getElem? (i := 254) rfl)
theorem t255 {Z : State} {a0 : Array Value} (hw : Tw Z a0) : ((Jvm.Cond.privateMethod ({ cls := "com/example/ryazan/ryazan/statespace/StateStore", name := "sharesHash", desc := "(II)Z" } : Jvm.MethodName))).before a0 Z = true := hw _ (List.mem_of_getElem? (i := 255) rfl)
theorem t256 {Z : State} {a0 : Array Value} (hw : Tw Z a0) : ((Jvm.Cond.code ({ cls := "com/example/ryazan/ryazan/statespace/StateStore", name := "sharesHash", desc := "(II)Z" } : Jvm.MethodName) prog_197_method_20_code (3 : Nat) (Option.some Jvm.ClassFile.FieldType.boolean))).before a0 Z = true := hw _ (List.mem_of_getElem? (i := 256) rfl)
theorem t257 {Z : State} {a0 : Array Value} (hw : Tw Z a0) : ((Jvm.Cond.methodLink "com/example/ryazan/ryazan/statespace/StateStore" (103 : Nat) ({ cls := "com/example/ryazan/ryazan/statespace/StateStore", name := "number", desc := "(I)I" } : Jvm.MethodName))).before a0 Z = true := hw _ (List.mem_of_getElem? (i := 257) rfl)
theorem t258 {Z : State} {a0 : Array Value} (hw : Tw Z a0) : ((Jvm.Cond.instanceMethod ({ cls := "com/example/ryazan/ryazan/statespace/StateStore", name := "number", desc := "(I)I" } : Jvm.MethodName))).before a0 Z = true := hw _ (List.mem_of_getElem? (i := 258) rfl)
theorem t259 {Z : State} {a0 : Array Value} (hw : Tw Z a0) : ((Jvm.Cond.privateMethod ({ cls := "com/example/ryazan/ryazan/statespace/StateStore", name := "number", desc := "(I)I" } : Jvm.MethodName))).before a0 Z = true := hw _ (List.mem_of_getElem? (i := 259) rfl)
theorem t260 {Z : State} {a0 : Array Value} (hw : Tw Z a0) : ((Jvm.Cond.code ({ cls := "com/example/ryazan/ryazan/statespace/StateStore", name := "number", desc := "(I)I" } : Jvm.MethodName) prog_197_method_21_code (2 : Nat) (Option.some Jvm.ClassFile.FieldType.int))).before a0 Z = true := hw _ (List.mem_of_getElem? (i := 260) rfl)
def fs0 : List (String × String × String) := [("java/util/AbstractList", "modCount", "I"), ("java/util/ArrayList", "elementData", "[Ljava/lang/Object;"), ("java/util/ArrayList", "size", "I")]
abbrev o0 (w0 w1 w2 : Value) : Ob := .inl ("java/util/ArrayList", fs0, [w0, w1, w2])
theorem cls0 {Z : State} {a0 : Array Value} (hw : Tw Z a0) : Cls Z a0 "java/util/ArrayList" 3 fs0 := by
  refine ⟨(t10 hw), fun i f hf => ?_, fun i j f g hf hg e => ?_⟩
  · match i, hf with
    | 0, hf => cases (Option.some.inj hf); exact ⟨Or.inl (t31 hw), .int, by decide +kernel⟩
    | 1, hf => cases (Option.some.inj hf); exact ⟨Or.inl (t34 hw), (.array (.object "java/lang/Object")), by decide +kernel⟩
    | 2, hf => cases (Option.some.inj hf); exact ⟨Or.inl (t70 hw), .int, by decide +kernel⟩
    | (i + 3), hf => exact absurd hf (by simp [fs0])
  · have hi : i < 3 := (List.getElem?_eq_some_iff.mp hf).1
    have hj : j < 3 := (List.getElem?_eq_some_iff.mp hg).1
    have key : ∀ (i j : Fin 3), (fs0[i.val]?.map (·.2.1)) = (fs0[j.val]?.map (·.2.1)) → i = j := by decide +kernel
    exact congrArg Fin.val (key ⟨i, hi⟩ ⟨j, hj⟩ (by simp only [hf, hg, Option.map_some, e]))
def fs1 : List (String × String × String) := [("com/example/ryazan/ryazan/model/Model$Variable", "name", "Ljava/lang/String;"), ("com/example/ryazan/ryazan/model/Model$Variable", "type", "Lcom/example/ryazan/ryazan/lang/Type;"), ("com/example/ryazan/ryazan/model/Model$Variable", "low", "I"), ("com/example/ryazan/ryazan/model/Model$Variable", "high", "I"), ("com/example/ryazan/ryazan/model/Model$Variable", "initial", "I"), ("com/example/ryazan/ryazan/model/Model$Variable", "position", "Lcom/example/ryazan/ryazan/lang/SourcePosition;")]
abbrev o1 (w0 w1 w2 w3 w4 w5 : Value) : Ob := .inl ("com/example/ryazan/ryazan/model/Model$Variable", fs1, [w0, w1, w2, w3, w4, w5])
theorem cls1 {Z : State} {a0 : Array Value} (hw : Tw Z a0) : Cls Z a0 "com/example/ryazan/ryazan/model/Model$Variable" 6 fs1 := by
  refine ⟨(t36 hw), fun i f hf => ?_, fun i j f g hf hg e => ?_⟩
  · match i, hf with
    | 0, hf => cases (Option.some.inj hf); exact ⟨Or.inr (t51 hw), (.object "java/lang/String"), by decide +kernel⟩
    | 1, hf => cases (Option.some.inj hf); exact ⟨Or.inr (t53 hw), (.object "com/example/ryazan/ryazan/lang/Type"), by decide +kernel⟩
    | 2, hf => cases (Option.some.inj hf); exact ⟨Or.inr (t55 hw), .int, by decide +kernel⟩
    | 3, hf => cases (Option.some.inj hf); exact ⟨Or.inr (t57 hw), .int, by decide +kernel⟩
    | 4, hf => cases (Option.some.inj hf); exact ⟨Or.inr (t59 hw), .int, by decide +kernel⟩
    | 5, hf => cases (Option.some.inj hf); exact ⟨Or.inr (t61 hw), (.object "com/example/ryazan/ryazan/lang/SourcePosition"), by decide +kernel⟩
    | (i + 6), hf => exact absurd hf (by simp [fs1])
  · have hi : i < 6 := (List.getElem?_eq_some_iff.mp hf).1
    have hj : j < 6 := (List.getElem?_eq_some_iff.mp hg).1
    have key : ∀ (i j : Fin 6), (fs1[i.val]?.map (·.2.1)) = (fs1[j.val]?.map (·.2.1)) → i = j := by decide +kernel
    exact congrArg Fin.val (key ⟨i, hi⟩ ⟨j, hj⟩ (by simp only [hf, hg, Option.map_some, e]))
def fs2 : List (String × String × String) := [("com/example/ryazan/ryazan/statespace/StateStore", "packed", "[J"), ("com/example/ryazan/ryazan/statespace/StateStore", "slotBits", "I"), ("com/example/ryazan/ryazan/statespace/StateStore", "table", "[I"), ("com/example/ryazan/ryazan/statespace/StateStore", "hashes", "[I"), ("com/example/ryazan/ryazan/statespace/StateStore", "lows", "[I"), ("com/example/ryazan/ryazan/statespace/StateStore", "words", "[I"), ("com/example/ryazan/ryazan/statespace/StateStore", "shifts", "[I"), ("com/example/ryazan/ryazan/statespace/StateStore", "masks", "[J"), ("com/example/ryazan/ryazan/statespace/StateStore", "wordsPerState", "I"), ("com/example/ryazan/ryazan/statespace/StateStore", "key", "[J"), ("com/example/ryazan/ryazan/statespace/StateStore", "size", "I")]
abbrev o2 (w0 w1 w2 w3 w4 w5 w6 w7 w8 w9 w10 : Value) : Ob := .inl ("com/example/ryazan/ryazan/statespace/StateStore", fs2, [w0, w1, w2, w3, w4, w5, w6, w7, w8, w9, w10])
theorem cls2 {Z : State} {a0 : Array Value} (hw : Tw Z a0) : Cls Z a0 "com/example/ryazan/ryazan/statespace/StateStore" 12 fs2 := by
  refine ⟨(t94 hw), fun i f hf => ?_, fun i j f g hf hg e => ?_⟩
  · match i, hf with
    | 0, hf => cases (Option.some.inj hf); exact ⟨Or.inl (t102 hw), (.array .long), by decide +kernel⟩
    | 1, hf => cases (Option.some.inj hf); exact ⟨Or.inl (t104 hw), .int, by decide +kernel⟩
    | 2, hf => cases (Option.some.inj hf); exact ⟨Or.inl (t117 hw), (.array .int), by decide +kernel⟩
    | 3, hf => cases (Option.some.inj hf); exact ⟨Or.inl (t119 hw), (.array .int), by decide +kernel⟩
    | 4, hf => cases (Option.some.inj hf); exact ⟨Or.inr (t130 hw), (.array .int), by decide +kernel⟩
    | 5, hf => cases (Option.some.inj hf); exact ⟨Or.inr (t132 hw), (.array .int), by decide +kernel⟩
    | 6, hf => cases (Option.some.inj hf); exact ⟨Or.inr (t134 hw), (.array .int), by decide +kernel⟩
    | 7, hf => cases (Option.some.inj hf); exact ⟨Or.inr (t136 hw), (.array .long), by decide +kernel⟩
    | 8, hf => cases (Option.some.inj hf); exact ⟨Or.inr (t180 hw), .int, by decide +kernel⟩
    | 9, hf => cases (Option.some.inj hf); exact ⟨Or.inr (t182 hw), (.array .long), by decide +kernel⟩
    | 10, hf => cases (Option.some.inj hf); exact ⟨Or.inl (t218 hw), .int, by decide +kernel⟩
    | (i + 11), hf => exact absurd hf (by simp [fs2])
  · have hi : i < 11 := (List.getElem?_eq_some_iff.mp hf).1
    have hj : j < 11 := (List.getElem?_eq_some_iff.mp hg).1
    have key : ∀ (i j : Fin 11), (fs2[i.val]?.map (·.2.1)) = (fs2[j.val]?.map (·.2.1)) → i = j := by decide +kernel
    exact congrArg Fin.val (key ⟨i, hi⟩ ⟨j, hj⟩ (by simp only [hf, hg, Option.map_some, e]))
theorem pd0 : parseMethodDescriptor "()V" = some ⟨[], none⟩ := by decide +kernel
theorem pd1 : parseMethodDescriptor "(II)I" = some ⟨[.int, .int], some .int⟩ := by decide +kernel
theorem pd2 : parseMethodDescriptor "(I)[Ljava/lang/Object;" = some ⟨[.int], some (.array (.object "java/lang/Object"))⟩ := by decide +kernel
theorem pd3 : parseMethodDescriptor "()[Ljava/lang/Object;" = some ⟨[], some (.array (.object "java/lang/Object"))⟩ := by decide +kernel
theorem pd4 : parseMethodDescriptor "(Ljava/lang/Object;[Ljava/lang/Object;I)V" = some ⟨[(.object "java/lang/Object"), (.array (.object "java/lang/Object")), .int], none⟩ := by decide +kernel
theorem pd5 : parseMethodDescriptor "(IILjava/util/function/BiFunction;)I" = some ⟨[.int, .int, (.object "java/util/function/BiFunction")], some .int⟩ := by decide +kernel
theorem pd6 : parseMethodDescriptor "(I)Ljava/lang/Object;" = some ⟨[.int], some (.object "java/lang/Object")⟩ := by decide +kernel
theorem pd7 : parseMethodDescriptor "(I)I" = some ⟨[.int], some .int⟩ := by decide +kernel
theorem pd8 : parseMethodDescriptor "(J)I" = some ⟨[.long], some .int⟩ := by decide +kernel
theorem pd9 : parseMethodDescriptor "([II)V" = some ⟨[(.array .int), .int], none⟩ := by decide +kernel
theorem pd10 : parseMethodDescriptor "(I)[I" = some ⟨[.int], some (.array .int)⟩ := by decide +kernel
theorem pd11 : parseMethodDescriptor "()I" = some ⟨[], some .int⟩ := by decide +kernel
theorem pd12 : parseMethodDescriptor "([JJ)V" = some ⟨[(.array .long), .long], none⟩ := by decide +kernel
theorem pd13 : parseMethodDescriptor "(II)Z" = some ⟨[.int, .int], some .boolean⟩ := by decide +kernel
theorem pd14 : parseMethodDescriptor "(II[JI)Z" = some ⟨[.int, .int, (.array .long), .int], some .boolean⟩ := by decide +kernel
theorem pd15 : parseMethodDescriptor "([JII)I" = some ⟨[(.array .long), .int, .int], some .int⟩ := by decide +kernel
theorem pd16 : parseMethodDescriptor "([JI)[J" = some ⟨[(.array .long), .int], some (.array .long)⟩ := by decide +kernel
theorem pd17 : parseMethodDescriptor "([I)V" = some ⟨[(.array .int)], none⟩ := by decide +kernel
theorem pd18 : parseMethodDescriptor "([JI)I" = some ⟨[(.array .long), .int], some .int⟩ := by decide +kernel
theorem pd19 : parseMethodDescriptor "(Ljava/lang/String;Lcom/example/ryazan/ryazan/lang/Type;IIILcom/example/ryazan/ryazan/lang/SourcePosition;)V" = some ⟨[(.object "java/lang/String"), (.object "com/example/ryazan/ryazan/lang/Type"), .int, .int, .int, (.object "com/example/ryazan/ryazan/lang/SourcePosition")], none⟩ := by decide +kernel
theorem pd20 : parseMethodDescriptor "(Ljava/lang/Object;)Z" = some ⟨[(.object "java/lang/Object")], some .boolean⟩ := by decide +kernel
theorem pd21 : parseMethodDescriptor "(Ljava/util/List;)V" = some ⟨[(.object "java/util/List")], none⟩ := by decide +kernel
theorem pd22 : parseMethodDescriptor "(IIJ)I" = some ⟨[.int, .int, .long], some .int⟩ := by decide +kernel
theorem pd23 : parseMethodDescriptor "([I)I" = some ⟨[(.array .int)], some .int⟩ := by decide +kernel
theorem pd24 : parseMethodDescriptor "(I[JI)V" = some ⟨[.int, (.array .long), .int], none⟩ := by decide +kernel
theorem pd25 : parseMethodDescriptor "([JIII)V" = some ⟨[(.array .long), .int, .int, .int], none⟩ := by decide +kernel
theorem pn0 : plainName "java/util/AbstractCollection" = true := by first | (simp [plainName, overriddenIn]; done) | decide +kernel
theorem pn1 : plainName "java/util/AbstractList" = true := by first | (simp [plainName, overriddenIn]; done) | decide +kernel
theorem pn2 : plainName "java/util/ArrayList" = true := by first | (simp [plainName, overriddenIn]; done) | decide +kernel
theorem pn3 : plainName "jdk/internal/util/Preconditions" = true := by first | (simp [plainName, overriddenIn]; done) | decide +kernel
theorem pn4 : plainName "java/util/Objects" = true := by first | (simp [plainName, overriddenIn]; done) | decide +kernel
theorem pn5 : plainName "java/util/Arrays" = true := by first | (simp [plainName, overriddenIn]; done) | decide +kernel
theorem pn6 : plainName "java/lang/Integer" = true := by first | (simp [plainName, overriddenIn]; done) | decide +kernel
theorem pn7 : plainName "java/lang/Long" = true := by first | (simp [plainName, overriddenIn]; done) | decide +kernel
theorem pn8 : plainName "java/lang/Record" = true := by first | (simp [plainName, overriddenIn]; done) | decide +kernel
theorem pn9 : plainName "com/example/ryazan/ryazan/model/Model$Variable" = true := by first | (simp [plainName, overriddenIn]; done) | decide +kernel
theorem pn10 : plainName "com/example/ryazan/ryazan/statespace/StateStore" = true := by first | (simp [plainName, overriddenIn]; done) | decide +kernel
theorem pn11 : plainName "com/example/ryazan/ryazan/statespace/StateStoreSetPinLaw" = true := by first | (simp [plainName, overriddenIn]; done) | decide +kernel
theorem d1_0 : decode method_2_code 0 = .ok (.lload_n 0, 1) := by decide +kernel
theorem d1_1 : decode method_2_code 1 = .ok (.bipush 32, 2) := by decide +kernel
theorem d1_3 : decode method_2_code 3 = .ok (.lshr, 1) := by decide +kernel
theorem d1_4 : decode method_2_code 4 = .ok (.l2i, 1) := by decide +kernel
theorem d1_5 : decode method_2_code 5 = .ok (.ireturn, 1) := by decide +kernel
theorem d2_0 : decode method_3_code 0 = .ok (.lload_n 0, 1) := by decide +kernel
theorem d2_1 : decode method_3_code 1 = .ok (.bipush 32, 2) := by decide +kernel
theorem d2_3 : decode method_3_code 3 = .ok (.lshr, 1) := by decide +kernel
theorem d2_4 : decode method_3_code 4 = .ok (.l2i, 1) := by decide +kernel
theorem d2_5 : decode method_3_code 5 = .ok (.i2l, 1) := by decide +kernel
theorem d2_6 : decode method_3_code 6 = .ok (.lstore_n 2, 1) := by decide +kernel
theorem d2_7 : decode method_3_code 7 = .ok (.ldc2_w 9, 3) := by decide +kernel
theorem d2_10 : decode method_3_code 10 = .ok (.lload_n 2, 1) := by decide +kernel
theorem d2_11 : decode method_3_code 11 = .ok (.lsub, 1) := by decide +kernel
theorem d2_12 : decode method_3_code 12 = .ok (.lstore 4, 2) := by decide +kernel
theorem d2_14 : decode method_3_code 14 = .ok (.lload_n 0, 1) := by decide +kernel
theorem d2_15 : decode method_3_code 15 = .ok (.ldc2_w 11, 3) := by decide +kernel
theorem d2_18 : decode method_3_code 18 = .ok (.land, 1) := by decide +kernel
theorem d2_19 : decode method_3_code 19 = .ok (.lload 4, 2) := by decide +kernel
theorem d2_21 : decode method_3_code 21 = .ok (.lconst 1, 1) := by decide +kernel
theorem d2_22 : decode method_3_code 22 = .ok (.ladd, 1) := by decide +kernel
theorem d2_23 : decode method_3_code 23 = .ok (.lrem, 1) := by decide +kernel
theorem d2_24 : decode method_3_code 24 = .ok (.lstore 6, 2) := by decide +kernel
theorem d2_26 : decode method_3_code 26 = .ok (.lload_n 2, 1) := by decide +kernel
theorem d2_27 : decode method_3_code 27 = .ok (.lload 6, 2) := by decide +kernel
theorem d2_29 : decode method_3_code 29 = .ok (.ladd, 1) := by decide +kernel
theorem d2_30 : decode method_3_code 30 = .ok (.l2i, 1) := by decide +kernel
theorem d2_31 : decode method_3_code 31 = .ok (.ireturn, 1) := by decide +kernel
theorem d3_0 : decode jdk_38_method_2_code 0 = .ok (.aload_n 0, 1) := by decide +kernel
theorem d3_1 : decode jdk_38_method_2_code 1 = .ok (.invokespecial 1, 3) := by decide +kernel
theorem d3_4 : decode jdk_38_method_2_code 4 = .ok (.aload_n 0, 1) := by decide +kernel
theorem d3_5 : decode jdk_38_method_2_code 5 = .ok (.getstatic 39, 3) := by decide +kernel
theorem d3_8 : decode jdk_38_method_2_code 8 = .ok (.putfield 9, 3) := by decide +kernel
theorem d3_11 : decode jdk_38_method_2_code 11 = .ok (.return_, 1) := by decide +kernel
theorem d4_0 : decode jdk_39_method_1_code 0 = .ok (.aload_n 0, 1) := by decide +kernel
theorem d4_1 : decode jdk_39_method_1_code 1 = .ok (.invokespecial 1, 3) := by decide +kernel
theorem d4_4 : decode jdk_39_method_1_code 4 = .ok (.aload_n 0, 1) := by decide +kernel
theorem d4_5 : decode jdk_39_method_1_code 5 = .ok (.iconst 0, 1) := by decide +kernel
theorem d4_6 : decode jdk_39_method_1_code 6 = .ok (.putfield 7, 3) := by decide +kernel
theorem d4_9 : decode jdk_39_method_1_code 9 = .ok (.return_, 1) := by decide +kernel
theorem d5_0 : decode jdk_22_method_1_code 0 = .ok (.aload_n 0, 1) := by decide +kernel
theorem d5_1 : decode jdk_22_method_1_code 1 = .ok (.invokespecial 1, 3) := by decide +kernel
theorem d5_4 : decode jdk_22_method_1_code 4 = .ok (.return_, 1) := by decide +kernel
theorem d7_0 : decode prog_172_method_1_code 0 = .ok (.aload_n 0, 1) := by decide +kernel
theorem d7_1 : decode prog_172_method_1_code 1 = .ok (.invokespecial 1, 3) := by decide +kernel
theorem d7_4 : decode prog_172_method_1_code 4 = .ok (.aload_n 0, 1) := by decide +kernel
theorem d7_5 : decode prog_172_method_1_code 5 = .ok (.aload_n 1, 1) := by decide +kernel
theorem d7_6 : decode prog_172_method_1_code 6 = .ok (.putfield 7, 3) := by decide +kernel
theorem d7_9 : decode prog_172_method_1_code 9 = .ok (.aload_n 0, 1) := by decide +kernel
theorem d7_10 : decode prog_172_method_1_code 10 = .ok (.aload_n 2, 1) := by decide +kernel
theorem d7_11 : decode prog_172_method_1_code 11 = .ok (.putfield 13, 3) := by decide +kernel
theorem d7_14 : decode prog_172_method_1_code 14 = .ok (.aload_n 0, 1) := by decide +kernel
theorem d7_15 : decode prog_172_method_1_code 15 = .ok (.iload_n 3, 1) := by decide +kernel
theorem d7_16 : decode prog_172_method_1_code 16 = .ok (.putfield 17, 3) := by decide +kernel
theorem d7_19 : decode prog_172_method_1_code 19 = .ok (.aload_n 0, 1) := by decide +kernel
theorem d7_20 : decode prog_172_method_1_code 20 = .ok (.iload 4, 2) := by decide +kernel
theorem d7_22 : decode prog_172_method_1_code 22 = .ok (.putfield 21, 3) := by decide +kernel
theorem d7_25 : decode prog_172_method_1_code 25 = .ok (.aload_n 0, 1) := by decide +kernel
theorem d7_26 : decode prog_172_method_1_code 26 = .ok (.iload 5, 2) := by decide +kernel
theorem d7_28 : decode prog_172_method_1_code 28 = .ok (.putfield 24, 3) := by decide +kernel
theorem d7_31 : decode prog_172_method_1_code 31 = .ok (.aload_n 0, 1) := by decide +kernel
theorem d7_32 : decode prog_172_method_1_code 32 = .ok (.aload 6, 2) := by decide +kernel
theorem d7_34 : decode prog_172_method_1_code 34 = .ok (.putfield 27, 3) := by decide +kernel
theorem d7_37 : decode prog_172_method_1_code 37 = .ok (.return_, 1) := by decide +kernel
theorem d8_0 : decode jdk_30_method_1_code 0 = .ok (.aload_n 0, 1) := by decide +kernel
theorem d8_1 : decode jdk_30_method_1_code 1 = .ok (.invokespecial 1, 3) := by decide +kernel
theorem d8_4 : decode jdk_30_method_1_code 4 = .ok (.return_, 1) := by decide +kernel
theorem d9_0 : decode jdk_38_method_25_code 0 = .ok (.aload_n 0, 1) := by decide +kernel
theorem d9_1 : decode jdk_38_method_25_code 1 = .ok (.dup, 1) := by decide +kernel
theorem d9_2 : decode jdk_38_method_25_code 2 = .ok (.getfield 63, 3) := by decide +kernel
theorem d9_5 : decode jdk_38_method_25_code 5 = .ok (.iconst 1, 1) := by decide +kernel
theorem d9_6 : decode jdk_38_method_25_code 6 = .ok (.iadd, 1) := by decide +kernel
theorem d9_7 : decode jdk_38_method_25_code 7 = .ok (.putfield 63, 3) := by decide +kernel
theorem d9_10 : decode jdk_38_method_25_code 10 = .ok (.aload_n 0, 1) := by decide +kernel
theorem d9_11 : decode jdk_38_method_25_code 11 = .ok (.aload_n 1, 1) := by decide +kernel
theorem d9_12 : decode jdk_38_method_25_code 12 = .ok (.aload_n 0, 1) := by decide +kernel
theorem d9_13 : decode jdk_38_method_25_code 13 = .ok (.getfield 9, 3) := by decide +kernel
theorem d9_16 : decode jdk_38_method_25_code 16 = .ok (.aload_n 0, 1) := by decide +kernel
theorem d9_17 : decode jdk_38_method_25_code 17 = .ok (.getfield 48, 3) := by decide +kernel
theorem d9_20 : decode jdk_38_method_25_code 20 = .ok (.invokevirtual 131, 3) := by decide +kernel
theorem d9_23 : decode jdk_38_method_25_code 23 = .ok (.iconst 1, 1) := by decide +kernel
theorem d9_24 : decode jdk_38_method_25_code 24 = .ok (.ireturn, 1) := by decide +kernel
theorem d10_0 : decode jdk_38_method_24_code 0 = .ok (.iload_n 3, 1) := by decide +kernel
theorem d10_1 : decode jdk_38_method_24_code 1 = .ok (.aload_n 2, 1) := by decide +kernel
theorem d10_2 : decode jdk_38_method_24_code 2 = .ok (.arraylength, 1) := by decide +kernel
theorem d10_3 : decode jdk_38_method_24_code 3 = .ok (.if_icmp .ne 8, 3) := by decide +kernel
theorem d10_6 : decode jdk_38_method_24_code 6 = .ok (.aload_n 0, 1) := by decide +kernel
theorem d10_7 : decode jdk_38_method_24_code 7 = .ok (.invokevirtual 129, 3) := by decide +kernel
theorem d10_10 : decode jdk_38_method_24_code 10 = .ok (.astore_n 2, 1) := by decide +kernel
theorem d10_11 : decode jdk_38_method_24_code 11 = .ok (.aload_n 2, 1) := by decide +kernel
theorem d10_12 : decode jdk_38_method_24_code 12 = .ok (.iload_n 3, 1) := by decide +kernel
theorem d10_13 : decode jdk_38_method_24_code 13 = .ok (.aload_n 1, 1) := by decide +kernel
theorem d10_14 : decode jdk_38_method_24_code 14 = .ok (.aastore, 1) := by decide +kernel
theorem d10_15 : decode jdk_38_method_24_code 15 = .ok (.aload_n 0, 1) := by decide +kernel
theorem d10_16 : decode jdk_38_method_24_code 16 = .ok (.iload_n 3, 1) := by decide +kernel
theorem d10_17 : decode jdk_38_method_24_code 17 = .ok (.iconst 1, 1) := by decide +kernel
theorem d10_18 : decode jdk_38_method_24_code 18 = .ok (.iadd, 1) := by decide +kernel
theorem d10_19 : decode jdk_38_method_24_code 19 = .ok (.putfield 48, 3) := by decide +kernel
theorem d10_22 : decode jdk_38_method_24_code 22 = .ok (.return_, 1) := by decide +kernel
theorem d11_0 : decode jdk_38_method_7_code 0 = .ok (.aload_n 0, 1) := by decide +kernel
theorem d11_1 : decode jdk_38_method_7_code 1 = .ok (.aload_n 0, 1) := by decide +kernel
theorem d11_2 : decode jdk_38_method_7_code 2 = .ok (.getfield 48, 3) := by decide +kernel
theorem d11_5 : decode jdk_38_method_7_code 5 = .ok (.iconst 1, 1) := by decide +kernel
theorem d11_6 : decode jdk_38_method_7_code 6 = .ok (.iadd, 1) := by decide +kernel
theorem d11_7 : decode jdk_38_method_7_code 7 = .ok (.invokevirtual 69, 3) := by decide +kernel
theorem d11_10 : decode jdk_38_method_7_code 10 = .ok (.areturn, 1) := by decide +kernel
theorem d12_0 : decode jdk_38_method_6_code 0 = .ok (.aload_n 0, 1) := by decide +kernel
theorem d12_1 : decode jdk_38_method_6_code 1 = .ok (.getfield 9, 3) := by decide +kernel
theorem d12_4 : decode jdk_38_method_6_code 4 = .ok (.arraylength, 1) := by decide +kernel
theorem d12_5 : decode jdk_38_method_6_code 5 = .ok (.istore_n 2, 1) := by decide +kernel
theorem d12_6 : decode jdk_38_method_6_code 6 = .ok (.iload_n 2, 1) := by decide +kernel
theorem d12_7 : decode jdk_38_method_6_code 7 = .ok (.ifCond .gt 13, 3) := by decide +kernel
theorem d12_10 : decode jdk_38_method_6_code 10 = .ok (.aload_n 0, 1) := by decide +kernel
theorem d12_11 : decode jdk_38_method_6_code 11 = .ok (.getfield 9, 3) := by decide +kernel
theorem d12_14 : decode jdk_38_method_6_code 14 = .ok (.getstatic 39, 3) := by decide +kernel
theorem d12_17 : decode jdk_38_method_6_code 17 = .ok (.if_acmp .eq 28, 3) := by decide +kernel
theorem d12_45 : decode jdk_38_method_6_code 45 = .ok (.aload_n 0, 1) := by decide +kernel
theorem d12_46 : decode jdk_38_method_6_code 46 = .ok (.bipush 10, 2) := by decide +kernel
theorem d12_48 : decode jdk_38_method_6_code 48 = .ok (.iload_n 1, 1) := by decide +kernel
theorem d12_49 : decode jdk_38_method_6_code 49 = .ok (.invokestatic 79, 3) := by decide +kernel
theorem d12_52 : decode jdk_38_method_6_code 52 = .ok (.anewarray 7, 3) := by decide +kernel
theorem d12_55 : decode jdk_38_method_6_code 55 = .ok (.dup_x1, 1) := by decide +kernel
theorem d12_56 : decode jdk_38_method_6_code 56 = .ok (.putfield 9, 3) := by decide +kernel
theorem d12_59 : decode jdk_38_method_6_code 59 = .ok (.areturn, 1) := by decide +kernel
theorem d13_0 : decode jdk_29_method_65_code 0 = .ok (.iload_n 0, 1) := by decide +kernel
theorem d13_1 : decode jdk_29_method_65_code 1 = .ok (.iload_n 1, 1) := by decide +kernel
theorem d13_2 : decode jdk_29_method_65_code 2 = .ok (.if_icmp .lt 7, 3) := by decide +kernel
theorem d13_5 : decode jdk_29_method_65_code 5 = .ok (.iload_n 0, 1) := by decide +kernel
theorem d13_6 : decode jdk_29_method_65_code 6 = .ok (.goto 4, 3) := by decide +kernel
theorem d13_9 : decode jdk_29_method_65_code 9 = .ok (.iload_n 1, 1) := by decide +kernel
theorem d13_10 : decode jdk_29_method_65_code 10 = .ok (.ireturn, 1) := by decide +kernel
theorem d14_0 : decode prog_197_method_1_code 0 = .ok (.aload_n 0, 1) := by decide +kernel
theorem d14_1 : decode prog_197_method_1_code 1 = .ok (.invokespecial 1, 3) := by decide +kernel
theorem d14_4 : decode prog_197_method_1_code 4 = .ok (.aload_n 0, 1) := by decide +kernel
theorem d14_5 : decode prog_197_method_1_code 5 = .ok (.iconst 0, 1) := by decide +kernel
theorem d14_6 : decode prog_197_method_1_code 6 = .ok (.newarray .long, 2) := by decide +kernel
theorem d14_8 : decode prog_197_method_1_code 8 = .ok (.putfield 7, 3) := by decide +kernel
theorem d14_11 : decode prog_197_method_1_code 11 = .ok (.aload_n 0, 1) := by decide +kernel
theorem d14_12 : decode prog_197_method_1_code 12 = .ok (.bipush 10, 2) := by decide +kernel
theorem d14_14 : decode prog_197_method_1_code 14 = .ok (.putfield 13, 3) := by decide +kernel
theorem d14_17 : decode prog_197_method_1_code 17 = .ok (.aload_n 0, 1) := by decide +kernel
theorem d14_18 : decode prog_197_method_1_code 18 = .ok (.aload_n 0, 1) := by decide +kernel
theorem d14_19 : decode prog_197_method_1_code 19 = .ok (.getfield 13, 3) := by decide +kernel
theorem d14_22 : decode prog_197_method_1_code 22 = .ok (.invokestatic 17, 3) := by decide +kernel
theorem d14_25 : decode prog_197_method_1_code 25 = .ok (.putfield 21, 3) := by decide +kernel
theorem d14_28 : decode prog_197_method_1_code 28 = .ok (.aload_n 0, 1) := by decide +kernel
theorem d14_29 : decode prog_197_method_1_code 29 = .ok (.iconst 0, 1) := by decide +kernel
theorem d14_30 : decode prog_197_method_1_code 30 = .ok (.newarray .int, 2) := by decide +kernel
theorem d14_32 : decode prog_197_method_1_code 32 = .ok (.putfield 25, 3) := by decide +kernel
theorem d14_35 : decode prog_197_method_1_code 35 = .ok (.aload_n 1, 1) := by decide +kernel
theorem d14_36 : decode prog_197_method_1_code 36 = .ok (.invokeinterface 28 1, 5) := by decide +kernel
theorem d14_41 : decode prog_197_method_1_code 41 = .ok (.istore_n 2, 1) := by decide +kernel
theorem d14_42 : decode prog_197_method_1_code 42 = .ok (.aload_n 0, 1) := by decide +kernel
theorem d14_43 : decode prog_197_method_1_code 43 = .ok (.iload_n 2, 1) := by decide +kernel
theorem d14_44 : decode prog_197_method_1_code 44 = .ok (.newarray .int, 2) := by decide +kernel
theorem d14_46 : decode prog_197_method_1_code 46 = .ok (.putfield 34, 3) := by decide +kernel
theorem d14_49 : decode prog_197_method_1_code 49 = .ok (.aload_n 0, 1) := by decide +kernel
theorem d14_50 : decode prog_197_method_1_code 50 = .ok (.iload_n 2, 1) := by decide +kernel
theorem d14_51 : decode prog_197_method_1_code 51 = .ok (.newarray .int, 2) := by decide +kernel
theorem d14_53 : decode prog_197_method_1_code 53 = .ok (.putfield 37, 3) := by decide +kernel
theorem d14_56 : decode prog_197_method_1_code 56 = .ok (.aload_n 0, 1) := by decide +kernel
theorem d14_57 : decode prog_197_method_1_code 57 = .ok (.iload_n 2, 1) := by decide +kernel
theorem d14_58 : decode prog_197_method_1_code 58 = .ok (.newarray .int, 2) := by decide +kernel
theorem d14_60 : decode prog_197_method_1_code 60 = .ok (.putfield 40, 3) := by decide +kernel
theorem d14_63 : decode prog_197_method_1_code 63 = .ok (.aload_n 0, 1) := by decide +kernel
theorem d14_64 : decode prog_197_method_1_code 64 = .ok (.iload_n 2, 1) := by decide +kernel
theorem d14_65 : decode prog_197_method_1_code 65 = .ok (.newarray .long, 2) := by decide +kernel
theorem d14_67 : decode prog_197_method_1_code 67 = .ok (.putfield 43, 3) := by decide +kernel
theorem d14_70 : decode prog_197_method_1_code 70 = .ok (.iconst 0, 1) := by decide +kernel
theorem d14_71 : decode prog_197_method_1_code 71 = .ok (.istore_n 3, 1) := by decide +kernel
theorem d14_72 : decode prog_197_method_1_code 72 = .ok (.iconst 0, 1) := by decide +kernel
theorem d14_73 : decode prog_197_method_1_code 73 = .ok (.istore 4, 2) := by decide +kernel
theorem d14_75 : decode prog_197_method_1_code 75 = .ok (.iconst 0, 1) := by decide +kernel
theorem d14_76 : decode prog_197_method_1_code 76 = .ok (.istore 5, 2) := by decide +kernel
theorem d14_78 : decode prog_197_method_1_code 78 = .ok (.iload 5, 2) := by decide +kernel
theorem d14_80 : decode prog_197_method_1_code 80 = .ok (.iload_n 2, 1) := by decide +kernel
theorem d14_81 : decode prog_197_method_1_code 81 = .ok (.if_icmp .ge 112, 3) := by decide +kernel
theorem d14_84 : decode prog_197_method_1_code 84 = .ok (.aload_n 1, 1) := by decide +kernel
theorem d14_85 : decode prog_197_method_1_code 85 = .ok (.iload 5, 2) := by decide +kernel
theorem d14_87 : decode prog_197_method_1_code 87 = .ok (.invokeinterface 46 2, 5) := by decide +kernel
theorem d14_92 : decode prog_197_method_1_code 92 = .ok (.checkcast 50, 3) := by decide +kernel
theorem d14_95 : decode prog_197_method_1_code 95 = .ok (.astore 6, 2) := by decide +kernel
theorem d14_97 : decode prog_197_method_1_code 97 = .ok (.aload 6, 2) := by decide +kernel
theorem d14_99 : decode prog_197_method_1_code 99 = .ok (.invokevirtual 52, 3) := by decide +kernel
theorem d14_102 : decode prog_197_method_1_code 102 = .ok (.i2l, 1) := by decide +kernel
theorem d14_103 : decode prog_197_method_1_code 103 = .ok (.aload 6, 2) := by decide +kernel
theorem d14_105 : decode prog_197_method_1_code 105 = .ok (.invokevirtual 55, 3) := by decide +kernel
theorem d14_108 : decode prog_197_method_1_code 108 = .ok (.i2l, 1) := by decide +kernel
theorem d14_109 : decode prog_197_method_1_code 109 = .ok (.lsub, 1) := by decide +kernel
theorem d14_110 : decode prog_197_method_1_code 110 = .ok (.lstore 7, 2) := by decide +kernel
theorem d14_112 : decode prog_197_method_1_code 112 = .ok (.bipush 64, 2) := by decide +kernel
theorem d14_114 : decode prog_197_method_1_code 114 = .ok (.lload 7, 2) := by decide +kernel
theorem d14_116 : decode prog_197_method_1_code 116 = .ok (.invokestatic 58, 3) := by decide +kernel
theorem d14_119 : decode prog_197_method_1_code 119 = .ok (.isub, 1) := by decide +kernel
theorem d14_120 : decode prog_197_method_1_code 120 = .ok (.istore 9, 2) := by decide +kernel
theorem d14_122 : decode prog_197_method_1_code 122 = .ok (.iload 4, 2) := by decide +kernel
theorem d14_124 : decode prog_197_method_1_code 124 = .ok (.iload 9, 2) := by decide +kernel
theorem d14_126 : decode prog_197_method_1_code 126 = .ok (.iadd, 1) := by decide +kernel
theorem d14_127 : decode prog_197_method_1_code 127 = .ok (.bipush 64, 2) := by decide +kernel
theorem d14_129 : decode prog_197_method_1_code 129 = .ok (.if_icmp .le 9, 3) := by decide +kernel
theorem d14_132 : decode prog_197_method_1_code 132 = .ok (.iinc 3 1, 3) := by decide +kernel
theorem d14_135 : decode prog_197_method_1_code 135 = .ok (.iconst 0, 1) := by decide +kernel
theorem d14_136 : decode prog_197_method_1_code 136 = .ok (.istore 4, 2) := by decide +kernel
theorem d14_138 : decode prog_197_method_1_code 138 = .ok (.aload_n 0, 1) := by decide +kernel
theorem d14_139 : decode prog_197_method_1_code 139 = .ok (.getfield 34, 3) := by decide +kernel
theorem d14_142 : decode prog_197_method_1_code 142 = .ok (.iload 5, 2) := by decide +kernel
theorem d14_144 : decode prog_197_method_1_code 144 = .ok (.aload 6, 2) := by decide +kernel
theorem d14_146 : decode prog_197_method_1_code 146 = .ok (.invokevirtual 55, 3) := by decide +kernel
theorem d14_149 : decode prog_197_method_1_code 149 = .ok (.iastore, 1) := by decide +kernel
theorem d14_150 : decode prog_197_method_1_code 150 = .ok (.aload_n 0, 1) := by decide +kernel
theorem d14_151 : decode prog_197_method_1_code 151 = .ok (.getfield 37, 3) := by decide +kernel
theorem d14_154 : decode prog_197_method_1_code 154 = .ok (.iload 5, 2) := by decide +kernel
theorem d14_156 : decode prog_197_method_1_code 156 = .ok (.iload_n 3, 1) := by decide +kernel
theorem d14_157 : decode prog_197_method_1_code 157 = .ok (.iastore, 1) := by decide +kernel
theorem d14_158 : decode prog_197_method_1_code 158 = .ok (.aload_n 0, 1) := by decide +kernel
theorem d14_159 : decode prog_197_method_1_code 159 = .ok (.getfield 40, 3) := by decide +kernel
theorem d14_162 : decode prog_197_method_1_code 162 = .ok (.iload 5, 2) := by decide +kernel
theorem d14_164 : decode prog_197_method_1_code 164 = .ok (.iload 4, 2) := by decide +kernel
theorem d14_166 : decode prog_197_method_1_code 166 = .ok (.iastore, 1) := by decide +kernel
theorem d14_167 : decode prog_197_method_1_code 167 = .ok (.aload_n 0, 1) := by decide +kernel
theorem d14_168 : decode prog_197_method_1_code 168 = .ok (.getfield 43, 3) := by decide +kernel
theorem d14_171 : decode prog_197_method_1_code 171 = .ok (.iload 5, 2) := by decide +kernel
theorem d14_173 : decode prog_197_method_1_code 173 = .ok (.lconst 1, 1) := by decide +kernel
theorem d14_174 : decode prog_197_method_1_code 174 = .ok (.iload 9, 2) := by decide +kernel
theorem d14_176 : decode prog_197_method_1_code 176 = .ok (.lshl, 1) := by decide +kernel
theorem d14_177 : decode prog_197_method_1_code 177 = .ok (.lconst 1, 1) := by decide +kernel
theorem d14_178 : decode prog_197_method_1_code 178 = .ok (.lsub, 1) := by decide +kernel
theorem d14_179 : decode prog_197_method_1_code 179 = .ok (.lastore, 1) := by decide +kernel
theorem d14_180 : decode prog_197_method_1_code 180 = .ok (.iload 4, 2) := by decide +kernel
theorem d14_182 : decode prog_197_method_1_code 182 = .ok (.iload 9, 2) := by decide +kernel
theorem d14_184 : decode prog_197_method_1_code 184 = .ok (.iadd, 1) := by decide +kernel
theorem d14_185 : decode prog_197_method_1_code 185 = .ok (.istore 4, 2) := by decide +kernel
theorem d14_187 : decode prog_197_method_1_code 187 = .ok (.iinc 5 1, 3) := by decide +kernel
theorem d14_190 : decode prog_197_method_1_code 190 = .ok (.goto (-112), 3) := by decide +kernel
theorem d14_193 : decode prog_197_method_1_code 193 = .ok (.aload_n 0, 1) := by decide +kernel
theorem d14_194 : decode prog_197_method_1_code 194 = .ok (.iload_n 3, 1) := by decide +kernel
theorem d14_195 : decode prog_197_method_1_code 195 = .ok (.iconst 1, 1) := by decide +kernel
theorem d14_196 : decode prog_197_method_1_code 196 = .ok (.iadd, 1) := by decide +kernel
theorem d14_197 : decode prog_197_method_1_code 197 = .ok (.putfield 64, 3) := by decide +kernel
theorem d14_200 : decode prog_197_method_1_code 200 = .ok (.aload_n 0, 1) := by decide +kernel
theorem d14_201 : decode prog_197_method_1_code 201 = .ok (.aload_n 0, 1) := by decide +kernel
theorem d14_202 : decode prog_197_method_1_code 202 = .ok (.getfield 64, 3) := by decide +kernel
theorem d14_205 : decode prog_197_method_1_code 205 = .ok (.newarray .long, 2) := by decide +kernel
theorem d14_207 : decode prog_197_method_1_code 207 = .ok (.putfield 67, 3) := by decide +kernel
theorem d14_210 : decode prog_197_method_1_code 210 = .ok (.return_, 1) := by decide +kernel
theorem d15_0 : decode prog_197_method_24_code 0 = .ok (.lconst 1, 1) := by decide +kernel
theorem d15_1 : decode prog_197_method_24_code 1 = .ok (.iload_n 0, 1) := by decide +kernel
theorem d15_2 : decode prog_197_method_24_code 2 = .ok (.lshl, 1) := by decide +kernel
theorem d15_3 : decode prog_197_method_24_code 3 = .ok (.invokestatic 152, 3) := by decide +kernel
theorem d15_6 : decode prog_197_method_24_code 6 = .ok (.newarray .int, 2) := by decide +kernel
theorem d15_8 : decode prog_197_method_24_code 8 = .ok (.astore_n 1, 1) := by decide +kernel
theorem d15_9 : decode prog_197_method_24_code 9 = .ok (.aload_n 1, 1) := by decide +kernel
theorem d15_10 : decode prog_197_method_24_code 10 = .ok (.iconst (-1), 1) := by decide +kernel
theorem d15_11 : decode prog_197_method_24_code 11 = .ok (.invokestatic 155, 3) := by decide +kernel
theorem d15_14 : decode prog_197_method_24_code 14 = .ok (.aload_n 1, 1) := by decide +kernel
theorem d15_15 : decode prog_197_method_24_code 15 = .ok (.areturn, 1) := by decide +kernel
theorem d16_0 : decode jdk_29_method_43_code 0 = .ok (.lload_n 0, 1) := by decide +kernel
theorem d16_1 : decode jdk_29_method_43_code 1 = .ok (.l2i, 1) := by decide +kernel
theorem d16_2 : decode jdk_29_method_43_code 2 = .ok (.i2l, 1) := by decide +kernel
theorem d16_3 : decode jdk_29_method_43_code 3 = .ok (.lload_n 0, 1) := by decide +kernel
theorem d16_4 : decode jdk_29_method_43_code 4 = .ok (.lcmp, 1) := by decide +kernel
theorem d16_5 : decode jdk_29_method_43_code 5 = .ok (.ifCond .eq 13, 3) := by decide +kernel
theorem d16_18 : decode jdk_29_method_43_code 18 = .ok (.lload_n 0, 1) := by decide +kernel
theorem d16_19 : decode jdk_29_method_43_code 19 = .ok (.l2i, 1) := by decide +kernel
theorem d16_20 : decode jdk_29_method_43_code 20 = .ok (.ireturn, 1) := by decide +kernel
theorem d17_0 : decode jdk_65_method_103_code 0 = .ok (.iconst 0, 1) := by decide +kernel
theorem d17_1 : decode jdk_65_method_103_code 1 = .ok (.istore_n 2, 1) := by decide +kernel
theorem d17_2 : decode jdk_65_method_103_code 2 = .ok (.aload_n 0, 1) := by decide +kernel
theorem d17_3 : decode jdk_65_method_103_code 3 = .ok (.arraylength, 1) := by decide +kernel
theorem d17_4 : decode jdk_65_method_103_code 4 = .ok (.istore_n 3, 1) := by decide +kernel
theorem d17_5 : decode jdk_65_method_103_code 5 = .ok (.iload_n 2, 1) := by decide +kernel
theorem d17_6 : decode jdk_65_method_103_code 6 = .ok (.iload_n 3, 1) := by decide +kernel
theorem d17_7 : decode jdk_65_method_103_code 7 = .ok (.if_icmp .ge 13, 3) := by decide +kernel
theorem d17_10 : decode jdk_65_method_103_code 10 = .ok (.aload_n 0, 1) := by decide +kernel
theorem d17_11 : decode jdk_65_method_103_code 11 = .ok (.iload_n 2, 1) := by decide +kernel
theorem d17_12 : decode jdk_65_method_103_code 12 = .ok (.iload_n 1, 1) := by decide +kernel
theorem d17_13 : decode jdk_65_method_103_code 13 = .ok (.iastore, 1) := by decide +kernel
theorem d17_14 : decode jdk_65_method_103_code 14 = .ok (.iinc 2 1, 3) := by decide +kernel
theorem d17_17 : decode jdk_65_method_103_code 17 = .ok (.goto (-12), 3) := by decide +kernel
theorem d17_20 : decode jdk_65_method_103_code 20 = .ok (.return_, 1) := by decide +kernel
theorem d18_0 : decode jdk_38_method_8_code 0 = .ok (.aload_n 0, 1) := by decide +kernel
theorem d18_1 : decode jdk_38_method_8_code 1 = .ok (.getfield 48, 3) := by decide +kernel
theorem d18_4 : decode jdk_38_method_8_code 4 = .ok (.ireturn, 1) := by decide +kernel
theorem d19_0 : decode jdk_38_method_20_code 0 = .ok (.iload_n 1, 1) := by decide +kernel
theorem d19_1 : decode jdk_38_method_20_code 1 = .ok (.aload_n 0, 1) := by decide +kernel
theorem d19_2 : decode jdk_38_method_20_code 2 = .ok (.getfield 48, 3) := by decide +kernel
theorem d19_5 : decode jdk_38_method_20_code 5 = .ok (.invokestatic 118, 3) := by decide +kernel
theorem d19_8 : decode jdk_38_method_20_code 8 = .ok (.pop, 1) := by decide +kernel
theorem d19_9 : decode jdk_38_method_20_code 9 = .ok (.aload_n 0, 1) := by decide +kernel
theorem d19_10 : decode jdk_38_method_20_code 10 = .ok (.iload_n 1, 1) := by decide +kernel
theorem d19_11 : decode jdk_38_method_20_code 11 = .ok (.invokevirtual 123, 3) := by decide +kernel
theorem d19_14 : decode jdk_38_method_20_code 14 = .ok (.areturn, 1) := by decide +kernel
theorem d20_0 : decode jdk_31_method_17_code 0 = .ok (.iload_n 0, 1) := by decide +kernel
theorem d20_1 : decode jdk_31_method_17_code 1 = .ok (.iload_n 1, 1) := by decide +kernel
theorem d20_2 : decode jdk_31_method_17_code 2 = .ok (.aconst_null, 1) := by decide +kernel
theorem d20_3 : decode jdk_31_method_17_code 3 = .ok (.invokestatic 105, 3) := by decide +kernel
theorem d20_6 : decode jdk_31_method_17_code 6 = .ok (.ireturn, 1) := by decide +kernel
theorem d21_0 : decode jdk_41_method_11_code 0 = .ok (.iload_n 0, 1) := by decide +kernel
theorem d21_1 : decode jdk_41_method_11_code 1 = .ok (.ifCond .lt 8, 3) := by decide +kernel
theorem d21_4 : decode jdk_41_method_11_code 4 = .ok (.iload_n 0, 1) := by decide +kernel
theorem d21_5 : decode jdk_41_method_11_code 5 = .ok (.iload_n 1, 1) := by decide +kernel
theorem d21_6 : decode jdk_41_method_11_code 6 = .ok (.if_icmp .lt 10, 3) := by decide +kernel
theorem d21_16 : decode jdk_41_method_11_code 16 = .ok (.iload_n 0, 1) := by decide +kernel
theorem d21_17 : decode jdk_41_method_11_code 17 = .ok (.ireturn, 1) := by decide +kernel
theorem d22_0 : decode jdk_38_method_18_code 0 = .ok (.aload_n 0, 1) := by decide +kernel
theorem d22_1 : decode jdk_38_method_18_code 1 = .ok (.getfield 9, 3) := by decide +kernel
theorem d22_4 : decode jdk_38_method_18_code 4 = .ok (.iload_n 1, 1) := by decide +kernel
theorem d22_5 : decode jdk_38_method_18_code 5 = .ok (.aaload, 1) := by decide +kernel
theorem d22_6 : decode jdk_38_method_18_code 6 = .ok (.areturn, 1) := by decide +kernel
theorem d23_0 : decode prog_172_method_10_code 0 = .ok (.aload_n 0, 1) := by decide +kernel
theorem d23_1 : decode prog_172_method_10_code 1 = .ok (.getfield 21, 3) := by decide +kernel
theorem d23_4 : decode prog_172_method_10_code 4 = .ok (.ireturn, 1) := by decide +kernel
theorem d24_0 : decode prog_172_method_9_code 0 = .ok (.aload_n 0, 1) := by decide +kernel
theorem d24_1 : decode prog_172_method_9_code 1 = .ok (.getfield 17, 3) := by decide +kernel
theorem d24_4 : decode prog_172_method_9_code 4 = .ok (.ireturn, 1) := by decide +kernel
theorem d25_0 : decode jdk_35_method_48_code 0 = .ok (.lload_n 0, 1) := by decide +kernel
theorem d25_1 : decode jdk_35_method_48_code 1 = .ok (.bipush 32, 2) := by decide +kernel
theorem d25_3 : decode jdk_35_method_48_code 3 = .ok (.lushr, 1) := by decide +kernel
theorem d25_4 : decode jdk_35_method_48_code 4 = .ok (.l2i, 1) := by decide +kernel
theorem d25_5 : decode jdk_35_method_48_code 5 = .ok (.istore_n 2, 1) := by decide +kernel
theorem d25_6 : decode jdk_35_method_48_code 6 = .ok (.iload_n 2, 1) := by decide +kernel
theorem d25_7 : decode jdk_35_method_48_code 7 = .ok (.ifCond .ne 14, 3) := by decide +kernel
theorem d25_10 : decode jdk_35_method_48_code 10 = .ok (.bipush 32, 2) := by decide +kernel
theorem d25_12 : decode jdk_35_method_48_code 12 = .ok (.lload_n 0, 1) := by decide +kernel
theorem d25_13 : decode jdk_35_method_48_code 13 = .ok (.l2i, 1) := by decide +kernel
theorem d25_14 : decode jdk_35_method_48_code 14 = .ok (.invokestatic 308, 3) := by decide +kernel
theorem d25_17 : decode jdk_35_method_48_code 17 = .ok (.iadd, 1) := by decide +kernel
theorem d25_18 : decode jdk_35_method_48_code 18 = .ok (.goto 7, 3) := by decide +kernel
theorem d25_25 : decode jdk_35_method_48_code 25 = .ok (.ireturn, 1) := by decide +kernel
theorem d26_0 : decode jdk_33_method_47_code 0 = .ok (.iload_n 0, 1) := by decide +kernel
theorem d26_1 : decode jdk_33_method_47_code 1 = .ok (.ifCond .gt 14, 3) := by decide +kernel
theorem d26_4 : decode jdk_33_method_47_code 4 = .ok (.iload_n 0, 1) := by decide +kernel
theorem d26_5 : decode jdk_33_method_47_code 5 = .ok (.ifCond .ne 8, 3) := by decide +kernel
theorem d26_8 : decode jdk_33_method_47_code 8 = .ok (.bipush 32, 2) := by decide +kernel
theorem d26_10 : decode jdk_33_method_47_code 10 = .ok (.goto 4, 3) := by decide +kernel
theorem d26_13 : decode jdk_33_method_47_code 13 = .ok (.iconst 0, 1) := by decide +kernel
theorem d26_14 : decode jdk_33_method_47_code 14 = .ok (.ireturn, 1) := by decide +kernel
theorem d26_15 : decode jdk_33_method_47_code 15 = .ok (.bipush 31, 2) := by decide +kernel
theorem d26_17 : decode jdk_33_method_47_code 17 = .ok (.istore_n 1, 1) := by decide +kernel
theorem d26_18 : decode jdk_33_method_47_code 18 = .ok (.iload_n 0, 1) := by decide +kernel
theorem d26_19 : decode jdk_33_method_47_code 19 = .ok (.ldc_w 264, 3) := by decide +kernel
theorem d26_22 : decode jdk_33_method_47_code 22 = .ok (.if_icmp .lt 11, 3) := by decide +kernel
theorem d26_25 : decode jdk_33_method_47_code 25 = .ok (.iinc 1 (-16), 3) := by decide +kernel
theorem d26_28 : decode jdk_33_method_47_code 28 = .ok (.iload_n 0, 1) := by decide +kernel
theorem d26_29 : decode jdk_33_method_47_code 29 = .ok (.bipush 16, 2) := by decide +kernel
theorem d26_31 : decode jdk_33_method_47_code 31 = .ok (.iushr, 1) := by decide +kernel
theorem d26_32 : decode jdk_33_method_47_code 32 = .ok (.istore_n 0, 1) := by decide +kernel
theorem d26_33 : decode jdk_33_method_47_code 33 = .ok (.iload_n 0, 1) := by decide +kernel
theorem d26_34 : decode jdk_33_method_47_code 34 = .ok (.sipush 256, 3) := by decide +kernel
theorem d26_37 : decode jdk_33_method_47_code 37 = .ok (.if_icmp .lt 11, 3) := by decide +kernel
theorem d26_40 : decode jdk_33_method_47_code 40 = .ok (.iinc 1 (-8), 3) := by decide +kernel
theorem d26_43 : decode jdk_33_method_47_code 43 = .ok (.iload_n 0, 1) := by decide +kernel
theorem d26_44 : decode jdk_33_method_47_code 44 = .ok (.bipush 8, 2) := by decide +kernel
theorem d26_46 : decode jdk_33_method_47_code 46 = .ok (.iushr, 1) := by decide +kernel
theorem d26_47 : decode jdk_33_method_47_code 47 = .ok (.istore_n 0, 1) := by decide +kernel
theorem d26_48 : decode jdk_33_method_47_code 48 = .ok (.iload_n 0, 1) := by decide +kernel
theorem d26_49 : decode jdk_33_method_47_code 49 = .ok (.bipush 16, 2) := by decide +kernel
theorem d26_51 : decode jdk_33_method_47_code 51 = .ok (.if_icmp .lt 10, 3) := by decide +kernel
theorem d26_54 : decode jdk_33_method_47_code 54 = .ok (.iinc 1 (-4), 3) := by decide +kernel
theorem d26_57 : decode jdk_33_method_47_code 57 = .ok (.iload_n 0, 1) := by decide +kernel
theorem d26_58 : decode jdk_33_method_47_code 58 = .ok (.iconst 4, 1) := by decide +kernel
theorem d26_59 : decode jdk_33_method_47_code 59 = .ok (.iushr, 1) := by decide +kernel
theorem d26_60 : decode jdk_33_method_47_code 60 = .ok (.istore_n 0, 1) := by decide +kernel
theorem d26_61 : decode jdk_33_method_47_code 61 = .ok (.iload_n 0, 1) := by decide +kernel
theorem d26_62 : decode jdk_33_method_47_code 62 = .ok (.iconst 4, 1) := by decide +kernel
theorem d26_63 : decode jdk_33_method_47_code 63 = .ok (.if_icmp .lt 10, 3) := by decide +kernel
theorem d26_66 : decode jdk_33_method_47_code 66 = .ok (.iinc 1 (-2), 3) := by decide +kernel
theorem d26_69 : decode jdk_33_method_47_code 69 = .ok (.iload_n 0, 1) := by decide +kernel
theorem d26_70 : decode jdk_33_method_47_code 70 = .ok (.iconst 2, 1) := by decide +kernel
theorem d26_71 : decode jdk_33_method_47_code 71 = .ok (.iushr, 1) := by decide +kernel
theorem d26_72 : decode jdk_33_method_47_code 72 = .ok (.istore_n 0, 1) := by decide +kernel
theorem d26_73 : decode jdk_33_method_47_code 73 = .ok (.iload_n 1, 1) := by decide +kernel
theorem d26_74 : decode jdk_33_method_47_code 74 = .ok (.iload_n 0, 1) := by decide +kernel
theorem d26_75 : decode jdk_33_method_47_code 75 = .ok (.iconst 1, 1) := by decide +kernel
theorem d26_76 : decode jdk_33_method_47_code 76 = .ok (.iushr, 1) := by decide +kernel
theorem d26_77 : decode jdk_33_method_47_code 77 = .ok (.isub, 1) := by decide +kernel
theorem d26_78 : decode jdk_33_method_47_code 78 = .ok (.ireturn, 1) := by decide +kernel
theorem d27_0 : decode method_4_code 0 = .ok (.iload_n 1, 1) := by decide +kernel
theorem d27_1 : decode method_4_code 1 = .ok (.i2l, 1) := by decide +kernel
theorem d27_2 : decode method_4_code 2 = .ok (.iload_n 0, 1) := by decide +kernel
theorem d27_3 : decode method_4_code 3 = .ok (.i2l, 1) := by decide +kernel
theorem d27_4 : decode method_4_code 4 = .ok (.lsub, 1) := by decide +kernel
theorem d27_5 : decode method_4_code 5 = .ok (.lstore 4, 2) := by decide +kernel
theorem d27_7 : decode method_4_code 7 = .ok (.iload_n 0, 1) := by decide +kernel
theorem d27_8 : decode method_4_code 8 = .ok (.i2l, 1) := by decide +kernel
theorem d27_9 : decode method_4_code 9 = .ok (.lload_n 2, 1) := by decide +kernel
theorem d27_10 : decode method_4_code 10 = .ok (.ldc2_w 11, 3) := by decide +kernel
theorem d27_13 : decode method_4_code 13 = .ok (.land, 1) := by decide +kernel
theorem d27_14 : decode method_4_code 14 = .ok (.lload 4, 2) := by decide +kernel
theorem d27_16 : decode method_4_code 16 = .ok (.lconst 1, 1) := by decide +kernel
theorem d27_17 : decode method_4_code 17 = .ok (.ladd, 1) := by decide +kernel
theorem d27_18 : decode method_4_code 18 = .ok (.lrem, 1) := by decide +kernel
theorem d27_19 : decode method_4_code 19 = .ok (.ladd, 1) := by decide +kernel
theorem d27_20 : decode method_4_code 20 = .ok (.l2i, 1) := by decide +kernel
theorem d27_21 : decode method_4_code 21 = .ok (.ireturn, 1) := by decide +kernel
theorem d28_0 : decode prog_197_method_5_code 0 = .ok (.aload_n 0, 1) := by decide +kernel
theorem d28_1 : decode prog_197_method_5_code 1 = .ok (.invokevirtual 72, 3) := by decide +kernel
theorem d28_4 : decode prog_197_method_5_code 4 = .ok (.aload_n 0, 1) := by decide +kernel
theorem d28_5 : decode prog_197_method_5_code 5 = .ok (.aload_n 1, 1) := by decide +kernel
theorem d28_6 : decode prog_197_method_5_code 6 = .ok (.invokevirtual 75, 3) := by decide +kernel
theorem d28_9 : decode prog_197_method_5_code 9 = .ok (.aload_n 0, 1) := by decide +kernel
theorem d28_10 : decode prog_197_method_5_code 10 = .ok (.aload_n 0, 1) := by decide +kernel
theorem d28_11 : decode prog_197_method_5_code 11 = .ok (.getfield 67, 3) := by decide +kernel
theorem d28_14 : decode prog_197_method_5_code 14 = .ok (.iconst 0, 1) := by decide +kernel
theorem d28_15 : decode prog_197_method_5_code 15 = .ok (.aload_n 0, 1) := by decide +kernel
theorem d28_16 : decode prog_197_method_5_code 16 = .ok (.aload_n 0, 1) := by decide +kernel
theorem d28_17 : decode prog_197_method_5_code 17 = .ok (.getfield 67, 3) := by decide +kernel
theorem d28_20 : decode prog_197_method_5_code 20 = .ok (.iconst 0, 1) := by decide +kernel
theorem d28_21 : decode prog_197_method_5_code 21 = .ok (.invokevirtual 79, 3) := by decide +kernel
theorem d28_24 : decode prog_197_method_5_code 24 = .ok (.invokevirtual 83, 3) := by decide +kernel
theorem d28_27 : decode prog_197_method_5_code 27 = .ok (.ireturn, 1) := by decide +kernel
theorem d29_0 : decode prog_197_method_9_code 0 = .ok (.aload_n 0, 1) := by decide +kernel
theorem d29_1 : decode prog_197_method_9_code 1 = .ok (.getfield 21, 3) := by decide +kernel
theorem d29_4 : decode prog_197_method_9_code 4 = .ok (.ifnonnull 11, 3) := by decide +kernel
theorem d29_15 : decode prog_197_method_9_code 15 = .ok (.return_, 1) := by decide +kernel
theorem d30_0 : decode prog_197_method_13_code 0 = .ok (.aload_n 0, 1) := by decide +kernel
theorem d30_1 : decode prog_197_method_13_code 1 = .ok (.getfield 67, 3) := by decide +kernel
theorem d30_4 : decode prog_197_method_13_code 4 = .ok (.lconst 0, 1) := by decide +kernel
theorem d30_5 : decode prog_197_method_13_code 5 = .ok (.invokestatic 124, 3) := by decide +kernel
theorem d30_8 : decode prog_197_method_13_code 8 = .ok (.iconst 0, 1) := by decide +kernel
theorem d30_9 : decode prog_197_method_13_code 9 = .ok (.istore_n 2, 1) := by decide +kernel
theorem d30_10 : decode prog_197_method_13_code 10 = .ok (.iload_n 2, 1) := by decide +kernel
theorem d30_11 : decode prog_197_method_13_code 11 = .ok (.aload_n 0, 1) := by decide +kernel
theorem d30_12 : decode prog_197_method_13_code 12 = .ok (.getfield 34, 3) := by decide +kernel
theorem d30_15 : decode prog_197_method_13_code 15 = .ok (.arraylength, 1) := by decide +kernel
theorem d30_16 : decode prog_197_method_13_code 16 = .ok (.if_icmp .ge 42, 3) := by decide +kernel
theorem d30_19 : decode prog_197_method_13_code 19 = .ok (.aload_n 0, 1) := by decide +kernel
theorem d30_20 : decode prog_197_method_13_code 20 = .ok (.getfield 67, 3) := by decide +kernel
theorem d30_23 : decode prog_197_method_13_code 23 = .ok (.aload_n 0, 1) := by decide +kernel
theorem d30_24 : decode prog_197_method_13_code 24 = .ok (.getfield 37, 3) := by decide +kernel
theorem d30_27 : decode prog_197_method_13_code 27 = .ok (.iload_n 2, 1) := by decide +kernel
theorem d30_28 : decode prog_197_method_13_code 28 = .ok (.iaload, 1) := by decide +kernel
theorem d30_29 : decode prog_197_method_13_code 29 = .ok (.dup2, 1) := by decide +kernel
theorem d30_30 : decode prog_197_method_13_code 30 = .ok (.laload, 1) := by decide +kernel
theorem d30_31 : decode prog_197_method_13_code 31 = .ok (.aload_n 1, 1) := by decide +kernel
theorem d30_32 : decode prog_197_method_13_code 32 = .ok (.iload_n 2, 1) := by decide +kernel
theorem d30_33 : decode prog_197_method_13_code 33 = .ok (.iaload, 1) := by decide +kernel
theorem d30_34 : decode prog_197_method_13_code 34 = .ok (.i2l, 1) := by decide +kernel
theorem d30_35 : decode prog_197_method_13_code 35 = .ok (.aload_n 0, 1) := by decide +kernel
theorem d30_36 : decode prog_197_method_13_code 36 = .ok (.getfield 34, 3) := by decide +kernel
theorem d30_39 : decode prog_197_method_13_code 39 = .ok (.iload_n 2, 1) := by decide +kernel
theorem d30_40 : decode prog_197_method_13_code 40 = .ok (.iaload, 1) := by decide +kernel
theorem d30_41 : decode prog_197_method_13_code 41 = .ok (.i2l, 1) := by decide +kernel
theorem d30_42 : decode prog_197_method_13_code 42 = .ok (.lsub, 1) := by decide +kernel
theorem d30_43 : decode prog_197_method_13_code 43 = .ok (.aload_n 0, 1) := by decide +kernel
theorem d30_44 : decode prog_197_method_13_code 44 = .ok (.getfield 40, 3) := by decide +kernel
theorem d30_47 : decode prog_197_method_13_code 47 = .ok (.iload_n 2, 1) := by decide +kernel
theorem d30_48 : decode prog_197_method_13_code 48 = .ok (.iaload, 1) := by decide +kernel
theorem d30_49 : decode prog_197_method_13_code 49 = .ok (.lshl, 1) := by decide +kernel
theorem d30_50 : decode prog_197_method_13_code 50 = .ok (.lor, 1) := by decide +kernel
theorem d30_51 : decode prog_197_method_13_code 51 = .ok (.lastore, 1) := by decide +kernel
theorem d30_52 : decode prog_197_method_13_code 52 = .ok (.iinc 2 1, 3) := by decide +kernel
theorem d30_55 : decode prog_197_method_13_code 55 = .ok (.goto (-45), 3) := by decide +kernel
theorem d30_58 : decode prog_197_method_13_code 58 = .ok (.return_, 1) := by decide +kernel
theorem d31_0 : decode jdk_65_method_101_code 0 = .ok (.iconst 0, 1) := by decide +kernel
theorem d31_1 : decode jdk_65_method_101_code 1 = .ok (.istore_n 3, 1) := by decide +kernel
theorem d31_2 : decode jdk_65_method_101_code 2 = .ok (.aload_n 0, 1) := by decide +kernel
theorem d31_3 : decode jdk_65_method_101_code 3 = .ok (.arraylength, 1) := by decide +kernel
theorem d31_4 : decode jdk_65_method_101_code 4 = .ok (.istore 4, 2) := by decide +kernel
theorem d31_6 : decode jdk_65_method_101_code 6 = .ok (.iload_n 3, 1) := by decide +kernel
theorem d31_7 : decode jdk_65_method_101_code 7 = .ok (.iload 4, 2) := by decide +kernel
theorem d31_9 : decode jdk_65_method_101_code 9 = .ok (.if_icmp .ge 13, 3) := by decide +kernel
theorem d31_12 : decode jdk_65_method_101_code 12 = .ok (.aload_n 0, 1) := by decide +kernel
theorem d31_13 : decode jdk_65_method_101_code 13 = .ok (.iload_n 3, 1) := by decide +kernel
theorem d31_14 : decode jdk_65_method_101_code 14 = .ok (.lload_n 1, 1) := by decide +kernel
theorem d31_15 : decode jdk_65_method_101_code 15 = .ok (.lastore, 1) := by decide +kernel
theorem d31_16 : decode jdk_65_method_101_code 16 = .ok (.iinc 3 1, 3) := by decide +kernel
theorem d31_19 : decode jdk_65_method_101_code 19 = .ok (.goto (-13), 3) := by decide +kernel
theorem d31_22 : decode jdk_65_method_101_code 22 = .ok (.return_, 1) := by decide +kernel
theorem d32_0 : decode prog_197_method_25_code 0 = .ok (.lconst 0, 1) := by decide +kernel
theorem d32_1 : decode prog_197_method_25_code 1 = .ok (.lstore_n 3, 1) := by decide +kernel
theorem d32_2 : decode prog_197_method_25_code 2 = .ok (.iload_n 2, 1) := by decide +kernel
theorem d32_3 : decode prog_197_method_25_code 3 = .ok (.istore 5, 2) := by decide +kernel
theorem d32_5 : decode prog_197_method_25_code 5 = .ok (.iload 5, 2) := by decide +kernel
theorem d32_7 : decode prog_197_method_25_code 7 = .ok (.iload_n 2, 1) := by decide +kernel
theorem d32_8 : decode prog_197_method_25_code 8 = .ok (.aload_n 0, 1) := by decide +kernel
theorem d32_9 : decode prog_197_method_25_code 9 = .ok (.getfield 64, 3) := by decide +kernel
theorem d32_12 : decode prog_197_method_25_code 12 = .ok (.iadd, 1) := by decide +kernel
theorem d32_13 : decode prog_197_method_25_code 13 = .ok (.if_icmp .ge 20, 3) := by decide +kernel
theorem d32_16 : decode prog_197_method_25_code 16 = .ok (.lload_n 3, 1) := by decide +kernel
theorem d32_17 : decode prog_197_method_25_code 17 = .ok (.aload_n 1, 1) := by decide +kernel
theorem d32_18 : decode prog_197_method_25_code 18 = .ok (.iload 5, 2) := by decide +kernel
theorem d32_20 : decode prog_197_method_25_code 20 = .ok (.laload, 1) := by decide +kernel
theorem d32_21 : decode prog_197_method_25_code 21 = .ok (.ladd, 1) := by decide +kernel
theorem d32_22 : decode prog_197_method_25_code 22 = .ok (.ldc2_w 158, 3) := by decide +kernel
theorem d32_25 : decode prog_197_method_25_code 25 = .ok (.lmul, 1) := by decide +kernel
theorem d32_26 : decode prog_197_method_25_code 26 = .ok (.lstore_n 3, 1) := by decide +kernel
theorem d32_27 : decode prog_197_method_25_code 27 = .ok (.iinc 5 1, 3) := by decide +kernel
theorem d32_30 : decode prog_197_method_25_code 30 = .ok (.goto (-25), 3) := by decide +kernel
theorem d32_33 : decode prog_197_method_25_code 33 = .ok (.lload_n 3, 1) := by decide +kernel
theorem d32_34 : decode prog_197_method_25_code 34 = .ok (.lload_n 3, 1) := by decide +kernel
theorem d32_35 : decode prog_197_method_25_code 35 = .ok (.bipush 29, 2) := by decide +kernel
theorem d32_37 : decode prog_197_method_25_code 37 = .ok (.lushr, 1) := by decide +kernel
theorem d32_38 : decode prog_197_method_25_code 38 = .ok (.lxor, 1) := by decide +kernel
theorem d32_39 : decode prog_197_method_25_code 39 = .ok (.lstore_n 3, 1) := by decide +kernel
theorem d32_40 : decode prog_197_method_25_code 40 = .ok (.lload_n 3, 1) := by decide +kernel
theorem d32_41 : decode prog_197_method_25_code 41 = .ok (.ldc2_w 160, 3) := by decide +kernel
theorem d32_44 : decode prog_197_method_25_code 44 = .ok (.lmul, 1) := by decide +kernel
theorem d32_45 : decode prog_197_method_25_code 45 = .ok (.lstore_n 3, 1) := by decide +kernel
theorem d32_46 : decode prog_197_method_25_code 46 = .ok (.lload_n 3, 1) := by decide +kernel
theorem d32_47 : decode prog_197_method_25_code 47 = .ok (.lload_n 3, 1) := by decide +kernel
theorem d32_48 : decode prog_197_method_25_code 48 = .ok (.bipush 32, 2) := by decide +kernel
theorem d32_50 : decode prog_197_method_25_code 50 = .ok (.lushr, 1) := by decide +kernel
theorem d32_51 : decode prog_197_method_25_code 51 = .ok (.lxor, 1) := by decide +kernel
theorem d32_52 : decode prog_197_method_25_code 52 = .ok (.lstore_n 3, 1) := by decide +kernel
theorem d32_53 : decode prog_197_method_25_code 53 = .ok (.lload_n 3, 1) := by decide +kernel
theorem d32_54 : decode prog_197_method_25_code 54 = .ok (.l2i, 1) := by decide +kernel
theorem d32_55 : decode prog_197_method_25_code 55 = .ok (.ireturn, 1) := by decide +kernel
theorem d33_0 : decode prog_197_method_16_code 0 = .ok (.aload_n 0, 1) := by decide +kernel
theorem d33_1 : decode prog_197_method_16_code 1 = .ok (.aload_n 1, 1) := by decide +kernel
theorem d33_2 : decode prog_197_method_16_code 2 = .ok (.iload_n 2, 1) := by decide +kernel
theorem d33_3 : decode prog_197_method_16_code 3 = .ok (.iload_n 3, 1) := by decide +kernel
theorem d33_4 : decode prog_197_method_16_code 4 = .ok (.invokevirtual 100, 3) := by decide +kernel
theorem d33_7 : decode prog_197_method_16_code 7 = .ok (.istore 4, 2) := by decide +kernel
theorem d33_9 : decode prog_197_method_16_code 9 = .ok (.aload_n 0, 1) := by decide +kernel
theorem d33_10 : decode prog_197_method_16_code 10 = .ok (.getfield 21, 3) := by decide +kernel
theorem d33_13 : decode prog_197_method_16_code 13 = .ok (.iload 4, 2) := by decide +kernel
theorem d33_15 : decode prog_197_method_16_code 15 = .ok (.iaload, 1) := by decide +kernel
theorem d33_16 : decode prog_197_method_16_code 16 = .ok (.iconst (-1), 1) := by decide +kernel
theorem d33_17 : decode prog_197_method_16_code 17 = .ok (.if_icmp .eq 15, 3) := by decide +kernel
theorem d33_20 : decode prog_197_method_16_code 20 = .ok (.aload_n 0, 1) := by decide +kernel
theorem d33_21 : decode prog_197_method_16_code 21 = .ok (.aload_n 0, 1) := by decide +kernel
theorem d33_22 : decode prog_197_method_16_code 22 = .ok (.getfield 21, 3) := by decide +kernel
theorem d33_25 : decode prog_197_method_16_code 25 = .ok (.iload 4, 2) := by decide +kernel
theorem d33_27 : decode prog_197_method_16_code 27 = .ok (.iaload, 1) := by decide +kernel
theorem d33_28 : decode prog_197_method_16_code 28 = .ok (.invokevirtual 103, 3) := by decide +kernel
theorem d33_31 : decode prog_197_method_16_code 31 = .ok (.ireturn, 1) := by decide +kernel
theorem d33_32 : decode prog_197_method_16_code 32 = .ok (.aload_n 0, 1) := by decide +kernel
theorem d33_33 : decode prog_197_method_16_code 33 = .ok (.getfield 70, 3) := by decide +kernel
theorem d33_36 : decode prog_197_method_16_code 36 = .ok (.iconst 1, 1) := by decide +kernel
theorem d33_37 : decode prog_197_method_16_code 37 = .ok (.iadd, 1) := by decide +kernel
theorem d33_38 : decode prog_197_method_16_code 38 = .ok (.aload_n 0, 1) := by decide +kernel
theorem d33_39 : decode prog_197_method_16_code 39 = .ok (.getfield 64, 3) := by decide +kernel
theorem d33_42 : decode prog_197_method_16_code 42 = .ok (.invokestatic 87, 3) := by decide +kernel
theorem d33_45 : decode prog_197_method_16_code 45 = .ok (.istore 5, 2) := by decide +kernel
theorem d33_47 : decode prog_197_method_16_code 47 = .ok (.iload 5, 2) := by decide +kernel
theorem d33_49 : decode prog_197_method_16_code 49 = .ok (.aload_n 0, 1) := by decide +kernel
theorem d33_50 : decode prog_197_method_16_code 50 = .ok (.getfield 7, 3) := by decide +kernel
theorem d33_53 : decode prog_197_method_16_code 53 = .ok (.arraylength, 1) := by decide +kernel
theorem d33_54 : decode prog_197_method_16_code 54 = .ok (.if_icmp .le 38, 3) := by decide +kernel
theorem d33_57 : decode prog_197_method_16_code 57 = .ok (.sipush 1024, 3) := by decide +kernel
theorem d33_60 : decode prog_197_method_16_code 60 = .ok (.aload_n 0, 1) := by decide +kernel
theorem d33_61 : decode prog_197_method_16_code 61 = .ok (.getfield 7, 3) := by decide +kernel
theorem d33_64 : decode prog_197_method_16_code 64 = .ok (.arraylength, 1) := by decide +kernel
theorem d33_65 : decode prog_197_method_16_code 65 = .ok (.iconst 2, 1) := by decide +kernel
theorem d33_66 : decode prog_197_method_16_code 66 = .ok (.invokestatic 87, 3) := by decide +kernel
theorem d33_69 : decode prog_197_method_16_code 69 = .ok (.invokestatic 93, 3) := by decide +kernel
theorem d33_72 : decode prog_197_method_16_code 72 = .ok (.istore 6, 2) := by decide +kernel
theorem d33_74 : decode prog_197_method_16_code 74 = .ok (.aload_n 0, 1) := by decide +kernel
theorem d33_75 : decode prog_197_method_16_code 75 = .ok (.aload_n 0, 1) := by decide +kernel
theorem d33_76 : decode prog_197_method_16_code 76 = .ok (.getfield 7, 3) := by decide +kernel
theorem d33_79 : decode prog_197_method_16_code 79 = .ok (.iload 5, 2) := by decide +kernel
theorem d33_81 : decode prog_197_method_16_code 81 = .ok (.iload 6, 2) := by decide +kernel
theorem d33_83 : decode prog_197_method_16_code 83 = .ok (.invokestatic 93, 3) := by decide +kernel
theorem d33_86 : decode prog_197_method_16_code 86 = .ok (.invokestatic 107, 3) := by decide +kernel
theorem d33_89 : decode prog_197_method_16_code 89 = .ok (.putfield 7, 3) := by decide +kernel
theorem d33_92 : decode prog_197_method_16_code 92 = .ok (.aload_n 1, 1) := by decide +kernel
theorem d33_93 : decode prog_197_method_16_code 93 = .ok (.iload_n 2, 1) := by decide +kernel
theorem d33_94 : decode prog_197_method_16_code 94 = .ok (.aload_n 0, 1) := by decide +kernel
theorem d33_95 : decode prog_197_method_16_code 95 = .ok (.getfield 7, 3) := by decide +kernel
theorem d33_98 : decode prog_197_method_16_code 98 = .ok (.aload_n 0, 1) := by decide +kernel
theorem d33_99 : decode prog_197_method_16_code 99 = .ok (.getfield 70, 3) := by decide +kernel
theorem d33_102 : decode prog_197_method_16_code 102 = .ok (.aload_n 0, 1) := by decide +kernel
theorem d33_103 : decode prog_197_method_16_code 103 = .ok (.getfield 64, 3) := by decide +kernel
theorem d33_106 : decode prog_197_method_16_code 106 = .ok (.imul, 1) := by decide +kernel
theorem d33_107 : decode prog_197_method_16_code 107 = .ok (.aload_n 0, 1) := by decide +kernel
theorem d33_108 : decode prog_197_method_16_code 108 = .ok (.getfield 64, 3) := by decide +kernel
theorem d33_111 : decode prog_197_method_16_code 111 = .ok (.invokestatic 116, 3) := by decide +kernel
theorem d33_114 : decode prog_197_method_16_code 114 = .ok (.aload_n 0, 1) := by decide +kernel
theorem d33_115 : decode prog_197_method_16_code 115 = .ok (.getfield 21, 3) := by decide +kernel
theorem d33_118 : decode prog_197_method_16_code 118 = .ok (.iload 4, 2) := by decide +kernel
theorem d33_120 : decode prog_197_method_16_code 120 = .ok (.aload_n 0, 1) := by decide +kernel
theorem d33_121 : decode prog_197_method_16_code 121 = .ok (.aload_n 0, 1) := by decide +kernel
theorem d33_122 : decode prog_197_method_16_code 122 = .ok (.getfield 70, 3) := by decide +kernel
theorem d33_125 : decode prog_197_method_16_code 125 = .ok (.iload_n 3, 1) := by decide +kernel
theorem d33_126 : decode prog_197_method_16_code 126 = .ok (.invokevirtual 139, 3) := by decide +kernel
theorem d33_129 : decode prog_197_method_16_code 129 = .ok (.iastore, 1) := by decide +kernel
theorem d33_130 : decode prog_197_method_16_code 130 = .ok (.aload_n 0, 1) := by decide +kernel
theorem d33_131 : decode prog_197_method_16_code 131 = .ok (.dup, 1) := by decide +kernel
theorem d33_132 : decode prog_197_method_16_code 132 = .ok (.getfield 70, 3) := by decide +kernel
theorem d33_135 : decode prog_197_method_16_code 135 = .ok (.iconst 1, 1) := by decide +kernel
theorem d33_136 : decode prog_197_method_16_code 136 = .ok (.iadd, 1) := by decide +kernel
theorem d33_137 : decode prog_197_method_16_code 137 = .ok (.putfield 70, 3) := by decide +kernel
theorem d33_140 : decode prog_197_method_16_code 140 = .ok (.iconst 2, 1) := by decide +kernel
theorem d33_141 : decode prog_197_method_16_code 141 = .ok (.aload_n 0, 1) := by decide +kernel
theorem d33_142 : decode prog_197_method_16_code 142 = .ok (.getfield 70, 3) := by decide +kernel
theorem d33_145 : decode prog_197_method_16_code 145 = .ok (.imul, 1) := by decide +kernel
theorem d33_146 : decode prog_197_method_16_code 146 = .ok (.aload_n 0, 1) := by decide +kernel
theorem d33_147 : decode prog_197_method_16_code 147 = .ok (.getfield 21, 3) := by decide +kernel
theorem d33_150 : decode prog_197_method_16_code 150 = .ok (.arraylength, 1) := by decide +kernel
theorem d33_151 : decode prog_197_method_16_code 151 = .ok (.if_icmp .lt 7, 3) := by decide +kernel
theorem d33_158 : decode prog_197_method_16_code 158 = .ok (.aload_n 0, 1) := by decide +kernel
theorem d33_159 : decode prog_197_method_16_code 159 = .ok (.getfield 70, 3) := by decide +kernel
theorem d33_162 : decode prog_197_method_16_code 162 = .ok (.iconst 1, 1) := by decide +kernel
theorem d33_163 : decode prog_197_method_16_code 163 = .ok (.isub, 1) := by decide +kernel
theorem d33_164 : decode prog_197_method_16_code 164 = .ok (.ireturn, 1) := by decide +kernel
theorem d34_0 : decode prog_197_method_17_code 0 = .ok (.aload_n 0, 1) := by decide +kernel
theorem d34_1 : decode prog_197_method_17_code 1 = .ok (.getfield 21, 3) := by decide +kernel
theorem d34_4 : decode prog_197_method_17_code 4 = .ok (.arraylength, 1) := by decide +kernel
theorem d34_5 : decode prog_197_method_17_code 5 = .ok (.iconst 1, 1) := by decide +kernel
theorem d34_6 : decode prog_197_method_17_code 6 = .ok (.isub, 1) := by decide +kernel
theorem d34_7 : decode prog_197_method_17_code 7 = .ok (.istore 4, 2) := by decide +kernel
theorem d34_9 : decode prog_197_method_17_code 9 = .ok (.iload_n 3, 1) := by decide +kernel
theorem d34_10 : decode prog_197_method_17_code 10 = .ok (.iload 4, 2) := by decide +kernel
theorem d34_12 : decode prog_197_method_17_code 12 = .ok (.iand, 1) := by decide +kernel
theorem d34_13 : decode prog_197_method_17_code 13 = .ok (.istore 5, 2) := by decide +kernel
theorem d34_15 : decode prog_197_method_17_code 15 = .ok (.aload_n 0, 1) := by decide +kernel
theorem d34_16 : decode prog_197_method_17_code 16 = .ok (.getfield 21, 3) := by decide +kernel
theorem d34_19 : decode prog_197_method_17_code 19 = .ok (.iload 5, 2) := by decide +kernel
theorem d34_21 : decode prog_197_method_17_code 21 = .ok (.iaload, 1) := by decide +kernel
theorem d34_22 : decode prog_197_method_17_code 22 = .ok (.iconst (-1), 1) := by decide +kernel
theorem d34_23 : decode prog_197_method_17_code 23 = .ok (.if_icmp .eq 32, 3) := by decide +kernel
theorem d34_26 : decode prog_197_method_17_code 26 = .ok (.aload_n 0, 1) := by decide +kernel
theorem d34_27 : decode prog_197_method_17_code 27 = .ok (.aload_n 0, 1) := by decide +kernel
theorem d34_28 : decode prog_197_method_17_code 28 = .ok (.getfield 21, 3) := by decide +kernel
theorem d34_31 : decode prog_197_method_17_code 31 = .ok (.iload 5, 2) := by decide +kernel
theorem d34_33 : decode prog_197_method_17_code 33 = .ok (.iaload, 1) := by decide +kernel
theorem d34_34 : decode prog_197_method_17_code 34 = .ok (.iload_n 3, 1) := by decide +kernel
theorem d34_35 : decode prog_197_method_17_code 35 = .ok (.aload_n 1, 1) := by decide +kernel
theorem d34_36 : decode prog_197_method_17_code 36 = .ok (.iload_n 2, 1) := by decide +kernel
theorem d34_37 : decode prog_197_method_17_code 37 = .ok (.invokevirtual 145, 3) := by decide +kernel
theorem d34_40 : decode prog_197_method_17_code 40 = .ok (.ifCond .ne 15, 3) := by decide +kernel
theorem d34_43 : decode prog_197_method_17_code 43 = .ok (.iload 5, 2) := by decide +kernel
theorem d34_45 : decode prog_197_method_17_code 45 = .ok (.iconst 1, 1) := by decide +kernel
theorem d34_46 : decode prog_197_method_17_code 46 = .ok (.iadd, 1) := by decide +kernel
theorem d34_47 : decode prog_197_method_17_code 47 = .ok (.iload 4, 2) := by decide +kernel
theorem d34_49 : decode prog_197_method_17_code 49 = .ok (.iand, 1) := by decide +kernel
theorem d34_50 : decode prog_197_method_17_code 50 = .ok (.istore 5, 2) := by decide +kernel
theorem d34_52 : decode prog_197_method_17_code 52 = .ok (.goto (-37), 3) := by decide +kernel
theorem d34_55 : decode prog_197_method_17_code 55 = .ok (.iload 5, 2) := by decide +kernel
theorem d34_57 : decode prog_197_method_17_code 57 = .ok (.ireturn, 1) := by decide +kernel
theorem d35_0 : decode jdk_29_method_28_code 0 = .ok (.iload_n 0, 1) := by decide +kernel
theorem d35_1 : decode jdk_29_method_28_code 1 = .ok (.i2l, 1) := by decide +kernel
theorem d35_2 : decode jdk_29_method_28_code 2 = .ok (.iload_n 1, 1) := by decide +kernel
theorem d35_3 : decode jdk_29_method_28_code 3 = .ok (.i2l, 1) := by decide +kernel
theorem d35_4 : decode jdk_29_method_28_code 4 = .ok (.lmul, 1) := by decide +kernel
theorem d35_5 : decode jdk_29_method_28_code 5 = .ok (.lstore_n 2, 1) := by decide +kernel
theorem d35_6 : decode jdk_29_method_28_code 6 = .ok (.lload_n 2, 1) := by decide +kernel
theorem d35_7 : decode jdk_29_method_28_code 7 = .ok (.l2i, 1) := by decide +kernel
theorem d35_8 : decode jdk_29_method_28_code 8 = .ok (.i2l, 1) := by decide +kernel
theorem d35_9 : decode jdk_29_method_28_code 9 = .ok (.lload_n 2, 1) := by decide +kernel
theorem d35_10 : decode jdk_29_method_28_code 10 = .ok (.lcmp, 1) := by decide +kernel
theorem d35_11 : decode jdk_29_method_28_code 11 = .ok (.ifCond .eq 13, 3) := by decide +kernel
theorem d35_24 : decode jdk_29_method_28_code 24 = .ok (.lload_n 2, 1) := by decide +kernel
theorem d35_25 : decode jdk_29_method_28_code 25 = .ok (.l2i, 1) := by decide +kernel
theorem d35_26 : decode jdk_29_method_28_code 26 = .ok (.ireturn, 1) := by decide +kernel
theorem d36_0 : decode jdk_65_method_124_code 0 = .ok (.iload_n 1, 1) := by decide +kernel
theorem d36_1 : decode jdk_65_method_124_code 1 = .ok (.aload_n 0, 1) := by decide +kernel
theorem d36_2 : decode jdk_65_method_124_code 2 = .ok (.arraylength, 1) := by decide +kernel
theorem d36_3 : decode jdk_65_method_124_code 3 = .ok (.if_icmp .ne 11, 3) := by decide +kernel
theorem d36_14 : decode jdk_65_method_124_code 14 = .ok (.iload_n 1, 1) := by decide +kernel
theorem d36_15 : decode jdk_65_method_124_code 15 = .ok (.newarray .long, 2) := by decide +kernel
theorem d36_17 : decode jdk_65_method_124_code 17 = .ok (.astore_n 2, 1) := by decide +kernel
theorem d36_18 : decode jdk_65_method_124_code 18 = .ok (.aload_n 0, 1) := by decide +kernel
theorem d36_19 : decode jdk_65_method_124_code 19 = .ok (.iconst 0, 1) := by decide +kernel
theorem d36_20 : decode jdk_65_method_124_code 20 = .ok (.aload_n 2, 1) := by decide +kernel
theorem d36_21 : decode jdk_65_method_124_code 21 = .ok (.iconst 0, 1) := by decide +kernel
theorem d36_22 : decode jdk_65_method_124_code 22 = .ok (.aload_n 0, 1) := by decide +kernel
theorem d36_23 : decode jdk_65_method_124_code 23 = .ok (.arraylength, 1) := by decide +kernel
theorem d36_24 : decode jdk_65_method_124_code 24 = .ok (.iload_n 1, 1) := by decide +kernel
theorem d36_25 : decode jdk_65_method_124_code 25 = .ok (.invokestatic 304, 3) := by decide +kernel
theorem d36_28 : decode jdk_65_method_124_code 28 = .ok (.invokestatic 150, 3) := by decide +kernel
theorem d36_31 : decode jdk_65_method_124_code 31 = .ok (.aload_n 2, 1) := by decide +kernel
theorem d36_32 : decode jdk_65_method_124_code 32 = .ok (.areturn, 1) := by decide +kernel
theorem d37_0 : decode jdk_29_method_69_code 0 = .ok (.iload_n 0, 1) := by decide +kernel
theorem d37_1 : decode jdk_29_method_69_code 1 = .ok (.iload_n 1, 1) := by decide +kernel
theorem d37_2 : decode jdk_29_method_69_code 2 = .ok (.if_icmp .gt 7, 3) := by decide +kernel
theorem d37_5 : decode jdk_29_method_69_code 5 = .ok (.iload_n 0, 1) := by decide +kernel
theorem d37_6 : decode jdk_29_method_69_code 6 = .ok (.goto 4, 3) := by decide +kernel
theorem d37_9 : decode jdk_29_method_69_code 9 = .ok (.iload_n 1, 1) := by decide +kernel
theorem d37_10 : decode jdk_29_method_69_code 10 = .ok (.ireturn, 1) := by decide +kernel
theorem d38_0 : decode prog_197_method_19_code 0 = .ok (.iload_n 2, 1) := by decide +kernel
theorem d38_1 : decode prog_197_method_19_code 1 = .ok (.aload_n 0, 1) := by decide +kernel
theorem d38_2 : decode prog_197_method_19_code 2 = .ok (.getfield 13, 3) := by decide +kernel
theorem d38_5 : decode prog_197_method_19_code 5 = .ok (.iushr, 1) := by decide +kernel
theorem d38_6 : decode prog_197_method_19_code 6 = .ok (.aload_n 0, 1) := by decide +kernel
theorem d38_7 : decode prog_197_method_19_code 7 = .ok (.getfield 13, 3) := by decide +kernel
theorem d38_10 : decode prog_197_method_19_code 10 = .ok (.iconst 1, 1) := by decide +kernel
theorem d38_11 : decode prog_197_method_19_code 11 = .ok (.isub, 1) := by decide +kernel
theorem d38_12 : decode prog_197_method_19_code 12 = .ok (.ishl, 1) := by decide +kernel
theorem d38_13 : decode prog_197_method_19_code 13 = .ok (.iload_n 1, 1) := by decide +kernel
theorem d38_14 : decode prog_197_method_19_code 14 = .ok (.ior, 1) := by decide +kernel
theorem d38_15 : decode prog_197_method_19_code 15 = .ok (.ireturn, 1) := by decide +kernel
theorem d39_0 : decode prog_197_method_11_code 0 = .ok (.aload_n 0, 1) := by decide +kernel
theorem d39_1 : decode prog_197_method_11_code 1 = .ok (.getfield 7, 3) := by decide +kernel
theorem d39_4 : decode prog_197_method_11_code 4 = .ok (.iload_n 1, 1) := by decide +kernel
theorem d39_5 : decode prog_197_method_11_code 5 = .ok (.aload_n 0, 1) := by decide +kernel
theorem d39_6 : decode prog_197_method_11_code 6 = .ok (.getfield 64, 3) := by decide +kernel
theorem d39_9 : decode prog_197_method_11_code 9 = .ok (.imul, 1) := by decide +kernel
theorem d39_10 : decode prog_197_method_11_code 10 = .ok (.aload_n 2, 1) := by decide +kernel
theorem d39_11 : decode prog_197_method_11_code 11 = .ok (.iload_n 3, 1) := by decide +kernel
theorem d39_12 : decode prog_197_method_11_code 12 = .ok (.aload_n 0, 1) := by decide +kernel
theorem d39_13 : decode prog_197_method_11_code 13 = .ok (.getfield 64, 3) := by decide +kernel
theorem d39_16 : decode prog_197_method_11_code 16 = .ok (.invokestatic 116, 3) := by decide +kernel
theorem d39_19 : decode prog_197_method_11_code 19 = .ok (.return_, 1) := by decide +kernel
theorem d40_0 : decode prog_197_method_12_code 0 = .ok (.iload_n 2, 1) := by decide +kernel
theorem d40_1 : decode prog_197_method_12_code 1 = .ok (.aload_n 0, 1) := by decide +kernel
theorem d40_2 : decode prog_197_method_12_code 2 = .ok (.getfield 37, 3) := by decide +kernel
theorem d40_5 : decode prog_197_method_12_code 5 = .ok (.iload_n 3, 1) := by decide +kernel
theorem d40_6 : decode prog_197_method_12_code 6 = .ok (.iaload, 1) := by decide +kernel
theorem d40_7 : decode prog_197_method_12_code 7 = .ok (.iadd, 1) := by decide +kernel
theorem d40_8 : decode prog_197_method_12_code 8 = .ok (.istore 5, 2) := by decide +kernel
theorem d40_10 : decode prog_197_method_12_code 10 = .ok (.aload_n 1, 1) := by decide +kernel
theorem d40_11 : decode prog_197_method_12_code 11 = .ok (.iload 5, 2) := by decide +kernel
theorem d40_13 : decode prog_197_method_12_code 13 = .ok (.laload, 1) := by decide +kernel
theorem d40_14 : decode prog_197_method_12_code 14 = .ok (.aload_n 0, 1) := by decide +kernel
theorem d40_15 : decode prog_197_method_12_code 15 = .ok (.getfield 43, 3) := by decide +kernel
theorem d40_18 : decode prog_197_method_12_code 18 = .ok (.iload_n 3, 1) := by decide +kernel
theorem d40_19 : decode prog_197_method_12_code 19 = .ok (.laload, 1) := by decide +kernel
theorem d40_20 : decode prog_197_method_12_code 20 = .ok (.aload_n 0, 1) := by decide +kernel
theorem d40_21 : decode prog_197_method_12_code 21 = .ok (.getfield 40, 3) := by decide +kernel
theorem d40_24 : decode prog_197_method_12_code 24 = .ok (.iload_n 3, 1) := by decide +kernel
theorem d40_25 : decode prog_197_method_12_code 25 = .ok (.iaload, 1) := by decide +kernel
theorem d40_26 : decode prog_197_method_12_code 26 = .ok (.lshl, 1) := by decide +kernel
theorem d40_27 : decode prog_197_method_12_code 27 = .ok (.ldc2_w 122, 3) := by decide +kernel
theorem d40_30 : decode prog_197_method_12_code 30 = .ok (.lxor, 1) := by decide +kernel
theorem d40_31 : decode prog_197_method_12_code 31 = .ok (.land, 1) := by decide +kernel
theorem d40_32 : decode prog_197_method_12_code 32 = .ok (.lstore 6, 2) := by decide +kernel
theorem d40_34 : decode prog_197_method_12_code 34 = .ok (.aload_n 1, 1) := by decide +kernel
theorem d40_35 : decode prog_197_method_12_code 35 = .ok (.iload 5, 2) := by decide +kernel
theorem d40_37 : decode prog_197_method_12_code 37 = .ok (.lload 6, 2) := by decide +kernel
theorem d40_39 : decode prog_197_method_12_code 39 = .ok (.iload 4, 2) := by decide +kernel
theorem d40_41 : decode prog_197_method_12_code 41 = .ok (.i2l, 1) := by decide +kernel
theorem d40_42 : decode prog_197_method_12_code 42 = .ok (.aload_n 0, 1) := by decide +kernel
theorem d40_43 : decode prog_197_method_12_code 43 = .ok (.getfield 34, 3) := by decide +kernel
theorem d40_46 : decode prog_197_method_12_code 46 = .ok (.iload_n 3, 1) := by decide +kernel
theorem d40_47 : decode prog_197_method_12_code 47 = .ok (.iaload, 1) := by decide +kernel
theorem d40_48 : decode prog_197_method_12_code 48 = .ok (.i2l, 1) := by decide +kernel
theorem d40_49 : decode prog_197_method_12_code 49 = .ok (.lsub, 1) := by decide +kernel
theorem d40_50 : decode prog_197_method_12_code 50 = .ok (.aload_n 0, 1) := by decide +kernel
theorem d40_51 : decode prog_197_method_12_code 51 = .ok (.getfield 40, 3) := by decide +kernel
theorem d40_54 : decode prog_197_method_12_code 54 = .ok (.iload_n 3, 1) := by decide +kernel
theorem d40_55 : decode prog_197_method_12_code 55 = .ok (.iaload, 1) := by decide +kernel
theorem d40_56 : decode prog_197_method_12_code 56 = .ok (.lshl, 1) := by decide +kernel
theorem d40_57 : decode prog_197_method_12_code 57 = .ok (.lor, 1) := by decide +kernel
theorem d40_58 : decode prog_197_method_12_code 58 = .ok (.lastore, 1) := by decide +kernel
theorem d40_59 : decode prog_197_method_12_code 59 = .ok (.return_, 1) := by decide +kernel
theorem d41_0 : decode prog_197_method_18_code 0 = .ok (.aload_n 0, 1) := by decide +kernel
theorem d41_1 : decode prog_197_method_18_code 1 = .ok (.iload_n 1, 1) := by decide +kernel
theorem d41_2 : decode prog_197_method_18_code 2 = .ok (.iload_n 2, 1) := by decide +kernel
theorem d41_3 : decode prog_197_method_18_code 3 = .ok (.invokevirtual 132, 3) := by decide +kernel
theorem d41_6 : decode prog_197_method_18_code 6 = .ok (.ifCond .ne 5, 3) := by decide +kernel
theorem d41_9 : decode prog_197_method_18_code 9 = .ok (.iconst 0, 1) := by decide +kernel
theorem d41_10 : decode prog_197_method_18_code 10 = .ok (.ireturn, 1) := by decide +kernel
theorem d41_11 : decode prog_197_method_18_code 11 = .ok (.aload_n 0, 1) := by decide +kernel
theorem d41_12 : decode prog_197_method_18_code 12 = .ok (.iload_n 1, 1) := by decide +kernel
theorem d41_13 : decode prog_197_method_18_code 13 = .ok (.invokevirtual 103, 3) := by decide +kernel
theorem d41_16 : decode prog_197_method_18_code 16 = .ok (.aload_n 0, 1) := by decide +kernel
theorem d41_17 : decode prog_197_method_18_code 17 = .ok (.getfield 64, 3) := by decide +kernel
theorem d41_20 : decode prog_197_method_18_code 20 = .ok (.imul, 1) := by decide +kernel
theorem d41_21 : decode prog_197_method_18_code 21 = .ok (.istore 5, 2) := by decide +kernel
theorem d41_23 : decode prog_197_method_18_code 23 = .ok (.iconst 0, 1) := by decide +kernel
theorem d41_24 : decode prog_197_method_18_code 24 = .ok (.istore 6, 2) := by decide +kernel
theorem d41_26 : decode prog_197_method_18_code 26 = .ok (.iload 6, 2) := by decide +kernel
theorem d41_28 : decode prog_197_method_18_code 28 = .ok (.aload_n 0, 1) := by decide +kernel
theorem d41_29 : decode prog_197_method_18_code 29 = .ok (.getfield 64, 3) := by decide +kernel
theorem d41_32 : decode prog_197_method_18_code 32 = .ok (.if_icmp .ge 32, 3) := by decide +kernel
theorem d41_35 : decode prog_197_method_18_code 35 = .ok (.aload_n 0, 1) := by decide +kernel
theorem d41_36 : decode prog_197_method_18_code 36 = .ok (.getfield 7, 3) := by decide +kernel
theorem d41_39 : decode prog_197_method_18_code 39 = .ok (.iload 5, 2) := by decide +kernel
theorem d41_41 : decode prog_197_method_18_code 41 = .ok (.iload 6, 2) := by decide +kernel
theorem d41_43 : decode prog_197_method_18_code 43 = .ok (.iadd, 1) := by decide +kernel
theorem d41_44 : decode prog_197_method_18_code 44 = .ok (.laload, 1) := by decide +kernel
theorem d41_45 : decode prog_197_method_18_code 45 = .ok (.aload_n 3, 1) := by decide +kernel
theorem d41_46 : decode prog_197_method_18_code 46 = .ok (.iload 4, 2) := by decide +kernel
theorem d41_48 : decode prog_197_method_18_code 48 = .ok (.iload 6, 2) := by decide +kernel
theorem d41_50 : decode prog_197_method_18_code 50 = .ok (.iadd, 1) := by decide +kernel
theorem d41_51 : decode prog_197_method_18_code 51 = .ok (.laload, 1) := by decide +kernel
theorem d41_52 : decode prog_197_method_18_code 52 = .ok (.lcmp, 1) := by decide +kernel
theorem d41_53 : decode prog_197_method_18_code 53 = .ok (.ifCond .eq 5, 3) := by decide +kernel
theorem d41_56 : decode prog_197_method_18_code 56 = .ok (.iconst 0, 1) := by decide +kernel
theorem d41_57 : decode prog_197_method_18_code 57 = .ok (.ireturn, 1) := by decide +kernel
theorem d41_58 : decode prog_197_method_18_code 58 = .ok (.iinc 6 1, 3) := by decide +kernel
theorem d41_61 : decode prog_197_method_18_code 61 = .ok (.goto (-35), 3) := by decide +kernel
theorem d41_64 : decode prog_197_method_18_code 64 = .ok (.iconst 1, 1) := by decide +kernel
theorem d41_65 : decode prog_197_method_18_code 65 = .ok (.ireturn, 1) := by decide +kernel
theorem d42_0 : decode prog_197_method_20_code 0 = .ok (.iload_n 1, 1) := by decide +kernel
theorem d42_1 : decode prog_197_method_20_code 1 = .ok (.aload_n 0, 1) := by decide +kernel
theorem d42_2 : decode prog_197_method_20_code 2 = .ok (.getfield 13, 3) := by decide +kernel
theorem d42_5 : decode prog_197_method_20_code 5 = .ok (.iconst 1, 1) := by decide +kernel
theorem d42_6 : decode prog_197_method_20_code 6 = .ok (.isub, 1) := by decide +kernel
theorem d42_7 : decode prog_197_method_20_code 7 = .ok (.iushr, 1) := by decide +kernel
theorem d42_8 : decode prog_197_method_20_code 8 = .ok (.iload_n 2, 1) := by decide +kernel
theorem d42_9 : decode prog_197_method_20_code 9 = .ok (.aload_n 0, 1) := by decide +kernel
theorem d42_10 : decode prog_197_method_20_code 10 = .ok (.getfield 13, 3) := by decide +kernel
theorem d42_13 : decode prog_197_method_20_code 13 = .ok (.iushr, 1) := by decide +kernel
theorem d42_14 : decode prog_197_method_20_code 14 = .ok (.if_icmp .ne 7, 3) := by decide +kernel
theorem d42_17 : decode prog_197_method_20_code 17 = .ok (.iconst 1, 1) := by decide +kernel
theorem d42_18 : decode prog_197_method_20_code 18 = .ok (.goto 4, 3) := by decide +kernel
theorem d42_21 : decode prog_197_method_20_code 21 = .ok (.iconst 0, 1) := by decide +kernel
theorem d42_22 : decode prog_197_method_20_code 22 = .ok (.ireturn, 1) := by decide +kernel
theorem d43_0 : decode prog_197_method_21_code 0 = .ok (.iload_n 1, 1) := by decide +kernel
theorem d43_1 : decode prog_197_method_21_code 1 = .ok (.iconst 1, 1) := by decide +kernel
theorem d43_2 : decode prog_197_method_21_code 2 = .ok (.aload_n 0, 1) := by decide +kernel
theorem d43_3 : decode prog_197_method_21_code 3 = .ok (.getfield 13, 3) := by decide +kernel
theorem d43_6 : decode prog_197_method_21_code 6 = .ok (.iconst 1, 1) := by decide +kernel
theorem d43_7 : decode prog_197_method_21_code 7 = .ok (.isub, 1) := by decide +kernel
theorem d43_8 : decode prog_197_method_21_code 8 = .ok (.ishl, 1) := by decide +kernel
theorem d43_9 : decode prog_197_method_21_code 9 = .ok (.iconst 1, 1) := by decide +kernel
theorem d43_10 : decode prog_197_method_21_code 10 = .ok (.isub, 1) := by decide +kernel
theorem d43_11 : decode prog_197_method_21_code 11 = .ok (.iand, 1) := by decide +kernel
theorem d43_12 : decode prog_197_method_21_code 12 = .ok (.ireturn, 1) := by decide +kernel
set_option maxRecDepth 65536 in
set_option maxHeartbeats 40000000 in
theorem c_max {Z : State} {a0 : Array Value} (hw : Tw Z a0) (l : Launch) (h0 : Heap) (n0 : Nat) (x1 x2 : Int32) (Ls : List Ob) :
    Met1 l Z (⟨"java/lang/Math", "max", "(II)I"⟩ : MethodName) jdk_29_method_65_code 2 (some .int) ({ frames := 0, cells := 0, slots := 0, locals := 0 } : Room) #[(.int x1), (.int x2)] h0 n0 Ls (fun v L => v = some (.int (if x1 < x2 then x2 else x1)) ∧ L = Ls) [] := by
  refine Met1.of (ls := #[vI x1, vI x2]) (Jvm.Free.JP.mathPlain rfl (by decide +kernel)) (fun m => by first | (simp [entryFrame, mkF, argsToLocals, Value.category]; done) | rfl) ?_
  intro p e s m below meth c T w
  refine s_iloadN (pc' := 1) w d13_0 rfl rfl ?_
  refine s_iloadN (pc' := 2) w d13_1 rfl rfl ?_
  by_cases h : x1 < x2
  · refine s_icmpY (pc' := 9) w d13_2 (Jvm.Free.XT.ii_lt_t h) (by decide) (by decide) ?_
    refine s_iloadN (pc' := 10) w d13_9 rfl rfl ?_
    exact s_ireturn w d13_10 (by decide) (by decide) ⟨by rw [if_pos h], rfl⟩
  · refine s_icmpN (pc' := 5) w d13_2 (Jvm.Free.XT.ii_lt_f h) rfl ?_
    refine s_iloadN (pc' := 6) w d13_5 rfl rfl ?_
    refine s_goto (pc' := 10) w d13_6 (by decide) (by decide) ?_
    exact s_ireturn w d13_10 (by decide) (by decide) ⟨by rw [if_neg h], rfl⟩
set_option maxRecDepth 65536 in
set_option maxHeartbeats 40000000 in
theorem c_min {Z : State} {a0 : Array Value} (hw : Tw Z a0) (l : Launch) (h0 : Heap) (n0 : Nat) (x1 x2 : Int32) (Ls : List Ob) :
    Met1 l Z (⟨"java/lang/Math", "min", "(II)I"⟩ : MethodName) jdk_29_method_69_code 2 (some .int) ({ frames := 0, cells := 0, slots := 0, locals := 0 } : Room) #[(.int x1), (.int x2)] h0 n0 Ls (fun v L => v = some (.int (if x2 < x1 then x2 else x1)) ∧ L = Ls) [] := by
  refine Met1.of (ls := #[vI x1, vI x2]) (Jvm.Free.JP.mathPlain rfl (by decide +kernel)) (fun m => by first | (simp [entryFrame, mkF, argsToLocals, Value.category]; done) | rfl) ?_
  intro p e s m below meth c T w
  refine s_iloadN (pc' := 1) w d37_0 rfl rfl ?_
  refine s_iloadN (pc' := 2) w d37_1 rfl rfl ?_
  by_cases h : x2 < x1
  · refine s_icmpY (pc' := 9) w d37_2 (Jvm.Free.XT.ii_gt_t h) (by decide) (by decide) ?_
    refine s_iloadN (pc' := 10) w d37_9 rfl rfl ?_
    exact s_ireturn w d37_10 (by decide) (by decide) ⟨by rw [if_pos h], rfl⟩
  · refine s_icmpN (pc' := 5) w d37_2 (Jvm.Free.XT.ii_gt_f h) rfl ?_
    refine s_iloadN (pc' := 6) w d37_5 rfl rfl ?_
    refine s_goto (pc' := 10) w d37_6 (by decide) (by decide) ?_
    exact s_ireturn w d37_10 (by decide) (by decide) ⟨by rw [if_neg h], rfl⟩
set_option maxRecDepth 65536 in
set_option maxHeartbeats 40000000 in
theorem c_acol {Z : State} {a0 : Array Value} (hw : Tw Z a0) (l : Launch) (h0 : Heap) (n0 : Nat) (a : Addr) (Ls : List Ob) :
    Met1 l Z (⟨"java/util/AbstractCollection", "<init>", "()V"⟩ : MethodName) jdk_22_method_1_code 1 none ({ frames := 1, cells := 0, slots := 0, locals := 12 } : Room) #[(.ref a)] h0 n0 Ls (fun v L => v = none ∧ L = Ls) [] := by
  refine Met1.of (ls := #[vR a]) (plainFor_of_name pn0) (fun m => by first | (simp [entryFrame, mkF, argsToLocals, Value.category]; done) | rfl) ?_
  intro p e s m below meth c T w
  refine s_aloadN (pc' := 1) w d5_0 rfl rfl rfl ?_
  refine s_initO (pc' := 4) 0 w (t27 hw) (t28 hw) (t29 hw) d5_1 rfl (by decide) (Nat.le_of_eq rfl) (by decide) rfl ?_
  intro T w
  exact s_return w d5_4 (by decide) (by decide) ⟨rfl, rfl⟩
set_option maxRecDepth 65536 in
set_option maxHeartbeats 40000000 in
theorem c_alist {Z : State} {a0 : Array Value} (hw : Tw Z a0) (l : Launch) (h0 : Heap) (n0 : Nat) (k : Nat) (mc ed sz : Value) (Ls : List Ob) (hk : Ls[k]? = some (o0 mc ed sz)) :
    Met1 l Z (⟨"java/util/AbstractList", "<init>", "()V"⟩ : MethodName) jdk_39_method_1_code 1 none ({ frames := 2, cells := 0, slots := 0, locals := 24 } : Room) #[(.ref (n0 + k))] h0 n0 Ls (fun v L => v = none ∧ L = Ls.set k (o0 (.int 0) ed sz)) [] := by
  refine Met1.of (ls := #[vR (n0 + k)]) (plainFor_of_name pn1) (fun m => by first | (simp [entryFrame, mkF, argsToLocals, Value.category]; done) | rfl) ?_
  intro p e s m below meth c T w
  refine s_aloadN (pc' := 1) w d4_0 rfl rfl rfl ?_
  refine s_special (pc' := 4) (rest := []) 0 [] w (c_acol hw l h0 n0 (n0 + k) Ls) rfl (t21 hw) (t22 hw) (t25 hw) (t26 hw) (by decide) pd0 d4_1 (by decide) rfl rfl rfl rfl (Nat.le_of_eq rfl) rfl ?_
  intro T v L' hQ w
  obtain ⟨rfl, hL⟩ := hQ
  replace hL := hL.symm
  subst hL
  dsimp only [oS, oN, cA, nA]
  refine s_aloadN (pc' := 5) w d4_4 rfl rfl rfl ?_
  refine s_iconst (pc' := 6) (0 : Int32) w d4_5 (by decide) rfl ?_
  refine s_put (pc' := 9) (host := "") (k := k) w (Or.inl (t30 hw)) Via.refl (cls0 hw) hk (j := 0) rfl (leB rfl) (Or.inl (t31 hw)) (ty := .int) (by decide +kernel) rfl rfl d4_6 rfl ?_
  intro T w
  exact s_return w d4_9 (by decide) (by decide) ⟨rfl, rfl⟩
set_option maxRecDepth 65536 in
set_option maxHeartbeats 40000000 in
theorem c_alinit {Z : State} {a0 : Array Value} (hw : Tw Z a0) (l : Launch) (h0 : Heap) (n0 : Nat) (k : Nat) (mc ed sz : Value) (de : Addr) (Ls : List Ob) (hk : Ls[k]? = some (o0 mc ed sz)) (SD : Sta Z h0 "java/util/ArrayList" "DEFAULTCAPACITY_EMPTY_ELEMENTDATA" "[Ljava/lang/Object;" (.ref de)) :
    Met1 l Z (⟨"java/util/ArrayList", "<init>", "()V"⟩ : MethodName) jdk_38_method_2_code 1 none ({ frames := 3, cells := 0, slots := 0, locals := 36 } : Room) #[(.ref (n0 + k))] h0 n0 Ls (fun v L => v = none ∧ L = Ls.set k (o0 (.int 0) (.ref de) sz)) [] := by
  refine Met1.of (ls := #[vR (n0 + k)]) (plainFor_of_name pn2) (fun m => by first | (simp [entryFrame, mkF, argsToLocals, Value.category]; done) | rfl) ?_
  intro p e s m below meth c T w
  refine s_aloadN (pc' := 1) w d3_0 rfl rfl rfl ?_
  refine s_special (pc' := 4) (rest := []) 0 [] w (c_alist hw l h0 n0 k mc ed sz Ls hk) rfl (t15 hw) (t16 hw) (t19 hw) (t20 hw) (by decide) pd0 d3_1 (by decide) rfl rfl rfl rfl (Nat.le_of_eq rfl) rfl ?_
  intro T v L' hQ w
  obtain ⟨rfl, hL⟩ := hQ
  replace hL := hL.symm
  subst hL
  dsimp only [oS, oN, cA, nA]
  refine s_aloadN (pc' := 5) w d3_4 rfl rfl rfl ?_
  refine s_getS (pc' := 8) (host := "") w (Or.inl (t32 hw)) Via.refl SD d3_5 rfl ?_
  intro T w
  refine s_put (pc' := 11) (host := "") (k := k) w (Or.inl (t33 hw)) Via.refl (cls0 hw) (lk_set hk) (j := 1) rfl (leB rfl) (Or.inl (t34 hw)) (ty := (.array (.object "java/lang/Object"))) (by decide +kernel) rfl rfl d3_8 rfl ?_
  intro T w
  exact s_return w d3_11 (by decide) (by decide) ⟨rfl, List.set_set ..⟩
set_option maxRecDepth 65536 in
set_option maxHeartbeats 40000000 in
theorem c_growI {Z : State} {a0 : Array Value} (hw : Tw Z a0) (l : Launch) (h0 : Heap) (n0 : Nat) (k : Nat) (mc : Value) (sz : Int32) (de : Addr) (dcl : Cell) (Ls : List Ob) (hk : Ls[k]? = some (o0 mc (.ref de) (.int sz))) (SD : Sta Z h0 "java/util/ArrayList" "DEFAULTCAPACITY_EMPTY_ELEMENTDATA" "[Ljava/lang/Object;" (.ref de)) (AD : Arr Z h0 de dcl (.object "java/lang/Object")) (hdcl : dcl.slots.size = 0) :
    Met1 l Z (⟨"java/util/ArrayList", "grow", "(I)[Ljava/lang/Object;"⟩ : MethodName) jdk_38_method_6_code 4 (some (.array (.object "java/lang/Object"))) ({ frames := 1, cells := 1, slots := 10, locals := 14 } : Room) #[(.ref (n0 + k)), (.int (1 : Int32))] h0 n0 Ls (fun v L => v = some (.ref (n0 + Ls.length)) ∧ L = Ls.set k (o0 mc (.ref (n0 + Ls.length)) (.int sz)) ++ [aO (List.replicate 10 .null)]) [] := by
  refine Met1.of (ls := #[vR (n0 + k), vI (1 : Int32), un, un]) (plainFor_of_name pn2) (fun m => by first | (simp [entryFrame, mkF, argsToLocals, Value.category]; done) | rfl) ?_
  intro p e s m below meth c T w
  refine s_aloadN (pc' := 1) w d12_0 rfl rfl rfl ?_
  refine s_getL (pc' := 4) (host := "") w (Or.inl (t33 hw)) Via.refl (Lk.new hk) (j := 1) rfl rfl d12_1 rfl ?_
  intro T w
  refine s_arraylengthA (pc' := 5) (0 : Int32) w AD d12_4 (by rw [hdcl]; rfl) rfl ?_
  refine s_istoreN (pc' := 6) (ls' := #[vR (n0 + k), vI (1 : Int32), vI (0 : Int32), un]) w d12_5 rfl rfl ?_
  refine s_iloadN (pc' := 7) w d12_6 rfl rfl ?_
  refine s_ifN (pc' := 10) w d12_7 (Jvm.Free.XT.i0_gt_f (by decide)) rfl ?_
  refine s_aloadN (pc' := 11) w d12_10 rfl rfl rfl ?_
  refine s_getL (pc' := 14) (host := "") w (Or.inl (t33 hw)) Via.refl (Lk.new hk) (j := 1) rfl rfl d12_11 rfl ?_
  intro T w
  refine s_getS (pc' := 17) (host := "") w (Or.inl (t32 hw)) Via.refl SD d12_14 rfl ?_
  intro T w
  refine s_acmpY (pc' := 45) w d12_17 rfl rfl (Jvm.Free.XT.aa_eq_t rfl) (by decide) (by decide) ?_
  refine s_aloadN (pc' := 46) w d12_45 rfl rfl rfl ?_
  refine s_bipush (pc' := 48) (10 : Int32) w d12_46 (by decide) rfl ?_
  refine s_iloadN (pc' := 49) w d12_48 rfl rfl ?_
  refine s_static (pc' := 52) (rest := [(.ref (n0 + k))]) 1 [(.int (10 : Int32)), (.int (1 : Int32))] w (c_max hw l h0 n0 10 1 Ls) (t86 hw) (t87 hw) (t88 hw) (t89 hw) (by decide) pd1 d12_49 (by decide) rfl rfl rfl rfl (Nat.le_of_eq rfl) rfl ?_
  intro T v L' hQ w
  obtain ⟨rfl, hL⟩ := hQ
  replace hL := hL.symm
  subst hL
  dsimp only [oS, oN, cA, nA]
  rw [show (if (10 : Int32) < 1 then (1 : Int32) else 10) = 10 by decide]
  refine s_anewarray (pc' := 55) w (t90 hw) (t91 hw) d12_52 (by decide) 10 (by decide) (by decide) (by decide) (by decide) (Ls.length) rfl rfl ?_
  intro T w
  replace w : St p l e _ s m _ below meth c Z _ _ _ _ h0 n0 T (Ls ++ [.inr ((.object "java/lang/Object"), List.replicate 10 .null)]) 1 10 := w
  refine s_dup_x1 (pc' := 56) w d12_55 rfl rfl rfl ?_
  refine s_put (pc' := 59) (host := "") (k := k) w (Or.inl (t33 hw)) Via.refl (cls0 hw) (lk_app hk) (j := 1) rfl (leB rfl) (Or.inl (t34 hw)) (ty := (.array (.object "java/lang/Object"))) (by decide +kernel) rfl rfl d12_56 rfl ?_
  intro T w
  exact s_areturn w d12_59 rfl rfl (by decide) (by decide) ⟨rfl, set_app hk⟩
set_option maxRecDepth 65536 in
set_option maxHeartbeats 40000000 in
theorem c_grow {Z : State} {a0 : Array Value} (hw : Tw Z a0) (l : Launch) (h0 : Heap) (n0 : Nat) (k : Nat) (mc : Value) (de : Addr) (dcl : Cell) (Ls : List Ob) (hk : Ls[k]? = some (o0 mc (.ref de) (.int 0))) (SD : Sta Z h0 "java/util/ArrayList" "DEFAULTCAPACITY_EMPTY_ELEMENTDATA" "[Ljava/lang/Object;" (.ref de)) (AD : Arr Z h0 de dcl (.object "java/lang/Object")) (hdcl : dcl.slots.size = 0) :
    Met1 l Z (⟨"java/util/ArrayList", "grow", "()[Ljava/lang/Object;"⟩ : MethodName) jdk_38_method_7_code 1 (some (.array (.object "java/lang/Object"))) ({ frames := 2, cells := 1, slots := 10, locals := 29 } : Room) #[(.ref (n0 + k))] h0 n0 Ls (fun v L => v = some (.ref (n0 + Ls.length)) ∧ L = Ls.set k (o0 mc (.ref (n0 + Ls.length)) (.int 0)) ++ [aO (List.replicate 10 .null)]) [] := by
  refine Met1.of (ls := #[vR (n0 + k)]) (plainFor_of_name pn2) (fun m => by first | (simp [entryFrame, mkF, argsToLocals, Value.category]; done) | rfl) ?_
  intro p e s m below meth c T w
  refine s_aloadN (pc' := 1) w d11_0 rfl rfl rfl ?_
  refine s_aloadN (pc' := 2) w d11_1 rfl rfl rfl ?_
  refine s_getL (pc' := 5) (host := "") w (Or.inl (t69 hw)) Via.refl (Lk.new hk) (j := 2) rfl rfl d11_2 rfl ?_
  intro T w
  refine s_iconst (pc' := 6) (1 : Int32) w d11_5 (by decide) rfl ?_
  refine s_iadd (pc' := 7) w d11_6 rfl ?_
  rw [show (0 : Int32) + 1 = 1 by decide]
  refine s_private (pc' := 10) (rest := []) 0 [(.int (1 : Int32))] w (c_growI hw l h0 n0 k mc 0 de dcl Ls hk SD AD hdcl) (Lk.new hk) (t81 hw) (t82 hw) (t65 hw) rfl (t83 hw) (t11 hw) (t85 hw) (by decide) pd2 d11_7 (by decide) rfl rfl rfl rfl (Nat.le_of_eq rfl) rfl ?_
  intro T v L' hQ w
  obtain ⟨rfl, hL⟩ := hQ
  replace hL := hL.symm
  subst hL
  dsimp only [oS, oN, cA, nA]
  exact s_areturn w d11_10 rfl rfl (by decide) (by decide) ⟨rfl, rfl⟩
set_option maxRecDepth 65536 in
set_option maxHeartbeats 40000000 in
theorem c_add3g {Z : State} {a0 : Array Value} (hw : Tw Z a0) (l : Launch) (h0 : Heap) (n0 : Nat) (k : Nat) (mc : Value) (de : Addr) (dcl : Cell) (b : Addr) (C : String) (fs : List (String × String × String)) (us : List Value) (Ls : List Ob) (hk : Ls[k]? = some (o0 mc (.ref de) (.int 0))) (SD : Sta Z h0 "java/util/ArrayList" "DEFAULTCAPACITY_EMPTY_ELEMENTDATA" "[Ljava/lang/Object;" (.ref de)) (AD : Arr Z h0 de dcl (.object "java/lang/Object")) (hdcl : dcl.slots.size = 0) (qb : Lk Z h0 n0 Ls b (.inl (C, fs, us))) (kc : C = "java/lang/Object" ∨ (Cond.castable C "java/lang/Object").before a0 Z = true) (nb : b ≠ n0 + k) :
    Met1 l Z (⟨"java/util/ArrayList", "add", "(Ljava/lang/Object;[Ljava/lang/Object;I)V"⟩ : MethodName) jdk_38_method_24_code 4 none ({ frames := 3, cells := 1, slots := 10, locals := 41 } : Room) #[(.ref (n0 + k)), (.ref b), (.ref de), (.int (0 : Int32))] h0 n0 Ls (fun v L => v = none ∧ L = Ls.set k (o0 mc (.ref (n0 + Ls.length)) (.int 1)) ++ [aO ((List.replicate 10 .null).set 0 (.ref b))]) [] := by
  refine Met1.of (ls := #[vR (n0 + k), vR b, vR de, vI (0 : Int32)]) (plainFor_of_name pn2) (fun m => by first | (simp [entryFrame, mkF, argsToLocals, Value.category]; done) | rfl) ?_
  intro p e s m below meth c T w
  refine s_iloadN (pc' := 1) w d10_0 rfl rfl ?_
  refine s_aloadN (pc' := 2) w d10_1 rfl rfl rfl ?_
  refine s_arraylengthA (pc' := 3) (0 : Int32) w AD d10_2 (by rw [hdcl]; rfl) rfl ?_
  refine s_icmpN (pc' := 6) w d10_3 (Jvm.Free.XT.ii_ne_f rfl) rfl ?_
  refine s_aloadN (pc' := 7) w d10_6 rfl rfl rfl ?_
  refine s_private (pc' := 10) (rest := []) 0 [] w (c_grow hw l h0 n0 k mc de dcl Ls hk SD AD hdcl) (Lk.new hk) (t76 hw) (t77 hw) (t65 hw) rfl (t78 hw) (t11 hw) (t80 hw) (by decide) pd3 d10_7 (by decide) rfl rfl rfl rfl (Nat.le_of_eq rfl) rfl ?_
  intro T v L' hQ w
  obtain ⟨rfl, hL⟩ := hQ
  replace hL := hL.symm
  subst hL
  dsimp only [oS, oN, cA, nA]
  have hlen : (Ls.set k (o0 mc (.ref (n0 + Ls.length)) (.int 0))).length = Ls.length := List.length_set ..
  have pA : (Ls.set k (o0 mc (.ref (n0 + Ls.length)) (.int 0)) ++ [aO (List.replicate 10 .null)])[Ls.length]? = some (aO (List.replicate 10 .null)) := lk_lastN hlen
  refine s_astoreN (pc' := 11) (ls' := #[vR (n0 + k), vR b, vR (n0 + Ls.length), vI (0 : Int32)]) w d10_10 rfl rfl rfl ?_
  refine s_aloadN (pc' := 12) w d10_11 rfl rfl rfl ?_
  refine s_iloadN (pc' := 13) w d10_12 rfl rfl ?_
  refine s_aloadN (pc' := 14) w d10_13 rfl rfl rfl ?_
  refine s_aastore (pc' := 15) (k := Ls.length) w pA (qb.set hk nb).app kc d10_14 (by decide) (leB rfl) rfl ?_
  intro T w
  refine s_aloadN (pc' := 16) w d10_15 rfl rfl rfl ?_
  refine s_iloadN (pc' := 17) w d10_16 rfl rfl ?_
  refine s_iconst (pc' := 18) (1 : Int32) w d10_17 (by decide) rfl ?_
  refine s_iadd (pc' := 19) w d10_18 rfl ?_
  have pS : (List.set (Ls.set k (o0 mc (.ref (n0 + Ls.length)) (.int 0)) ++ [aO (List.replicate 10 .null)]) Ls.length (aO ((List.replicate 10 .null).set 0 (.ref b))))[k]? = some (o0 mc (.ref (n0 + Ls.length)) (.int 0)) := lk_ne (lk_app (lk_set hk)) (Nat.ne_of_gt (List.getElem?_eq_some_iff.mp hk).1)
  rw [show (0 : Int32) + 1 = 1 by decide]
  refine s_put (pc' := 22) (host := "") (k := k) w (Or.inl (t69 hw)) Via.refl (cls0 hw) pS (j := 2) rfl (leB rfl) (Or.inl (t70 hw)) (ty := .int) (by decide +kernel) rfl rfl d10_19 rfl ?_
  intro T w
  exact s_return w d10_22 (by decide) (by decide) ⟨rfl, by rw [set_lastN hlen, set_app (lk_set hk), List.set_set] <;> rfl⟩
set_option maxRecDepth 65536 in
set_option maxHeartbeats 40000000 in
theorem c_add3n {Z : State} {a0 : Array Value} (hw : Tw Z a0) (l : Launch) (h0 : Heap) (n0 : Nat) (k kE : Nat) (mc : Value) (sz : Int32) (vs : List Value) (nv : Int32) (b : Addr) (C : String) (fs : List (String × String × String)) (us : List Value) (Ls : List Ob) (hk : Ls[k]? = some (o0 mc (.ref (n0 + kE)) (.int sz))) (hE : Ls[kE]? = some (aO (vs))) (hnv : vs.length.toInt32 = nv) (hs1 : ¬ sz = nv) (hs0 : ¬ sz < 0) (hs2 : sz.toNatClampNeg < vs.length) (nE : kE ≠ k) (qb : Lk Z h0 n0 Ls b (.inl (C, fs, us))) (kc : C = "java/lang/Object" ∨ (Cond.castable C "java/lang/Object").before a0 Z = true) (nb : b ≠ n0 + k) :
    Met1 l Z (⟨"java/util/ArrayList", "add", "(Ljava/lang/Object;[Ljava/lang/Object;I)V"⟩ : MethodName) jdk_38_method_24_code 4 none ({ frames := 0, cells := 0, slots := 0, locals := 0 } : Room) #[(.ref (n0 + k)), (.ref b), (.ref (n0 + kE)), (.int sz)] h0 n0 Ls (fun v L => v = none ∧ L = (Ls.set kE (aO (vs.set sz.toNatClampNeg (.ref b)))).set k (o0 mc (.ref (n0 + kE)) (.int (sz + 1)))) [] := by
  refine Met1.of (ls := #[vR (n0 + k), vR b, vR (n0 + kE), vI sz]) (plainFor_of_name pn2) (fun m => by first | (simp [entryFrame, mkF, argsToLocals, Value.category]; done) | rfl) ?_
  intro p e s m below meth c T w
  refine s_iloadN (pc' := 1) w d10_0 rfl rfl ?_
  refine s_aloadN (pc' := 2) w d10_1 rfl rfl rfl ?_
  refine s_arraylength (pc' := 3) nv w (Lk.new hE) d10_2 hnv rfl ?_
  refine s_icmpY (pc' := 11) w d10_3 (Jvm.Free.XT.ii_ne_t hs1) (by decide) (by decide) ?_
  refine s_aloadN (pc' := 12) w d10_11 rfl rfl rfl ?_
  refine s_iloadN (pc' := 13) w d10_12 rfl rfl ?_
  refine s_aloadN (pc' := 14) w d10_13 rfl rfl rfl ?_
  refine s_aastore (pc' := 15) (k := kE) w hE qb kc d10_14 hs0 hs2 rfl ?_
  intro T w
  refine s_aloadN (pc' := 16) w d10_15 rfl rfl rfl ?_
  refine s_iloadN (pc' := 17) w d10_16 rfl rfl ?_
  refine s_iconst (pc' := 18) (1 : Int32) w d10_17 (by decide) rfl ?_
  refine s_iadd (pc' := 19) w d10_18 rfl ?_
  refine s_put (pc' := 22) (host := "") (k := k) w (Or.inl (t69 hw)) Via.refl (cls0 hw) (lk_ne hk nE) (j := 2) rfl (leB rfl) (Or.inl (t70 hw)) (ty := .int) (by decide +kernel) rfl rfl d10_19 rfl ?_
  intro T w
  exact s_return w d10_22 (by decide) (by decide) ⟨rfl, rfl⟩
set_option maxRecDepth 65536 in
set_option maxHeartbeats 40000000 in
theorem c_addg {Z : State} {a0 : Array Value} (hw : Tw Z a0) (l : Launch) (h0 : Heap) (n0 : Nat) (k : Nat) (mc : Int32) (de : Addr) (dcl : Cell) (b : Addr) (C : String) (fs : List (String × String × String)) (us : List Value) (Ls : List Ob) (hk : Ls[k]? = some (o0 (.int mc) (.ref de) (.int 0))) (SD : Sta Z h0 "java/util/ArrayList" "DEFAULTCAPACITY_EMPTY_ELEMENTDATA" "[Ljava/lang/Object;" (.ref de)) (AD : Arr Z h0 de dcl (.object "java/lang/Object")) (hdcl : dcl.slots.size = 0) (qb : Lk Z h0 n0 Ls b (.inl (C, fs, us))) (kc : C = "java/lang/Object" ∨ (Cond.castable C "java/lang/Object").before a0 Z = true) (nb : b ≠ n0 + k) :
    Met1 l Z (⟨"java/util/ArrayList", "add", "(Ljava/lang/Object;)Z"⟩ : MethodName) jdk_38_method_25_code 2 (some .boolean) ({ frames := 4, cells := 1, slots := 10, locals := 56 } : Room) #[(.ref (n0 + k)), (.ref b)] h0 n0 Ls (fun v L => v = some (.int 1) ∧ L = Ls.set k (o0 (.int (mc + 1)) (.ref (n0 + Ls.length)) (.int 1)) ++ [aO ((List.replicate 10 .null).set 0 (.ref b))]) [] := by
  refine Met1.of (ls := #[vR (n0 + k), vR b]) (plainFor_of_name pn2) (fun m => by first | (simp [entryFrame, mkF, argsToLocals, Value.category]; done) | rfl) ?_
  intro p e s m below meth c T w
  refine s_aloadN (pc' := 1) w d9_0 rfl rfl rfl ?_
  refine s_dup (pc' := 2) w d9_1 rfl rfl ?_
  refine s_getL (pc' := 5) (host := "") w (Or.inl (t67 hw)) (Via.of (t68 hw)) (Lk.new hk) (j := 0) rfl rfl d9_2 rfl ?_
  intro T w
  refine s_iconst (pc' := 6) (1 : Int32) w d9_5 (by decide) rfl ?_
  refine s_iadd (pc' := 7) w d9_6 rfl ?_
  refine s_put (pc' := 10) (host := "") (k := k) w (Or.inl (t67 hw)) (Via.of (t68 hw)) (cls0 hw) hk (j := 0) rfl (leB rfl) (Or.inl (t31 hw)) (ty := .int) (by decide +kernel) rfl rfl d9_7 rfl ?_
  intro T w
  replace w : St p l e _ s m _ below meth c Z _ _ _ _ h0 n0 T (Ls.set k (o0 (.int (mc + 1)) (.ref de) (.int 0))) 0 0 := w
  refine s_aloadN (pc' := 11) w d9_10 rfl rfl rfl ?_
  refine s_aloadN (pc' := 12) w d9_11 rfl rfl rfl ?_
  refine s_aloadN (pc' := 13) w d9_12 rfl rfl rfl ?_
  refine s_getL (pc' := 16) (host := "") w (Or.inl (t33 hw)) Via.refl (Lk.new (lk_set hk)) (j := 1) rfl rfl d9_13 rfl ?_
  intro T w
  refine s_aloadN (pc' := 17) w d9_16 rfl rfl rfl ?_
  refine s_getL (pc' := 20) (host := "") w (Or.inl (t69 hw)) Via.refl (Lk.new (lk_set hk)) (j := 2) rfl rfl d9_17 rfl ?_
  intro T w
  refine s_private (pc' := 23) (rest := []) 0 [(.ref b), (.ref de), (.int (0 : Int32))] w (c_add3g hw l h0 n0 k (.int (mc + 1)) de dcl b C fs us (Ls.set k (o0 (.int (mc + 1)) (.ref de) (.int 0))) (lk_set hk) SD AD hdcl (qb.set hk nb) kc nb) (Lk.new (lk_set hk)) (t71 hw) (t72 hw) (t65 hw) rfl (t73 hw) (t11 hw) (t75 hw) (by decide) pd4 d9_20 (by decide) rfl rfl rfl rfl (Nat.le_of_eq rfl) rfl ?_
  intro T v L' hQ w
  obtain ⟨rfl, hL⟩ := hQ
  replace hL := hL.symm
  subst hL
  dsimp only [oS, oN, cA, nA]
  refine s_iconst (pc' := 24) (1 : Int32) w d9_23 (by decide) rfl ?_
  exact s_zreturn rfl w d9_24 (by decide) (by decide) ⟨rfl, by rw [List.set_set, List.length_set]⟩
set_option maxRecDepth 65536 in
set_option maxHeartbeats 40000000 in
theorem c_addn {Z : State} {a0 : Array Value} (hw : Tw Z a0) (l : Launch) (h0 : Heap) (n0 : Nat) (k kE : Nat) (mc sz : Int32) (vs : List Value) (nv : Int32) (b : Addr) (C : String) (fs : List (String × String × String)) (us : List Value) (Ls : List Ob) (hk : Ls[k]? = some (o0 (.int mc) (.ref (n0 + kE)) (.int sz))) (hE : Ls[kE]? = some (aO (vs))) (hnv : vs.length.toInt32 = nv) (hs1 : ¬ sz = nv) (hs0 : ¬ sz < 0) (hs2 : sz.toNatClampNeg < vs.length) (nE : kE ≠ k) (qb : Lk Z h0 n0 Ls b (.inl (C, fs, us))) (kc : C = "java/lang/Object" ∨ (Cond.castable C "java/lang/Object").before a0 Z = true) (nb : b ≠ n0 + k) :
    Met1 l Z (⟨"java/util/ArrayList", "add", "(Ljava/lang/Object;)Z"⟩ : MethodName) jdk_38_method_25_code 2 (some .boolean) ({ frames := 1, cells := 0, slots := 0, locals := 15 } : Room) #[(.ref (n0 + k)), (.ref b)] h0 n0 Ls (fun v L => v = some (.int 1) ∧ L = (Ls.set kE (aO (vs.set sz.toNatClampNeg (.ref b)))).set k (o0 (.int (mc + 1)) (.ref (n0 + kE)) (.int (sz + 1)))) [] := by
  refine Met1.of (ls := #[vR (n0 + k), vR b]) (plainFor_of_name pn2) (fun m => by first | (simp [entryFrame, mkF, argsToLocals, Value.category]; done) | rfl) ?_
  intro p e s m below meth c T w
  refine s_aloadN (pc' := 1) w d9_0 rfl rfl rfl ?_
  refine s_dup (pc' := 2) w d9_1 rfl rfl ?_
  refine s_getL (pc' := 5) (host := "") w (Or.inl (t67 hw)) (Via.of (t68 hw)) (Lk.new hk) (j := 0) rfl rfl d9_2 rfl ?_
  intro T w
  refine s_iconst (pc' := 6) (1 : Int32) w d9_5 (by decide) rfl ?_
  refine s_iadd (pc' := 7) w d9_6 rfl ?_
  refine s_put (pc' := 10) (host := "") (k := k) w (Or.inl (t67 hw)) (Via.of (t68 hw)) (cls0 hw) hk (j := 0) rfl (leB rfl) (Or.inl (t31 hw)) (ty := .int) (by decide +kernel) rfl rfl d9_7 rfl ?_
  intro T w
  replace w : St p l e _ s m _ below meth c Z _ _ _ _ h0 n0 T (Ls.set k (o0 (.int (mc + 1)) (.ref (n0 + kE)) (.int sz))) 0 0 := w
  refine s_aloadN (pc' := 11) w d9_10 rfl rfl rfl ?_
  refine s_aloadN (pc' := 12) w d9_11 rfl rfl rfl ?_
  refine s_aloadN (pc' := 13) w d9_12 rfl rfl rfl ?_
  refine s_getL (pc' := 16) (host := "") w (Or.inl (t33 hw)) Via.refl (Lk.new (lk_set hk)) (j := 1) rfl rfl d9_13 rfl ?_
  intro T w
  refine s_aloadN (pc' := 17) w d9_16 rfl rfl rfl ?_
  refine s_getL (pc' := 20) (host := "") w (Or.inl (t69 hw)) Via.refl (Lk.new (lk_set hk)) (j := 2) rfl rfl d9_17 rfl ?_
  intro T w
  refine s_private (pc' := 23) (rest := []) 0 [(.ref b), (.ref (n0 + kE)), (.int sz)] w (c_add3n hw l h0 n0 k kE (.int (mc + 1)) sz vs nv b C fs us (Ls.set k (o0 (.int (mc + 1)) (.ref (n0 + kE)) (.int sz))) (lk_set hk) (lk_ne hE nE.symm) hnv hs1 hs0 hs2 nE (qb.set hk nb) kc nb) (Lk.new (lk_set hk)) (t71 hw) (t72 hw) (t65 hw) rfl (t73 hw) (t11 hw) (t75 hw) (by decide) pd4 d9_20 (by decide) rfl rfl rfl rfl (Nat.le_of_eq rfl) rfl ?_
  intro T v L' hQ w
  obtain ⟨rfl, hL⟩ := hQ
  replace hL := hL.symm
  subst hL
  dsimp only [oS, oN, cA, nA]
  refine s_iconst (pc' := 24) (1 : Int32) w d9_23 (by decide) rfl ?_
  exact s_zreturn rfl w d9_24 (by decide) (by decide) ⟨rfl, by rw [List.set_comm _ _ nE, List.set_set]; exact List.set_comm _ _ nE.symm⟩
set_option maxRecDepth 65536 in
set_option maxHeartbeats 40000000 in
theorem c_size {Z : State} {a0 : Array Value} (hw : Tw Z a0) (l : Launch) (h0 : Heap) (n0 : Nat) (a : Addr) (mc ed : Value) (sz : Int32) (Ls : List Ob) (q : Lk Z h0 n0 Ls a (o0 mc ed (.int sz))) :
    Met1 l Z (⟨"java/util/ArrayList", "size", "()I"⟩ : MethodName) jdk_38_method_8_code 1 (some .int) ({ frames := 0, cells := 0, slots := 0, locals := 0 } : Room) #[(.ref a)] h0 n0 Ls (fun v L => v = some (.int sz) ∧ L = Ls) [] := by
  refine Met1.of (ls := #[vR a]) (plainFor_of_name pn2) (fun m => by first | (simp [entryFrame, mkF, argsToLocals, Value.category]; done) | rfl) ?_
  intro p e s m below meth c T w
  refine s_aloadN (pc' := 1) w d18_0 rfl rfl rfl ?_
  refine s_getL (pc' := 4) (host := "") w (Or.inl (t69 hw)) Via.refl q (j := 2) rfl rfl d18_1 rfl ?_
  intro T w
  exact s_ireturn w d18_4 (by decide) (by decide) ⟨rfl, rfl⟩
set_option maxRecDepth 65536 in
set_option maxHeartbeats 40000000 in
theorem c_pre {Z : State} {a0 : Array Value} (hw : Tw Z a0) (l : Launch) (h0 : Heap) (n0 : Nat) (i n : Int32) (Ls : List Ob) (h1 : ¬ i < 0) (h2 : i < n) :
    Met1 l Z (⟨"jdk/internal/util/Preconditions", "checkIndex", "(IILjava/util/function/BiFunction;)I"⟩ : MethodName) jdk_41_method_11_code 3 (some .int) ({ frames := 0, cells := 0, slots := 0, locals := 0 } : Room) #[(.int i), (.int n), .null] h0 n0 Ls (fun v L => v = some (.int i) ∧ L = Ls) [] := by
  refine Met1.of (ls := #[vI i, vI n, .val .null]) (plainFor_of_name pn3) (fun m => by first | (simp [entryFrame, mkF, argsToLocals, Value.category]; done) | rfl) ?_
  intro p e s m below meth c T w
  refine s_iloadN (pc' := 1) w d21_0 rfl rfl ?_
  refine s_ifN (pc' := 4) w d21_1 (Jvm.Free.XT.i0_lt_f h1) rfl ?_
  refine s_iloadN (pc' := 5) w d21_4 rfl rfl ?_
  refine s_iloadN (pc' := 6) w d21_5 rfl rfl ?_
  refine s_icmpY (pc' := 16) w d21_6 (Jvm.Free.XT.ii_lt_t h2) (by decide) (by decide) ?_
  refine s_iloadN (pc' := 17) w d21_16 rfl rfl ?_
  exact s_ireturn w d21_17 (by decide) (by decide) ⟨rfl, rfl⟩
set_option maxRecDepth 65536 in
set_option maxHeartbeats 40000000 in
theorem c_chk {Z : State} {a0 : Array Value} (hw : Tw Z a0) (l : Launch) (h0 : Heap) (n0 : Nat) (i n : Int32) (Ls : List Ob) (h1 : ¬ i < 0) (h2 : i < n) :
    Met1 l Z (⟨"java/util/Objects", "checkIndex", "(II)I"⟩ : MethodName) jdk_31_method_17_code 2 (some .int) ({ frames := 1, cells := 0, slots := 0, locals := 14 } : Room) #[(.int i), (.int n)] h0 n0 Ls (fun v L => v = some (.int i) ∧ L = Ls) [] := by
  refine Met1.of (ls := #[vI i, vI n]) (plainFor_of_name pn4) (fun m => by first | (simp [entryFrame, mkF, argsToLocals, Value.category]; done) | rfl) ?_
  intro p e s m below meth c T w
  refine s_iloadN (pc' := 1) w d20_0 rfl rfl ?_
  refine s_iloadN (pc' := 2) w d20_1 rfl rfl ?_
  refine s_aconst_null (pc' := 3) w d20_2 rfl ?_
  refine s_static (pc' := 6) (rest := []) 0 [(.int i), (.int n), .null] w (c_pre hw l h0 n0 i n Ls h1 h2) (t149 hw) (t150 hw) (t151 hw) (t152 hw) (by decide) pd5 d20_3 (by decide) rfl rfl rfl rfl (Nat.le_of_eq rfl) rfl ?_
  intro T v L' hQ w
  obtain ⟨rfl, hL⟩ := hQ
  replace hL := hL.symm
  subst hL
  dsimp only [oS, oN, cA, nA]
  exact s_ireturn w d20_6 (by decide) (by decide) ⟨rfl, rfl⟩
set_option maxRecDepth 65536 in
set_option maxHeartbeats 40000000 in
theorem c_ed {Z : State} {a0 : Array Value} (hw : Tw Z a0) (l : Launch) (h0 : Heap) (n0 : Nat) (a ea : Addr) (mc : Value) (sz i : Int32) (vs : List Value) (b : Addr) (Ls : List Ob) (q : Lk Z h0 n0 Ls a (o0 mc (.ref ea) (.int sz))) (qE : Lk Z h0 n0 Ls ea (aO (vs))) (h1 : ¬ i < 0) (hv : vs[i.toNatClampNeg]? = some (.ref b)) :
    Met1 l Z (⟨"java/util/ArrayList", "elementData", "(I)Ljava/lang/Object;"⟩ : MethodName) jdk_38_method_18_code 2 (some (.object "java/lang/Object")) ({ frames := 0, cells := 0, slots := 0, locals := 0 } : Room) #[(.ref a), (.int i)] h0 n0 Ls (fun v L => v = some (.ref b) ∧ L = Ls) [] := by
  refine Met1.of (ls := #[vR a, vI i]) (plainFor_of_name pn2) (fun m => by first | (simp [entryFrame, mkF, argsToLocals, Value.category]; done) | rfl) ?_
  intro p e s m below meth c T w
  refine s_aloadN (pc' := 1) w d22_0 rfl rfl rfl ?_
  refine s_getL (pc' := 4) (host := "") w (Or.inl (t33 hw)) Via.refl q (j := 1) rfl rfl d22_1 rfl ?_
  intro T w
  refine s_iloadN (pc' := 5) w d22_4 rfl rfl ?_
  refine s_aaload (pc' := 6) (v := (.ref b)) w qE rfl d22_5 h1 hv rfl ?_
  exact s_areturn w d22_6 rfl rfl (by decide) (by decide) ⟨rfl, rfl⟩
set_option maxRecDepth 65536 in
set_option maxHeartbeats 40000000 in
theorem c_get {Z : State} {a0 : Array Value} (hw : Tw Z a0) (l : Launch) (h0 : Heap) (n0 : Nat) (a ea : Addr) (mc : Value) (sz i : Int32) (vs : List Value) (b : Addr) (Ls : List Ob) (q : Lk Z h0 n0 Ls a (o0 mc (.ref ea) (.int sz))) (qE : Lk Z h0 n0 Ls ea (aO (vs))) (h1 : ¬ i < 0) (hv : vs[i.toNatClampNeg]? = some (.ref b)) (h2 : i < sz) :
    Met1 l Z (⟨"java/util/ArrayList", "get", "(I)Ljava/lang/Object;"⟩ : MethodName) jdk_38_method_20_code 2 (some (.object "java/lang/Object")) ({ frames := 2, cells := 0, slots := 0, locals := 27 } : Room) #[(.ref a), (.int i)] h0 n0 Ls (fun v L => v = some (.ref b) ∧ L = Ls) [] := by
  refine Met1.of (ls := #[vR a, vI i]) (plainFor_of_name pn2) (fun m => by first | (simp [entryFrame, mkF, argsToLocals, Value.category]; done) | rfl) ?_
  intro p e s m below meth c T w
  refine s_iloadN (pc' := 1) w d19_0 rfl rfl ?_
  refine s_aloadN (pc' := 2) w d19_1 rfl rfl rfl ?_
  refine s_getL (pc' := 5) (host := "") w (Or.inl (t69 hw)) Via.refl q (j := 2) rfl rfl d19_2 rfl ?_
  intro T w
  refine s_static (pc' := 8) (rest := []) 0 [(.int i), (.int sz)] w (c_chk hw l h0 n0 i sz Ls h1 h2) (t145 hw) (t146 hw) (t147 hw) (t148 hw) (by decide) pd1 d19_5 (by decide) rfl rfl rfl rfl (Nat.le_of_eq rfl) rfl ?_
  intro T v L' hQ w
  obtain ⟨rfl, hL⟩ := hQ
  replace hL := hL.symm
  subst hL
  dsimp only [oS, oN, cA, nA]
  refine s_pop (pc' := 9) w d19_8 rfl rfl ?_
  refine s_aloadN (pc' := 10) w d19_9 rfl rfl rfl ?_
  refine s_iloadN (pc' := 11) w d19_10 rfl rfl ?_
  refine s_virtual (pc' := 14) (rest := []) 0 [(.int i)] w (c_ed hw l h0 n0 a ea mc sz i vs b Ls q qE h1 hv) q (t153 hw) (t154 hw) (w.notFace (t156 hw)) (t156 hw) (t155 hw) (t11 hw) (t157 hw) (by decide) pd6 d19_11 (by decide) rfl rfl rfl rfl (Nat.le_of_eq rfl) rfl ?_
  intro T v L' hQ w
  obtain ⟨rfl, hL⟩ := hQ
  replace hL := hL.symm
  subst hL
  dsimp only [oS, oN, cA, nA]
  exact s_areturn w d19_14 rfl rfl (by decide) (by decide) ⟨rfl, rfl⟩
set_option maxRecDepth 65536 in
set_option maxHeartbeats 40000000 in
theorem c_tie {Z : State} {a0 : Array Value} (hw : Tw Z a0) (l : Launch) (h0 : Heap) (n0 : Nat) (x1 : Int64) (Ls : List Ob) (hx1 : x1.toInt32.toInt64 = x1) :
    Met1 l Z (⟨"java/lang/Math", "toIntExact", "(J)I"⟩ : MethodName) jdk_29_method_43_code 2 (some .int) ({ frames := 0, cells := 0, slots := 0, locals := 0 } : Room) #[(.long x1)] h0 n0 Ls (fun v L => v = some (.int x1.toInt32) ∧ L = Ls) [] := by
  refine Met1.of (ls := #[vJ x1, sc]) (Jvm.Free.JP.mathPlain rfl (by decide +kernel)) (fun m => by first | (simp [entryFrame, mkF, argsToLocals, Value.category]; done) | rfl) ?_
  intro p e s m below meth c T w
  refine s_lloadN (pc' := 1) w d16_0 rfl rfl ?_
  refine s_l2i (pc' := 2) w d16_1 rfl ?_
  refine s_i2l (pc' := 3) w d16_2 rfl ?_
  refine s_lloadN (pc' := 4) w d16_3 rfl rfl ?_
  refine s_lcmp (pc' := 5) w d16_4 rfl ?_
  refine s_ifY (pc' := 18) w d16_5 (Jvm.Free.XT.ll_eq_t hx1) (by decide) (by decide) ?_
  refine s_lloadN (pc' := 19) w d16_18 rfl rfl ?_
  refine s_l2i (pc' := 20) w d16_19 rfl ?_
  exact s_ireturn w d16_20 (by decide) (by decide) ⟨rfl, rfl⟩
set_option maxRecDepth 65536 in
set_option maxHeartbeats 40000000 in
theorem c_mule {Z : State} {a0 : Array Value} (hw : Tw Z a0) (l : Launch) (h0 : Heap) (n0 : Nat) (x1 x2 : Int32) (Ls : List Ob) (hx1 : (x1.toInt64 * x2.toInt64).toInt32.toInt64 = x1.toInt64 * x2.toInt64) :
    Met1 l Z (⟨"java/lang/Math", "multiplyExact", "(II)I"⟩ : MethodName) jdk_29_method_28_code 4 (some .int) ({ frames := 0, cells := 0, slots := 0, locals := 0 } : Room) #[(.int x1), (.int x2)] h0 n0 Ls (fun v L => v = some (.int (x1.toInt64 * x2.toInt64).toInt32) ∧ L = Ls) [] := by
  refine Met1.of (ls := #[vI x1, vI x2, un, un]) (Jvm.Free.JP.mathPlain rfl (by decide +kernel)) (fun m => by first | (simp [entryFrame, mkF, argsToLocals, Value.category]; done) | rfl) ?_
  intro p e s m below meth c T w
  refine s_iloadN (pc' := 1) w d35_0 rfl rfl ?_
  refine s_i2l (pc' := 2) w d35_1 rfl ?_
  refine s_iloadN (pc' := 3) w d35_2 rfl rfl ?_
  refine s_i2l (pc' := 4) w d35_3 rfl ?_
  refine s_lmul (pc' := 5) w d35_4 rfl ?_
  refine s_lstoreN (pc' := 6) (ls' := #[vI x1, vI x2, vJ (x1.toInt64 * x2.toInt64), sc]) w d35_5 rfl rfl ?_
  refine s_lloadN (pc' := 7) w d35_6 rfl rfl ?_
  refine s_l2i (pc' := 8) w d35_7 rfl ?_
  refine s_i2l (pc' := 9) w d35_8 rfl ?_
  refine s_lloadN (pc' := 10) w d35_9 rfl rfl ?_
  refine s_lcmp (pc' := 11) w d35_10 rfl ?_
  refine s_ifY (pc' := 24) w d35_11 (Jvm.Free.XT.ll_eq_t hx1) (by decide) (by decide) ?_
  refine s_lloadN (pc' := 25) w d35_24 rfl rfl ?_
  refine s_l2i (pc' := 26) w d35_25 rfl ?_
  exact s_ireturn w d35_26 (by decide) (by decide) ⟨rfl, rfl⟩
set_option maxRecDepth 65536 in
set_option maxHeartbeats 40000000 in
theorem c_fillI {Z : State} {a0 : Array Value} (hw : Tw Z a0) (l : Launch) (h0 : Heap) (n0 : Nat) (k : Nat) (x1 : Int32) (vs : List Value) (nv : Int32) (Ls : List Ob) (hk : Ls[k]? = some (aI (vs))) (hnv : vs.length.toInt32 = nv) (hl : vs.length < 2 ^ 31) :
    Met1 l Z (⟨"java/util/Arrays", "fill", "([II)V"⟩ : MethodName) jdk_65_method_103_code 4 none ({ frames := 0, cells := 0, slots := 0, locals := 0 } : Room) #[(.ref (n0 + k)), (.int x1)] h0 n0 Ls (fun v L => v = none ∧ L = Ls.set k (aI (List.replicate vs.length (.int x1)))) [] := by
  refine Met1.of (ls := #[vR (n0 + k), vI x1, un, un]) (plainFor_of_name pn5) (fun m => by first | (simp [entryFrame, mkF, argsToLocals, Value.category]; done) | rfl) ?_
  intro p e s m below meth c T w
  refine s_iconst (pc' := 1) (0 : Int32) w d17_0 (by decide) rfl ?_
  refine s_istoreN (pc' := 2) (ls' := #[vR (n0 + k), vI x1, vI (0 : Int32), un]) w d17_1 rfl rfl ?_
  refine s_aloadN (pc' := 3) w d17_2 rfl rfl rfl ?_
  refine s_arraylength (pc' := 4) nv w (Lk.new hk) d17_3 hnv rfl ?_
  refine s_istoreN (pc' := 5) (ls' := #[vR (n0 + k), vI x1, vI (0 : Int32), vI nv]) w d17_4 rfl rfl ?_
  have hn0 : nv.toInt = vs.length := by rw [← hnv]; exact len_toInt hl
  suffices K : ∀ (r i : Nat) (T : State), i + r = vs.length → St p l e _ s m _ below meth c Z _ _ _ _ h0 n0 T (Ls.set k (aI (List.replicate i (.int x1) ++ vs.drop i))) 0 0 → Go p e below (Fin1 Z h0 n0 s _ _) T (mkF m 5 #[vR (n0 + k), vI x1, vI i.toInt32, vI nv] []) by
    exact K vs.length 0 T (Nat.zero_add _) (by rw [show Ls.set k (aI (List.replicate 0 (.int x1) ++ vs.drop 0)) = Ls from by simp [set_self hk]]; exact w)
  intro r
  induction r with
  | zero =>
    intro i T hi w
    have hi' : i = vs.length := by omega
    have ei : i.toInt32.toInt = i := len_toInt (by omega)
    have hc : ¬ i.toInt32 < nv := by rw [Int32.lt_iff_toInt_lt, ei, hn0]; omega
    refine s_iloadN (pc' := 6) w d17_5 rfl rfl ?_
    refine s_iloadN (pc' := 7) w d17_6 rfl rfl ?_
    refine s_icmpY (pc' := 20) w d17_7 (Jvm.Free.XT.ii_ge_t hc) (by decide) (by decide) ?_
    exact s_return w d17_20 (by decide) (by decide) ⟨rfl, by subst hi'; simp⟩
  | succ r ih =>
    intro i T hi w
    have ei : i.toInt32.toInt = i := len_toInt (by omega)
    have hc : i.toInt32 < nv := by rw [Int32.lt_iff_toInt_lt, ei, hn0]; omega
    have g0 : ¬ i.toInt32 < 0 := by rw [Int32.lt_iff_toInt_lt, ei]; show ¬ (i : Int) < 0; omega
    have gi : i.toInt32.toNatClampNeg = i := by simp only [Int32.toNatClampNeg, ei]; omega
    have es : i.toInt32 + (1 : Int32) = (i + 1).toInt32 := succ32 i
    refine s_iloadN (pc' := 6) w d17_5 rfl rfl ?_
    refine s_iloadN (pc' := 7) w d17_6 rfl rfl ?_
    refine s_icmpN (pc' := 10) w d17_7 (Jvm.Free.XT.ii_ge_f hc) rfl ?_
    refine s_aloadN (pc' := 11) w d17_10 rfl rfl rfl ?_
    refine s_iloadN (pc' := 12) w d17_11 rfl rfl ?_
    refine s_iloadN (pc' := 13) w d17_12 rfl rfl ?_
    refine s_iastore (pc' := 14) (k := k) w (lk_set hk) d17_13 g0 (by rw [gi]; simp; omega) rfl ?_
    intro T w
    rw [gi, List.set_set] at w
    refine s_iinc (pc' := 17) (ls' := #[vR (n0 + k), vI x1, vI (i.toInt32 + (1 : Int32)), vI nv]) (1 : Int32) w d17_14 (by decide) rfl rfl rfl ?_
    refine s_goto (pc' := 5) w d17_17 (by decide) (by decide) ?_
    rw [es]
    exact ih (i + 1) T (by omega) (by rw [fill_step (by omega)] at w; exact w)
set_option maxRecDepth 65536 in
set_option maxHeartbeats 40000000 in
theorem c_fillJ {Z : State} {a0 : Array Value} (hw : Tw Z a0) (l : Launch) (h0 : Heap) (n0 : Nat) (k : Nat) (x1 : Int64) (vs : List Value) (nv : Int32) (Ls : List Ob) (hk : Ls[k]? = some (aJ (vs))) (hnv : vs.length.toInt32 = nv) (hl : vs.length < 2 ^ 31) :
    Met1 l Z (⟨"java/util/Arrays", "fill", "([JJ)V"⟩ : MethodName) jdk_65_method_101_code 5 none ({ frames := 0, cells := 0, slots := 0, locals := 0 } : Room) #[(.ref (n0 + k)), (.long x1)] h0 n0 Ls (fun v L => v = none ∧ L = Ls.set k (aJ (List.replicate vs.length (.long x1)))) [] := by
  refine Met1.of (ls := #[vR (n0 + k), vJ x1, sc, un, un]) (plainFor_of_name pn5) (fun m => by first | (simp [entryFrame, mkF, argsToLocals, Value.category]; done) | rfl) ?_
  intro p e s m below meth c T w
  refine s_iconst (pc' := 1) (0 : Int32) w d31_0 (by decide) rfl ?_
  refine s_istoreN (pc' := 2) (ls' := #[vR (n0 + k), vJ x1, sc, vI (0 : Int32), un]) w d31_1 rfl rfl ?_
  refine s_aloadN (pc' := 3) w d31_2 rfl rfl rfl ?_
  refine s_arraylength (pc' := 4) nv w (Lk.new hk) d31_3 hnv rfl ?_
  refine s_istore (pc' := 6) (ls' := #[vR (n0 + k), vJ x1, sc, vI (0 : Int32), vI nv]) w d31_4 rfl rfl ?_
  have hn0 : nv.toInt = vs.length := by rw [← hnv]; exact len_toInt hl
  suffices K : ∀ (r i : Nat) (T : State), i + r = vs.length → St p l e _ s m _ below meth c Z _ _ _ _ h0 n0 T (Ls.set k (aJ (List.replicate i (.long x1) ++ vs.drop i))) 0 0 → Go p e below (Fin1 Z h0 n0 s _ _) T (mkF m 6 #[vR (n0 + k), vJ x1, sc, vI i.toInt32, vI nv] []) by
    exact K vs.length 0 T (Nat.zero_add _) (by rw [show Ls.set k (aJ (List.replicate 0 (.long x1) ++ vs.drop 0)) = Ls from by simp [set_self hk]]; exact w)
  intro r
  induction r with
  | zero =>
    intro i T hi w
    have hi' : i = vs.length := by omega
    have ei : i.toInt32.toInt = i := len_toInt (by omega)
    have hc : ¬ i.toInt32 < nv := by rw [Int32.lt_iff_toInt_lt, ei, hn0]; omega
    refine s_iloadN (pc' := 7) w d31_6 rfl rfl ?_
    refine s_iload (pc' := 9) w d31_7 rfl rfl ?_
    refine s_icmpY (pc' := 22) w d31_9 (Jvm.Free.XT.ii_ge_t hc) (by decide) (by decide) ?_
    exact s_return w d31_22 (by decide) (by decide) ⟨rfl, by subst hi'; simp⟩
  | succ r ih =>
    intro i T hi w
    have ei : i.toInt32.toInt = i := len_toInt (by omega)
    have hc : i.toInt32 < nv := by rw [Int32.lt_iff_toInt_lt, ei, hn0]; omega
    have g0 : ¬ i.toInt32 < 0 := by rw [Int32.lt_iff_toInt_lt, ei]; show ¬ (i : Int) < 0; omega
    have gi : i.toInt32.toNatClampNeg = i := by simp only [Int32.toNatClampNeg, ei]; omega
    have es : i.toInt32 + (1 : Int32) = (i + 1).toInt32 := succ32 i
    refine s_iloadN (pc' := 7) w d31_6 rfl rfl ?_
    refine s_iload (pc' := 9) w d31_7 rfl rfl ?_
    refine s_icmpN (pc' := 12) w d31_9 (Jvm.Free.XT.ii_ge_f hc) rfl ?_
    refine s_aloadN (pc' := 13) w d31_12 rfl rfl rfl ?_
    refine s_iloadN (pc' := 14) w d31_13 rfl rfl ?_
    refine s_lloadN (pc' := 15) w d31_14 rfl rfl ?_
    refine s_lastore (pc' := 16) (k := k) w (lk_set hk) d31_15 g0 (by rw [gi]; simp; omega) rfl ?_
    intro T w
    rw [gi, List.set_set] at w
    refine s_iinc (pc' := 19) (ls' := #[vR (n0 + k), vJ x1, sc, vI (i.toInt32 + (1 : Int32)), vI nv]) (1 : Int32) w d31_16 (by decide) rfl rfl rfl ?_
    refine s_goto (pc' := 6) w d31_19 (by decide) (by decide) ?_
    rw [es]
    exact ih (i + 1) T (by omega) (by rw [fill_step (by omega)] at w; exact w)
set_option maxRecDepth 65536 in
set_option maxHeartbeats 40000000 in
theorem c_nlz32 {Z : State} {a0 : Array Value} (hw : Tw Z a0) (l : Launch) (h0 : Heap) (n0 : Nat) (x1 : Int32) (Ls : List Ob) :
    Met1 l Z (⟨"java/lang/Integer", "numberOfLeadingZeros", "(I)I"⟩ : MethodName) jdk_33_method_47_code 2 (some .int) ({ frames := 0, cells := 0, slots := 0, locals := 0 } : Room) #[(.int x1)] h0 n0 Ls (fun v L => ∃ n : Nat, v = some (.int (Int32.ofNat n)) ∧ n ≤ 32 ∧ x1.toBitVec.toNat < 2 ^ (32 - n) ∧ L = Ls) [] := by
  refine Met1.of (ls := #[vI x1, un]) (plainFor_of_name pn6) (fun m => by first | (simp [entryFrame, mkF, argsToLocals, Value.category]; done) | rfl) ?_
  intro p e s m below meth c T w
  refine s_iloadN (pc' := 1) w d26_0 rfl rfl ?_
  by_cases h : 0 < x1
  · refine s_ifY (pc' := 15) w d26_1 (Jvm.Free.XT.i0_gt_t h) (by decide) (by decide) ?_
    refine s_bipush (pc' := 17) (31 : Int32) w d26_15 (by decide) rfl ?_
    refine s_istoreN (pc' := 18) (ls' := #[vI x1, vI (31 : Int32)]) w d26_17 rfl rfl ?_
    obtain ⟨u1, u2⟩ := n_pos h
    have hx1 : x1 = Int32.ofNat x1.toBitVec.toNat := (n_back x1).symm
    generalize hu : x1.toBitVec.toNat = u at *
    have K73 : ∀ (q : Nat), q ≤ 30 → 1 ≤ u / 2 ^ q → u / 2 ^ q < 4 → Go p e below (Fin1 Z h0 n0 s ({ frames := 0, cells := 0, slots := 0, locals := 0 } : Room) (fun v L => ∃ n : Nat, v = some (.int (Int32.ofNat n)) ∧ n ≤ 32 ∧ u < 2 ^ (32 - n) ∧ L = Ls)) T (mkF m 73 #[.val (.int (Int32.ofNat (u / 2 ^ q))), .val (.int (Int32.ofNat (31 - q)))] []) := by
      intro q hq h1 h2
      refine s_iloadN (pc' := 74) w d26_73 rfl rfl ?_
      refine s_iloadN (pc' := 75) w d26_74 rfl rfl ?_
      refine s_iconst (pc' := 76) (1 : Int32) w d26_75 (by decide) rfl ?_
      refine s_iushr (pc' := 77) w d26_76 rfl ?_
      rw [n_us1 (n_le u q u2)]
      refine s_isub (pc' := 78) w d26_77 rfl ?_
      obtain ⟨n, e1, e2, e3⟩ := n_end hq h1 h2
      rw [e1]
      exact s_ireturn w d26_78 (by decide) (by decide) ⟨n, rfl, e2, e3, rfl⟩
    have K61 : ∀ (q : Nat), q ≤ 28 → 1 ≤ u / 2 ^ q → u / 2 ^ q < 2 ^ 4 → Go p e below (Fin1 Z h0 n0 s ({ frames := 0, cells := 0, slots := 0, locals := 0 } : Room) (fun v L => ∃ n : Nat, v = some (.int (Int32.ofNat n)) ∧ n ≤ 32 ∧ u < 2 ^ (32 - n) ∧ L = Ls)) T (mkF m 61 #[.val (.int (Int32.ofNat (u / 2 ^ q))), .val (.int (Int32.ofNat (31 - q)))] []) := by
      intro q hq h1 h2
      have hb := n_le u q u2
      refine s_iloadN (pc' := 62) w d26_61 rfl rfl ?_
      refine s_iconst (pc' := 63) (4 : Int32) w d26_62 (by decide) rfl ?_
      change Go p e below _ T (mkF m 63 #[vI (Int32.ofNat (u / 2 ^ q)), vI (Int32.ofNat (31 - q))] [(.int (Int32.ofNat 4)), (.int (Int32.ofNat (u / 2 ^ q)))])
      by_cases g : u / 2 ^ q < 4
      · refine s_icmpY (pc' := 73) w d26_63 (Jvm.Free.XT.ii_lt_t ((n_lt hb (by decide)).mpr g)) (by decide) (by decide) ?_
        exact K73 q (by omega) h1 g
      · refine s_icmpN (pc' := 66) w d26_63 (Jvm.Free.XT.ii_lt_f (fun z => g ((n_lt hb (by decide)).mp z))) rfl ?_
        refine s_iinc (pc' := 69) (ls' := #[vI (Int32.ofNat (u / 2 ^ q)), vI ((Int32.ofNat (31 - q)) + (-2 : Int32))]) (-2 : Int32) w d26_66 (by decide) rfl rfl rfl ?_
        rw [n_down (s := 2) (by decide) (by omega)]
        refine s_iloadN (pc' := 70) w d26_69 rfl rfl ?_
        refine s_iconst (pc' := 71) (2 : Int32) w d26_70 (by decide) rfl ?_
        refine s_iushr (pc' := 72) w d26_71 rfl ?_
        rw [n_us2 hb, n_div]
        refine s_istoreN (pc' := 73) (ls' := #[vI (Int32.ofNat (u / 2 ^ (q + 2))), vI (Int32.ofNat (31 - (q + 2)))]) w d26_72 rfl rfl ?_
        have hdv := n_div u q 2
        exact K73 (q + 2) (by omega) (by rw [← hdv]; omega) (by rw [← hdv]; omega)
    have K48 : ∀ (q : Nat), q ≤ 24 → 1 ≤ u / 2 ^ q → u / 2 ^ q < 2 ^ 8 → Go p e below (Fin1 Z h0 n0 s ({ frames := 0, cells := 0, slots := 0, locals := 0 } : Room) (fun v L => ∃ n : Nat, v = some (.int (Int32.ofNat n)) ∧ n ≤ 32 ∧ u < 2 ^ (32 - n) ∧ L = Ls)) T (mkF m 48 #[.val (.int (Int32.ofNat (u / 2 ^ q))), .val (.int (Int32.ofNat (31 - q)))] []) := by
      intro q hq h1 h2
      have hb := n_le u q u2
      refine s_iloadN (pc' := 49) w d26_48 rfl rfl ?_
      refine s_bipush (pc' := 51) (16 : Int32) w d26_49 (by decide) rfl ?_
      change Go p e below _ T (mkF m 51 #[vI (Int32.ofNat (u / 2 ^ q)), vI (Int32.ofNat (31 - q))] [(.int (Int32.ofNat 16)), (.int (Int32.ofNat (u / 2 ^ q)))])
      by_cases g : u / 2 ^ q < 16
      · refine s_icmpY (pc' := 61) w d26_51 (Jvm.Free.XT.ii_lt_t ((n_lt hb (by decide)).mpr g)) (by decide) (by decide) ?_
        exact K61 q (by omega) h1 (by omega)
      · refine s_icmpN (pc' := 54) w d26_51 (Jvm.Free.XT.ii_lt_f (fun z => g ((n_lt hb (by decide)).mp z))) rfl ?_
        refine s_iinc (pc' := 57) (ls' := #[vI (Int32.ofNat (u / 2 ^ q)), vI ((Int32.ofNat (31 - q)) + (-4 : Int32))]) (-4 : Int32) w d26_54 (by decide) rfl rfl rfl ?_
        rw [n_down (s := 4) (by decide) (by omega)]
        refine s_iloadN (pc' := 58) w d26_57 rfl rfl ?_
        refine s_iconst (pc' := 59) (4 : Int32) w d26_58 (by decide) rfl ?_
        refine s_iushr (pc' := 60) w d26_59 rfl ?_
        rw [n_us4 hb, n_div]
        refine s_istoreN (pc' := 61) (ls' := #[vI (Int32.ofNat (u / 2 ^ (q + 4))), vI (Int32.ofNat (31 - (q + 4)))]) w d26_60 rfl rfl ?_
        have hdv := n_div u q 4
        exact K61 (q + 4) (by omega) (by rw [← hdv]; omega) (by rw [← hdv]; omega)
    have K33 : ∀ (q : Nat), q ≤ 16 → 1 ≤ u / 2 ^ q → u / 2 ^ q < 2 ^ 16 → Go p e below (Fin1 Z h0 n0 s ({ frames := 0, cells := 0, slots := 0, locals := 0 } : Room) (fun v L => ∃ n : Nat, v = some (.int (Int32.ofNat n)) ∧ n ≤ 32 ∧ u < 2 ^ (32 - n) ∧ L = Ls)) T (mkF m 33 #[.val (.int (Int32.ofNat (u / 2 ^ q))), .val (.int (Int32.ofNat (31 - q)))] []) := by
      intro q hq h1 h2
      have hb := n_le u q u2
      refine s_iloadN (pc' := 34) w d26_33 rfl rfl ?_
      refine s_sipush (pc' := 37) (256 : Int32) w d26_34 (by decide) rfl ?_
      change Go p e below _ T (mkF m 37 #[vI (Int32.ofNat (u / 2 ^ q)), vI (Int32.ofNat (31 - q))] [(.int (Int32.ofNat 256)), (.int (Int32.ofNat (u / 2 ^ q)))])
      by_cases g : u / 2 ^ q < 256
      · refine s_icmpY (pc' := 48) w d26_37 (Jvm.Free.XT.ii_lt_t ((n_lt hb (by decide)).mpr g)) (by decide) (by decide) ?_
        exact K48 q (by omega) h1 (by omega)
      · refine s_icmpN (pc' := 40) w d26_37 (Jvm.Free.XT.ii_lt_f (fun z => g ((n_lt hb (by decide)).mp z))) rfl ?_
        refine s_iinc (pc' := 43) (ls' := #[vI (Int32.ofNat (u / 2 ^ q)), vI ((Int32.ofNat (31 - q)) + (-8 : Int32))]) (-8 : Int32) w d26_40 (by decide) rfl rfl rfl ?_
        rw [n_down (s := 8) (by decide) (by omega)]
        refine s_iloadN (pc' := 44) w d26_43 rfl rfl ?_
        refine s_bipush (pc' := 46) (8 : Int32) w d26_44 (by decide) rfl ?_
        refine s_iushr (pc' := 47) w d26_46 rfl ?_
        rw [n_us8 hb, n_div]
        refine s_istoreN (pc' := 48) (ls' := #[vI (Int32.ofNat (u / 2 ^ (q + 8))), vI (Int32.ofNat (31 - (q + 8)))]) w d26_47 rfl rfl ?_
        have hdv := n_div u q 8
        exact K48 (q + 8) (by omega) (by rw [← hdv]; omega) (by rw [← hdv]; omega)
    have K18 : ∀ (q : Nat), q ≤ 0 → 1 ≤ u / 2 ^ q → u / 2 ^ q < 2 ^ 31 → Go p e below (Fin1 Z h0 n0 s ({ frames := 0, cells := 0, slots := 0, locals := 0 } : Room) (fun v L => ∃ n : Nat, v = some (.int (Int32.ofNat n)) ∧ n ≤ 32 ∧ u < 2 ^ (32 - n) ∧ L = Ls)) T (mkF m 18 #[.val (.int (Int32.ofNat (u / 2 ^ q))), .val (.int (Int32.ofNat (31 - q)))] []) := by
      intro q hq h1 h2
      have hb := n_le u q u2
      refine s_iloadN (pc' := 19) w d26_18 rfl rfl ?_
      refine s_ldcw (pc' := 22) w (t178 hw) d26_19 rfl ?_
      change Go p e below _ T (mkF m 22 #[vI (Int32.ofNat (u / 2 ^ q)), vI (Int32.ofNat (31 - q))] [(.int (Int32.ofNat 65536)), (.int (Int32.ofNat (u / 2 ^ q)))])
      by_cases g : u / 2 ^ q < 65536
      · refine s_icmpY (pc' := 33) w d26_22 (Jvm.Free.XT.ii_lt_t ((n_lt hb (by decide)).mpr g)) (by decide) (by decide) ?_
        exact K33 q (by omega) h1 (by omega)
      · refine s_icmpN (pc' := 25) w d26_22 (Jvm.Free.XT.ii_lt_f (fun z => g ((n_lt hb (by decide)).mp z))) rfl ?_
        refine s_iinc (pc' := 28) (ls' := #[vI (Int32.ofNat (u / 2 ^ q)), vI ((Int32.ofNat (31 - q)) + (-16 : Int32))]) (-16 : Int32) w d26_25 (by decide) rfl rfl rfl ?_
        rw [n_down (s := 16) (by decide) (by omega)]
        refine s_iloadN (pc' := 29) w d26_28 rfl rfl ?_
        refine s_bipush (pc' := 31) (16 : Int32) w d26_29 (by decide) rfl ?_
        refine s_iushr (pc' := 32) w d26_31 rfl ?_
        rw [n_us16 hb, n_div]
        refine s_istoreN (pc' := 33) (ls' := #[vI (Int32.ofNat (u / 2 ^ (q + 16))), vI (Int32.ofNat (31 - (q + 16)))]) w d26_32 rfl rfl ?_
        have hdv := n_div u q 16
        exact K33 (q + 16) (by omega) (by rw [← hdv]; omega) (by rw [← hdv]; omega)
    have e0 : Int32.ofNat (u / 2 ^ 0) = x1 := by rw [Nat.pow_zero, Nat.div_one, hx1]
    have G := K18 0 (by omega) (by simpa using u1) (by simpa using u2)
    rw [e0] at G
    exact G
  · refine s_ifN (pc' := 4) w d26_1 (Jvm.Free.XT.i0_gt_f h) rfl ?_
    refine s_iloadN (pc' := 5) w d26_4 rfl rfl ?_
    by_cases h0 : x1 = 0
    · refine s_ifN (pc' := 8) w d26_5 (Jvm.Free.XT.i0_ne_f h0) rfl ?_
      refine s_bipush (pc' := 10) (32 : Int32) w d26_8 (by decide) rfl ?_
      refine s_goto (pc' := 14) w d26_10 (by decide) (by decide) ?_
      exact s_ireturn w d26_14 (by decide) (by decide) ⟨32, rfl, Nat.le_refl _, by subst h0; decide, rfl⟩
    · refine s_ifY (pc' := 13) w d26_5 (Jvm.Free.XT.i0_ne_t h0) (by decide) (by decide) ?_
      refine s_iconst (pc' := 14) (0 : Int32) w d26_13 (by decide) rfl ?_
      exact s_ireturn w d26_14 (by decide) (by decide) ⟨0, rfl, Nat.zero_le _, x1.toBitVec.isLt, rfl⟩
set_option maxRecDepth 65536 in
set_option maxHeartbeats 40000000 in
theorem c_nlz64 {Z : State} {a0 : Array Value} (hw : Tw Z a0) (l : Launch) (h0 : Heap) (n0 : Nat) (x1 : Int64) (Ls : List Ob) (hx1 : x1.toBitVec.toNat < 2 ^ 32) :
    Met1 l Z (⟨"java/lang/Long", "numberOfLeadingZeros", "(J)I"⟩ : MethodName) jdk_35_method_48_code 3 (some .int) ({ frames := 1, cells := 0, slots := 0, locals := 14 } : Room) #[(.long x1)] h0 n0 Ls (fun v L => ∃ b : Nat, v = some (.int (Int32.ofNat (64 - b))) ∧ b ≤ 32 ∧ x1.toBitVec.toNat < 2 ^ b ∧ L = Ls) [] := by
  refine Met1.of (ls := #[vJ x1, sc, un]) (plainFor_of_name pn7) (fun m => by first | (simp [entryFrame, mkF, argsToLocals, Value.category]; done) | rfl) ?_
  intro p e s m below meth c T w
  refine s_lloadN (pc' := 1) w d25_0 rfl rfl ?_
  refine s_bipush (pc' := 3) (32 : Int32) w d25_1 (by decide) rfl ?_
  refine s_lushr (pc' := 4) w d25_3 rfl ?_
  refine s_l2i (pc' := 5) w d25_4 rfl ?_
  rw [l_hi0 hx1]
  refine s_istoreN (pc' := 6) (ls' := #[vJ x1, sc, vI (0 : Int32)]) w d25_5 rfl rfl ?_
  refine s_iloadN (pc' := 7) w d25_6 rfl rfl ?_
  refine s_ifN (pc' := 10) w d25_7 (Jvm.Free.XT.i0_ne_f rfl) rfl ?_
  refine s_bipush (pc' := 12) (32 : Int32) w d25_10 (by decide) rfl ?_
  refine s_lloadN (pc' := 13) w d25_12 rfl rfl ?_
  refine s_l2i (pc' := 14) w d25_13 rfl ?_
  refine s_static (pc' := 17) (rest := [(.int (32 : Int32))]) 1 [(.int x1.toInt32)] w (c_nlz32 hw l h0 n0 x1.toInt32 Ls) (t174 hw) (t175 hw) (t176 hw) (t177 hw) (by decide) pd7 d25_14 (by decide) rfl rfl rfl rfl (Nat.le_of_eq rfl) rfl ?_
  intro T v L' hQ w
  obtain ⟨n, rfl, e1, e2, hL⟩ := hQ
  replace hL := hL.symm
  subst hL
  dsimp only [oS, oN, cA, nA]
  refine s_iadd (pc' := 18) w d25_17 rfl ?_
  rw [show (32 : Int32) + Int32.ofNat n = Int32.ofNat (32 + n) from (Int32.ofNat_add 32 n).symm]
  refine s_goto (pc' := 25) w d25_18 (by decide) (by decide) ?_
  exact s_ireturn w d25_25 (by decide) (by decide) ⟨32 - n, by rw [show 64 - (32 - n) = 32 + n by omega], by omega, by rw [l_lo hx1] at e2; exact e2, rfl⟩
set_option maxRecDepth 65536 in
set_option maxHeartbeats 40000000 in
theorem c_rec {Z : State} {a0 : Array Value} (hw : Tw Z a0) (l : Launch) (h0 : Heap) (n0 : Nat) (a : Addr) (Ls : List Ob) :
    Met1 l Z (⟨"java/lang/Record", "<init>", "()V"⟩ : MethodName) jdk_30_method_1_code 1 none ({ frames := 1, cells := 0, slots := 0, locals := 12 } : Room) #[(.ref a)] h0 n0 Ls (fun v L => v = none ∧ L = Ls) [] := by
  refine Met1.of (ls := #[vR a]) (plainFor_of_name pn8) (fun m => by first | (simp [entryFrame, mkF, argsToLocals, Value.category]; done) | rfl) ?_
  intro p e s m below meth c T w
  refine s_aloadN (pc' := 1) w d8_0 rfl rfl rfl ?_
  refine s_initO (pc' := 4) 0 w (t49 hw) (t28 hw) (t29 hw) d8_1 rfl (by decide) (Nat.le_of_eq rfl) (by decide) rfl ?_
  intro T w
  exact s_return w d8_4 (by decide) (by decide) ⟨rfl, rfl⟩
set_option maxRecDepth 65536 in
set_option maxHeartbeats 40000000 in
theorem c_var {Z : State} {a0 : Array Value} (hw : Tw Z a0) (l : Launch) (h0 : Heap) (n0 : Nat) (k : Nat) (na ty : Value) (lo hi ini : Int32) (Ls : List Ob) (hk : Ls[k]? = some (o1 .null .null (.int 0) (.int 0) (.int 0) .null)) (hna : na.isRef = true) (hty : ty.isRef = true) :
    Met1 l Z (⟨"com/example/ryazan/ryazan/model/Model$Variable", "<init>", "(Ljava/lang/String;Lcom/example/ryazan/ryazan/lang/Type;IIILcom/example/ryazan/ryazan/lang/SourcePosition;)V"⟩ : MethodName) prog_172_method_1_code 7 none ({ frames := 2, cells := 0, slots := 0, locals := 24 } : Room) #[(.ref (n0 + k)), na, ty, (.int lo), (.int hi), (.int ini), .null] h0 n0 Ls (fun v L => v = none ∧ L = Ls.set k (o1 na ty (.int lo) (.int hi) (.int ini) .null)) [] := by
  refine Met1.of (ls := #[vR (n0 + k), .val na, .val ty, vI lo, vI hi, vI ini, .val .null]) (plainFor_of_name pn9) (fun m => by rcases ref_cases hna with rfl | ⟨_, rfl⟩ <;> rcases ref_cases hty with rfl | ⟨_, rfl⟩ <;> rfl) ?_
  intro p e s m below meth c T w
  refine s_aloadN (pc' := 1) w d7_0 rfl rfl rfl ?_
  refine s_special (pc' := 4) (rest := []) 0 [] w (c_rec hw l h0 n0 (n0 + k) Ls) rfl (t44 hw) (t45 hw) (t47 hw) (t48 hw) (by decide) pd0 d7_1 (by decide) rfl rfl rfl rfl (Nat.le_of_eq rfl) rfl ?_
  intro T v L' hQ w
  obtain ⟨rfl, hL⟩ := hQ
  replace hL := hL.symm
  subst hL
  dsimp only [oS, oN, cA, nA]
  refine s_aloadN (pc' := 5) w d7_4 rfl rfl rfl ?_
  refine s_aloadN (pc' := 6) w d7_5 rfl hna rfl ?_
  refine s_put (pc' := 9) (host := "") (k := k) w (Or.inl (t50 hw)) Via.refl (cls1 hw) hk (j := 0) rfl (leB rfl) (Or.inr ⟨(t51 hw), rfl, rfl⟩) (ty := (.object "java/lang/String")) (by decide +kernel) (nar_ref hna) (fit_ref hna) d7_6 rfl ?_
  intro T w
  replace w : St p l e _ s m _ below meth c Z _ _ _ _ h0 n0 T (Ls.set k (o1 na .null (.int 0) (.int 0) (.int 0) .null)) 0 0 := w
  refine s_aloadN (pc' := 10) w d7_9 rfl rfl rfl ?_
  refine s_aloadN (pc' := 11) w d7_10 rfl hty rfl ?_
  refine s_put (pc' := 14) (host := "") (k := k) w (Or.inl (t52 hw)) Via.refl (cls1 hw) (lk_set hk) (j := 1) rfl (leB rfl) (Or.inr ⟨(t53 hw), rfl, rfl⟩) (ty := (.object "com/example/ryazan/ryazan/lang/Type")) (by decide +kernel) (nar_ref hty) (fit_ref hty) d7_11 rfl ?_
  intro T w
  rw [List.set_set] at w
  replace w : St p l e _ s m _ below meth c Z _ _ _ _ h0 n0 T (Ls.set k (o1 na ty (.int 0) (.int 0) (.int 0) .null)) 0 0 := w
  refine s_aloadN (pc' := 15) w d7_14 rfl rfl rfl ?_
  refine s_iloadN (pc' := 16) w d7_15 rfl rfl ?_
  refine s_put (pc' := 19) (host := "") (k := k) w (Or.inl (t54 hw)) Via.refl (cls1 hw) (lk_set hk) (j := 2) rfl (leB rfl) (Or.inr ⟨(t55 hw), rfl, rfl⟩) (ty := .int) (by decide +kernel) rfl rfl d7_16 rfl ?_
  intro T w
  rw [List.set_set] at w
  replace w : St p l e _ s m _ below meth c Z _ _ _ _ h0 n0 T (Ls.set k (o1 na ty (.int lo) (.int 0) (.int 0) .null)) 0 0 := w
  refine s_aloadN (pc' := 20) w d7_19 rfl rfl rfl ?_
  refine s_iload (pc' := 22) w d7_20 rfl rfl ?_
  refine s_put (pc' := 25) (host := "") (k := k) w (Or.inl (t56 hw)) Via.refl (cls1 hw) (lk_set hk) (j := 3) rfl (leB rfl) (Or.inr ⟨(t57 hw), rfl, rfl⟩) (ty := .int) (by decide +kernel) rfl rfl d7_22 rfl ?_
  intro T w
  rw [List.set_set] at w
  replace w : St p l e _ s m _ below meth c Z _ _ _ _ h0 n0 T (Ls.set k (o1 na ty (.int lo) (.int hi) (.int 0) .null)) 0 0 := w
  refine s_aloadN (pc' := 26) w d7_25 rfl rfl rfl ?_
  refine s_iload (pc' := 28) w d7_26 rfl rfl ?_
  refine s_put (pc' := 31) (host := "") (k := k) w (Or.inl (t58 hw)) Via.refl (cls1 hw) (lk_set hk) (j := 4) rfl (leB rfl) (Or.inr ⟨(t59 hw), rfl, rfl⟩) (ty := .int) (by decide +kernel) rfl rfl d7_28 rfl ?_
  intro T w
  rw [List.set_set] at w
  replace w : St p l e _ s m _ below meth c Z _ _ _ _ h0 n0 T (Ls.set k (o1 na ty (.int lo) (.int hi) (.int ini) .null)) 0 0 := w
  refine s_aloadN (pc' := 32) w d7_31 rfl rfl rfl ?_
  refine s_aload (pc' := 34) w d7_32 rfl rfl rfl ?_
  refine s_put (pc' := 37) (host := "") (k := k) w (Or.inl (t60 hw)) Via.refl (cls1 hw) (lk_set hk) (j := 5) rfl (leB rfl) (Or.inr ⟨(t61 hw), rfl, rfl⟩) (ty := (.object "com/example/ryazan/ryazan/lang/SourcePosition")) (by decide +kernel) rfl rfl d7_34 rfl ?_
  intro T w
  rw [List.set_set] at w
  replace w : St p l e _ s m _ below meth c Z _ _ _ _ h0 n0 T (Ls.set k (o1 na ty (.int lo) (.int hi) (.int ini) .null)) 0 0 := w
  exact s_return w d7_37 (by decide) (by decide) ⟨rfl, rfl⟩
set_option maxRecDepth 65536 in
set_option maxHeartbeats 40000000 in
theorem c_high {Z : State} {a0 : Array Value} (hw : Tw Z a0) (l : Launch) (h0 : Heap) (n0 : Nat) (a : Addr) (v1 v2 v3 v5 v6 : Value) (z : Int32) (Ls : List Ob) (q : Lk Z h0 n0 Ls a (o1 v1 v2 v3 (.int z) v5 v6)) :
    Met1 l Z (⟨"com/example/ryazan/ryazan/model/Model$Variable", "high", "()I"⟩ : MethodName) prog_172_method_10_code 1 (some .int) ({ frames := 0, cells := 0, slots := 0, locals := 0 } : Room) #[(.ref a)] h0 n0 Ls (fun v L => v = some (.int z) ∧ L = Ls) [] := by
  refine Met1.of (ls := #[vR a]) (plainFor_of_name pn9) (fun m => by first | (simp [entryFrame, mkF, argsToLocals, Value.category]; done) | rfl) ?_
  intro p e s m below meth c T w
  refine s_aloadN (pc' := 1) w d23_0 rfl rfl rfl ?_
  refine s_getL (pc' := 4) (host := "") w (Or.inl (t56 hw)) Via.refl q (j := 3) rfl rfl d23_1 rfl ?_
  intro T w
  exact s_ireturn w d23_4 (by decide) (by decide) ⟨rfl, rfl⟩
set_option maxRecDepth 65536 in
set_option maxHeartbeats 40000000 in
theorem c_low {Z : State} {a0 : Array Value} (hw : Tw Z a0) (l : Launch) (h0 : Heap) (n0 : Nat) (a : Addr) (v1 v2 v4 v5 v6 : Value) (z : Int32) (Ls : List Ob) (q : Lk Z h0 n0 Ls a (o1 v1 v2 (.int z) v4 v5 v6)) :
    Met1 l Z (⟨"com/example/ryazan/ryazan/model/Model$Variable", "low", "()I"⟩ : MethodName) prog_172_method_9_code 1 (some .int) ({ frames := 0, cells := 0, slots := 0, locals := 0 } : Room) #[(.ref a)] h0 n0 Ls (fun v L => v = some (.int z) ∧ L = Ls) [] := by
  refine Met1.of (ls := #[vR a]) (plainFor_of_name pn9) (fun m => by first | (simp [entryFrame, mkF, argsToLocals, Value.category]; done) | rfl) ?_
  intro p e s m below meth c T w
  refine s_aloadN (pc' := 1) w d24_0 rfl rfl rfl ?_
  refine s_getL (pc' := 4) (host := "") w (Or.inl (t54 hw)) Via.refl q (j := 2) rfl rfl d24_1 rfl ?_
  intro T w
  exact s_ireturn w d24_4 (by decide) (by decide) ⟨rfl, rfl⟩
set_option maxRecDepth 65536 in
set_option maxHeartbeats 40000000 in
theorem c_empty {Z : State} {a0 : Array Value} (hw : Tw Z a0) (l : Launch) (h0 : Heap) (n0 : Nat) (Ls : List Ob) :
    Met1 l Z (⟨"com/example/ryazan/ryazan/statespace/StateStore", "emptyTable", "(I)[I"⟩ : MethodName) prog_197_method_24_code 2 (some (.array .int)) ({ frames := 1, cells := 1, slots := 1024, locals := 15 } : Room) #[(.int (10 : Int32))] h0 n0 Ls (fun v L => v = some (.ref (n0 + Ls.length)) ∧ L = Ls ++ [aI (List.replicate 1024 (.int (-1)))]) [] := by
  refine Met1.of (ls := #[vI (10 : Int32), un]) (plainFor_of_name pn10) (fun m => by first | (simp [entryFrame, mkF, argsToLocals, Value.category]; done) | rfl) ?_
  intro p e s m below meth c T w
  refine s_lconst (pc' := 1) (1 : Int64) w d15_0 (by decide) rfl ?_
  refine s_iloadN (pc' := 2) w d15_1 rfl rfl ?_
  refine s_lshl (pc' := 3) w d15_2 rfl ?_
  refine s_static (pc' := 6) (rest := []) 0 [(.long ((1 : Int64) <<< ((10 : Int32).toInt64 &&& 63)))] w (c_tie hw l h0 n0 ((1 : Int64) <<< ((10 : Int32).toInt64 &&& 63)) Ls (by decide)) (t108 hw) (t109 hw) (t88 hw) (t110 hw) (by decide) pd8 d15_3 (by decide) rfl rfl rfl rfl (Nat.le_of_eq rfl) rfl ?_
  intro T v L' hQ w
  obtain ⟨rfl, hL⟩ := hQ
  replace hL := hL.symm
  subst hL
  dsimp only [oS, oN, cA, nA]
  rw [show ((1 : Int64) <<< ((10 : Int32).toInt64 &&& 63)).toInt32 = 1024 by decide]
  refine s_newarray (pc' := 8) (ty := .int) w (t111 hw) rfl (by intro C h; cases h) d15_6 (by decide) 1024 (by decide) (by decide) (by decide) (by decide) (Ls.length) rfl rfl ?_
  intro T w
  replace w : St p l e _ s m _ below meth c Z _ _ _ _ h0 n0 T (Ls ++ [aI (List.replicate 1024 (.int 0))]) 1 1024 := w
  refine s_astoreN (pc' := 9) (ls' := #[vI (10 : Int32), vR (n0 + Ls.length)]) w d15_8 rfl rfl rfl ?_
  refine s_aloadN (pc' := 10) w d15_9 rfl rfl rfl ?_
  refine s_iconst (pc' := 11) (-1 : Int32) w d15_10 (by decide) rfl ?_
  refine s_static (pc' := 14) (rest := []) 0 [(.ref (n0 + Ls.length)), (.int (-1 : Int32))] w (c_fillI hw l h0 n0 Ls.length (-1) (List.replicate 1024 (.int 0)) 1024 (Ls ++ [aI (List.replicate 1024 (.int 0))]) lk_last (by rw [List.length_replicate]; decide) (by rw [List.length_replicate]; decide)) (t112 hw) (t113 hw) (t114 hw) (t115 hw) (by decide) pd9 d15_11 (by decide) rfl rfl rfl rfl (Nat.le_of_eq rfl) rfl ?_
  intro T v L' hQ w
  obtain ⟨rfl, hL⟩ := hQ
  replace hL := hL.symm
  subst hL
  dsimp only [oS, oN, cA, nA]
  refine s_aloadN (pc' := 15) w d15_14 rfl rfl rfl ?_
  exact s_areturn w d15_15 rfl rfl (by decide) (by decide) ⟨rfl, by rw [set_last, List.length_replicate]⟩
set_option maxRecDepth 65536 in
set_option maxHeartbeats 40000000 in
theorem c_store {Z : State} {a0 : Array Value} (hw : Tw Z a0) (l : Launch) (h0 : Heap) (n0 : Nat) (Pre : List Ob) (N kA kE : Nat) (mc : Value) (es : List Value) (v0 : Nat) (l0 u0 : Int32) (na0 ty0 ini0 pos0 : Value) (v1 : Nat) (l1 u1 : Int32) (na1 ty1 ini1 pos1 : Value) (v2 : Nat) (l2 u2 : Int32) (na2 ty2 ini2 pos2 : Value) (hN : Pre.length = N) (pA : Pre[kA]? = some (o0 mc (.ref (n0 + kE)) (.int 3))) (pE : Pre[kE]? = some (aO (es))) (he0 : es[0]? = some (.ref (n0 + v0))) (pV0 : Pre[v0]? = some (o1 na0 ty0 (.int l0) (.int u0) ini0 pos0)) (hs0 : (u0.toInt64 - l0.toInt64).toBitVec.toNat < 2 ^ 32) (he1 : es[1]? = some (.ref (n0 + v1))) (pV1 : Pre[v1]? = some (o1 na1 ty1 (.int l1) (.int u1) ini1 pos1)) (hs1 : (u1.toInt64 - l1.toInt64).toBitVec.toNat < 2 ^ 32) (he2 : es[2]? = some (.ref (n0 + v2))) (pV2 : Pre[v2]? = some (o1 na2 ty2 (.int l2) (.int u2) ini2 pos2)) (hs2 : (u2.toInt64 - l2.toInt64).toBitVec.toNat < 2 ^ 32) :
    Met1 l Z (⟨"com/example/ryazan/ryazan/statespace/StateStore", "<init>", "(Ljava/util/List;)V"⟩ : MethodName) prog_197_method_1_code 10 none ({ frames := 3, cells := 8, slots := 1038, locals := 40 } : Room) #[(.ref (n0 + (N + 0))), (.ref (n0 + kA))] h0 n0 (Pre ++ [o2 .null (.int 0) .null .null .null .null .null .null (.int 0) .null (.int 0)]) (fun v L => v = none ∧ ∃ b0 b1 b2 : Nat, (b0 ≤ 32 ∧ b1 ≤ 32 ∧ b2 ≤ 32 ∧ (u0.toInt64 - l0.toInt64).toBitVec.toNat < 2 ^ b0 ∧ (u1.toInt64 - l1.toInt64).toBitVec.toNat < 2 ^ b1 ∧ (u2.toInt64 - l2.toInt64).toBitVec.toNat < 2 ^ b2) ∧ ((b0 + b1 + b2 ≤ 64 ∧ L = Pre ++ [o2 (.ref (n0 + (N + 1))) (.int 10) (.ref (n0 + (N + 2))) (.ref (n0 + (N + 3))) (.ref (n0 + (N + 4))) (.ref (n0 + (N + 5))) (.ref (n0 + (N + 6))) (.ref (n0 + (N + 7))) (.int 1) (.ref (n0 + (N + 8))) (.int 0), aJ ([]), aI (List.replicate 1024 (.int (-1))), aI ([]), aI ([.int l0, .int l1, .int l2]), aI ([.int 0, .int 0, .int 0]), aI ([.int (Int32.ofNat (0)), .int (Int32.ofNat (b0)), .int (Int32.ofNat (b0 + b1))]), aJ ([.long (mkM (b0)), .long (mkM (b1)), .long (mkM (b2))]), aJ ([.long 0])]) ∨ (64 < b0 + b1 + b2 ∧ L = Pre ++ [o2 (.ref (n0 + (N + 1))) (.int 10) (.ref (n0 + (N + 2))) (.ref (n0 + (N + 3))) (.ref (n0 + (N + 4))) (.ref (n0 + (N + 5))) (.ref (n0 + (N + 6))) (.ref (n0 + (N + 7))) (.int 2) (.ref (n0 + (N + 8))) (.int 0), aJ ([]), aI (List.replicate 1024 (.int (-1))), aI ([]), aI ([.int l0, .int l1, .int l2]), aI ([.int 0, .int 0, .int 1]), aI ([.int (Int32.ofNat (0)), .int (Int32.ofNat (b0)), .int (Int32.ofNat (0))]), aJ ([.long (mkM (b0)), .long (mkM (b1)), .long (mkM (b2))]), aJ ([.long 0, .long 0])]))) [] := by
  refine Met1.of (ls := #[vR (n0 + (N + 0)), vR (n0 + kA), un, un, un, un, un, un, un, un]) (plainFor_of_name pn10) (fun m => by first | (simp [entryFrame, mkF, argsToLocals, Value.category]; done) | rfl) ?_
  intro p e s m below meth c T w
  refine s_aloadN (pc' := 1) w d14_0 rfl rfl rfl ?_
  refine s_initO (pc' := 4) 0 w (t99 hw) (t28 hw) (t29 hw) d14_1 rfl (by decide) (Nat.le_of_eq rfl) (by decide) rfl ?_
  intro T w
  refine s_aloadN (pc' := 5) w d14_4 rfl rfl rfl ?_
  refine s_iconst (pc' := 6) (0 : Int32) w d14_5 (by decide) rfl ?_
  refine s_newarray (pc' := 8) (ty := .long) w (t100 hw) rfl (by intro C h; cases h) d14_6 (by decide) 0 (by decide) (by decide) (by decide) (by decide) (N + 1) (by rw [List.length_append, hN]; rfl) rfl ?_
  intro T w
  rw [List.append_assoc] at w
  replace w : St p l e _ s m _ below meth c Z _ _ _ _ h0 n0 T (Pre ++ [o2 .null (.int 0) .null .null .null .null .null .null (.int 0) .null (.int 0), aJ ([])]) 1 0 := w
  refine s_put (pc' := 11) (host := "") (k := (N + 0)) w (Or.inl (t101 hw)) Via.refl (cls2 hw) (lk_suf hN rfl) (j := 0) rfl (leB rfl) (Or.inl (t102 hw)) (ty := (.array .long)) (by decide +kernel) rfl rfl d14_8 rfl ?_
  intro T w
  rw [set_suf hN] at w
  replace w : St p l e _ s m _ below meth c Z _ _ _ _ h0 n0 T (Pre ++ [o2 (.ref (n0 + (N + 1))) (.int 0) .null .null .null .null .null .null (.int 0) .null (.int 0), aJ ([])]) 1 0 := w
  refine s_aloadN (pc' := 12) w d14_11 rfl rfl rfl ?_
  refine s_bipush (pc' := 14) (10 : Int32) w d14_12 (by decide) rfl ?_
  refine s_put (pc' := 17) (host := "") (k := (N + 0)) w (Or.inl (t103 hw)) Via.refl (cls2 hw) (lk_suf hN rfl) (j := 1) rfl (leB rfl) (Or.inl (t104 hw)) (ty := .int) (by decide +kernel) rfl rfl d14_14 rfl ?_
  intro T w
  rw [set_suf hN] at w
  replace w : St p l e _ s m _ below meth c Z _ _ _ _ h0 n0 T (Pre ++ [o2 (.ref (n0 + (N + 1))) (.int 10) .null .null .null .null .null .null (.int 0) .null (.int 0), aJ ([])]) 1 0 := w
  refine s_aloadN (pc' := 18) w d14_17 rfl rfl rfl ?_
  refine s_aloadN (pc' := 19) w d14_18 rfl rfl rfl ?_
  refine s_getL (pc' := 22) (host := "") w (Or.inl (t103 hw)) Via.refl (Lk.new (lk_suf hN rfl)) (j := 1) rfl rfl d14_19 rfl ?_
  intro T w
  refine s_static (pc' := 25) (rest := [(.ref (n0 + (N + 0)))]) 1 [(.int (10 : Int32))] w (c_empty hw l h0 n0 (Pre ++ [o2 (.ref (n0 + (N + 1))) (.int 10) .null .null .null .null .null .null (.int 0) .null (.int 0), aJ ([])])) (t105 hw) (t106 hw) (t95 hw) (t107 hw) (by decide) pd10 d14_22 (by decide) rfl rfl rfl rfl (Nat.le_of_eq rfl) rfl ?_
  intro T v L' hQ w
  obtain ⟨rfl, hM⟩ := hQ
  rw [hM, List.append_assoc] at w
  clear hM
  rw [show (Pre ++ [o2 (.ref (n0 + (N + 1))) (.int 10) .null .null .null .null .null .null (.int 0) .null (.int 0), aJ ([])]).length = N + 2 by rw [List.length_append, hN]; rfl]
  dsimp only [oS, oN, cA, nA]
  replace w : St p l e _ s m _ below meth c Z _ _ _ _ h0 n0 T (Pre ++ [o2 (.ref (n0 + (N + 1))) (.int 10) .null .null .null .null .null .null (.int 0) .null (.int 0), aJ ([]), aI (List.replicate 1024 (.int (-1)))]) 2 1024 := w
  refine s_put (pc' := 28) (host := "") (k := (N + 0)) w (Or.inl (t116 hw)) Via.refl (cls2 hw) (lk_suf hN rfl) (j := 2) rfl (leB rfl) (Or.inl (t117 hw)) (ty := (.array .int)) (by decide +kernel) rfl rfl d14_25 rfl ?_
  intro T w
  rw [set_suf hN] at w
  replace w : St p l e _ s m _ below meth c Z _ _ _ _ h0 n0 T (Pre ++ [o2 (.ref (n0 + (N + 1))) (.int 10) (.ref (n0 + (N + 2))) .null .null .null .null .null (.int 0) .null (.int 0), aJ ([]), aI (List.replicate 1024 (.int (-1)))]) 2 1024 := w
  refine s_aloadN (pc' := 29) w d14_28 rfl rfl rfl ?_
  refine s_iconst (pc' := 30) (0 : Int32) w d14_29 (by decide) rfl ?_
  refine s_newarray (pc' := 32) (ty := .int) w (t111 hw) rfl (by intro C h; cases h) d14_30 (by decide) 0 (by decide) (by decide) (by decide) (by decide) (N + 3) (by rw [List.length_append, hN]; rfl) rfl ?_
  intro T w
  rw [List.append_assoc] at w
  replace w : St p l e _ s m _ below meth c Z _ _ _ _ h0 n0 T (Pre ++ [o2 (.ref (n0 + (N + 1))) (.int 10) (.ref (n0 + (N + 2))) .null .null .null .null .null (.int 0) .null (.int 0), aJ ([]), aI (List.replicate 1024 (.int (-1))), aI ([])]) 3 1024 := w
  refine s_put (pc' := 35) (host := "") (k := (N + 0)) w (Or.inl (t118 hw)) Via.refl (cls2 hw) (lk_suf hN rfl) (j := 3) rfl (leB rfl) (Or.inl (t119 hw)) (ty := (.array .int)) (by decide +kernel) rfl rfl d14_32 rfl ?_
  intro T w
  rw [set_suf hN] at w
  replace w : St p l e _ s m _ below meth c Z _ _ _ _ h0 n0 T (Pre ++ [o2 (.ref (n0 + (N + 1))) (.int 10) (.ref (n0 + (N + 2))) (.ref (n0 + (N + 3))) .null .null .null .null (.int 0) .null (.int 0), aJ ([]), aI (List.replicate 1024 (.int (-1))), aI ([])]) 3 1024 := w
  refine s_aloadN (pc' := 36) w d14_35 rfl rfl rfl ?_
  refine s_face (pc' := 41) (rest := []) 0 [] w (c_size hw l h0 n0 (n0 + kA) mc (.ref (n0 + kE)) 3 (Pre ++ [o2 (.ref (n0 + (N + 1))) (.int 10) (.ref (n0 + (N + 2))) (.ref (n0 + (N + 3))) .null .null .null .null (.int 0) .null (.int 0), aJ ([]), aI (List.replicate 1024 (.int (-1))), aI ([])]) (Lk.new (lk_app pA))) (Lk.new (lk_app pA)) (t120 hw) (t121 hw) (t122 hw) (t123 hw) (t124 hw) (t125 hw) (t126 hw) (t127 hw) (t11 hw) (t128 hw) (by decide) pd11 d14_36 (by decide) rfl rfl rfl rfl (Nat.le_of_eq rfl) rfl ?_
  intro T v L' hQ w
  obtain ⟨rfl, hL⟩ := hQ
  replace hL := hL.symm
  subst hL
  dsimp only [oS, oN, cA, nA]
  refine s_istoreN (pc' := 42) (ls' := #[vR (n0 + (N + 0)), vR (n0 + kA), vI (3 : Int32), un, un, un, un, un, un, un]) w d14_41 rfl rfl ?_
  refine s_aloadN (pc' := 43) w d14_42 rfl rfl rfl ?_
  refine s_iloadN (pc' := 44) w d14_43 rfl rfl ?_
  refine s_newarray (pc' := 46) (ty := .int) w (t111 hw) rfl (by intro C h; cases h) d14_44 (by decide) 3 (by decide) (by decide) (by decide) (by decide) (N + 4) (by rw [List.length_append, hN]; rfl) rfl ?_
  intro T w
  rw [List.append_assoc] at w
  replace w : St p l e _ s m _ below meth c Z _ _ _ _ h0 n0 T (Pre ++ [o2 (.ref (n0 + (N + 1))) (.int 10) (.ref (n0 + (N + 2))) (.ref (n0 + (N + 3))) .null .null .null .null (.int 0) .null (.int 0), aJ ([]), aI (List.replicate 1024 (.int (-1))), aI ([]), aI ([(.int 0), (.int 0), (.int 0)])]) 4 1027 := w
  refine s_put (pc' := 49) (host := "") (k := (N + 0)) w (Or.inl (t129 hw)) Via.refl (cls2 hw) (lk_suf hN rfl) (j := 4) rfl (leB rfl) (Or.inr ⟨(t130 hw), rfl, rfl⟩) (ty := (.array .int)) (by decide +kernel) rfl rfl d14_46 rfl ?_
  intro T w
  rw [set_suf hN] at w
  replace w : St p l e _ s m _ below meth c Z _ _ _ _ h0 n0 T (Pre ++ [o2 (.ref (n0 + (N + 1))) (.int 10) (.ref (n0 + (N + 2))) (.ref (n0 + (N + 3))) (.ref (n0 + (N + 4))) .null .null .null (.int 0) .null (.int 0), aJ ([]), aI (List.replicate 1024 (.int (-1))), aI ([]), aI ([(.int 0), (.int 0), (.int 0)])]) 4 1027 := w
  refine s_aloadN (pc' := 50) w d14_49 rfl rfl rfl ?_
  refine s_iloadN (pc' := 51) w d14_50 rfl rfl ?_
  refine s_newarray (pc' := 53) (ty := .int) w (t111 hw) rfl (by intro C h; cases h) d14_51 (by decide) 3 (by decide) (by decide) (by decide) (by decide) (N + 5) (by rw [List.length_append, hN]; rfl) rfl ?_
  intro T w
  rw [List.append_assoc] at w
  replace w : St p l e _ s m _ below meth c Z _ _ _ _ h0 n0 T (Pre ++ [o2 (.ref (n0 + (N + 1))) (.int 10) (.ref (n0 + (N + 2))) (.ref (n0 + (N + 3))) (.ref (n0 + (N + 4))) .null .null .null (.int 0) .null (.int 0), aJ ([]), aI (List.replicate 1024 (.int (-1))), aI ([]), aI ([(.int 0), (.int 0), (.int 0)]), aI ([(.int 0), (.int 0), (.int 0)])]) 5 1030 := w
  refine s_put (pc' := 56) (host := "") (k := (N + 0)) w (Or.inl (t131 hw)) Via.refl (cls2 hw) (lk_suf hN rfl) (j := 5) rfl (leB rfl) (Or.inr ⟨(t132 hw), rfl, rfl⟩) (ty := (.array .int)) (by decide +kernel) rfl rfl d14_53 rfl ?_
  intro T w
  rw [set_suf hN] at w
  replace w : St p l e _ s m _ below meth c Z _ _ _ _ h0 n0 T (Pre ++ [o2 (.ref (n0 + (N + 1))) (.int 10) (.ref (n0 + (N + 2))) (.ref (n0 + (N + 3))) (.ref (n0 + (N + 4))) (.ref (n0 + (N + 5))) .null .null (.int 0) .null (.int 0), aJ ([]), aI (List.replicate 1024 (.int (-1))), aI ([]), aI ([(.int 0), (.int 0), (.int 0)]), aI ([(.int 0), (.int 0), (.int 0)])]) 5 1030 := w
  refine s_aloadN (pc' := 57) w d14_56 rfl rfl rfl ?_
  refine s_iloadN (pc' := 58) w d14_57 rfl rfl ?_
  refine s_newarray (pc' := 60) (ty := .int) w (t111 hw) rfl (by intro C h; cases h) d14_58 (by decide) 3 (by decide) (by decide) (by decide) (by decide) (N + 6) (by rw [List.length_append, hN]; rfl) rfl ?_
  intro T w
  rw [List.append_assoc] at w
  replace w : St p l e _ s m _ below meth c Z _ _ _ _ h0 n0 T (Pre ++ [o2 (.ref (n0 + (N + 1))) (.int 10) (.ref (n0 + (N + 2))) (.ref (n0 + (N + 3))) (.ref (n0 + (N + 4))) (.ref (n0 + (N + 5))) .null .null (.int 0) .null (.int 0), aJ ([]), aI (List.replicate 1024 (.int (-1))), aI ([]), aI ([(.int 0), (.int 0), (.int 0)]), aI ([(.int 0), (.int 0), (.int 0)]), aI ([(.int 0), (.int 0), (.int 0)])]) 6 1033 := w
  refine s_put (pc' := 63) (host := "") (k := (N + 0)) w (Or.inl (t133 hw)) Via.refl (cls2 hw) (lk_suf hN rfl) (j := 6) rfl (leB rfl) (Or.inr ⟨(t134 hw), rfl, rfl⟩) (ty := (.array .int)) (by decide +kernel) rfl rfl d14_60 rfl ?_
  intro T w
  rw [set_suf hN] at w
  replace w : St p l e _ s m _ below meth c Z _ _ _ _ h0 n0 T (Pre ++ [o2 (.ref (n0 + (N + 1))) (.int 10) (.ref (n0 + (N + 2))) (.ref (n0 + (N + 3))) (.ref (n0 + (N + 4))) (.ref (n0 + (N + 5))) (.ref (n0 + (N + 6))) .null (.int 0) .null (.int 0), aJ ([]), aI (List.replicate 1024 (.int (-1))), aI ([]), aI ([(.int 0), (.int 0), (.int 0)]), aI ([(.int 0), (.int 0), (.int 0)]), aI ([(.int 0), (.int 0), (.int 0)])]) 6 1033 := w
  refine s_aloadN (pc' := 64) w d14_63 rfl rfl rfl ?_
  refine s_iloadN (pc' := 65) w d14_64 rfl rfl ?_
  refine s_newarray (pc' := 67) (ty := .long) w (t100 hw) rfl (by intro C h; cases h) d14_65 (by decide) 3 (by decide) (by decide) (by decide) (by decide) (N + 7) (by rw [List.length_append, hN]; rfl) rfl ?_
  intro T w
  rw [List.append_assoc] at w
  replace w : St p l e _ s m _ below meth c Z _ _ _ _ h0 n0 T (Pre ++ [o2 (.ref (n0 + (N + 1))) (.int 10) (.ref (n0 + (N + 2))) (.ref (n0 + (N + 3))) (.ref (n0 + (N + 4))) (.ref (n0 + (N + 5))) (.ref (n0 + (N + 6))) .null (.int 0) .null (.int 0), aJ ([]), aI (List.replicate 1024 (.int (-1))), aI ([]), aI ([(.int 0), (.int 0), (.int 0)]), aI ([(.int 0), (.int 0), (.int 0)]), aI ([(.int 0), (.int 0), (.int 0)]), aJ ([(.long 0), (.long 0), (.long 0)])]) 7 1036 := w
  refine s_put (pc' := 70) (host := "") (k := (N + 0)) w (Or.inl (t135 hw)) Via.refl (cls2 hw) (lk_suf hN rfl) (j := 7) rfl (leB rfl) (Or.inr ⟨(t136 hw), rfl, rfl⟩) (ty := (.array .long)) (by decide +kernel) rfl rfl d14_67 rfl ?_
  intro T w
  rw [set_suf hN] at w
  replace w : St p l e _ s m _ below meth c Z _ _ _ _ h0 n0 T (Pre ++ [o2 (.ref (n0 + (N + 1))) (.int 10) (.ref (n0 + (N + 2))) (.ref (n0 + (N + 3))) (.ref (n0 + (N + 4))) (.ref (n0 + (N + 5))) (.ref (n0 + (N + 6))) (.ref (n0 + (N + 7))) (.int 0) .null (.int 0), aJ ([]), aI (List.replicate 1024 (.int (-1))), aI ([]), aI ([(.int 0), (.int 0), (.int 0)]), aI ([(.int 0), (.int 0), (.int 0)]), aI ([(.int 0), (.int 0), (.int 0)]), aJ ([(.long 0), (.long 0), (.long 0)])]) 7 1036 := w
  refine s_iconst (pc' := 71) (0 : Int32) w d14_70 (by decide) rfl ?_
  refine s_istoreN (pc' := 72) (ls' := #[vR (n0 + (N + 0)), vR (n0 + kA), vI (3 : Int32), vI (0 : Int32), un, un, un, un, un, un]) w d14_71 rfl rfl ?_
  refine s_iconst (pc' := 73) (0 : Int32) w d14_72 (by decide) rfl ?_
  refine s_istore (pc' := 75) (ls' := #[vR (n0 + (N + 0)), vR (n0 + kA), vI (3 : Int32), vI (0 : Int32), vI (0 : Int32), un, un, un, un, un]) w d14_73 rfl rfl ?_
  refine s_iconst (pc' := 76) (0 : Int32) w d14_75 (by decide) rfl ?_
  refine s_istore (pc' := 78) (ls' := #[vR (n0 + (N + 0)), vR (n0 + kA), vI (3 : Int32), vI (0 : Int32), vI (0 : Int32), vI (0 : Int32), un, un, un, un]) w d14_76 rfl rfl ?_
  change Go p e below _ T (mkF m 78 #[vR (n0 + (N + 0)), vR (n0 + kA), vI (3 : Int32), vI (0 : Int32), vI (Int32.ofNat 0), vI (0 : Int32), un, un, un, un] [])
  refine s_iload (pc' := 80) w d14_78 rfl rfl ?_
  refine s_iloadN (pc' := 81) w d14_80 rfl rfl ?_
  refine s_icmpN (pc' := 84) w d14_81 (Jvm.Free.XT.ii_ge_f (by decide)) rfl ?_
  refine s_aloadN (pc' := 85) w d14_84 rfl rfl rfl ?_
  refine s_iload (pc' := 87) w d14_85 rfl rfl ?_
  refine s_face (pc' := 92) (rest := []) 0 [(.int (0 : Int32))] w (c_get hw l h0 n0 (n0 + kA) (n0 + kE) mc 3 0 es (n0 + v0) (Pre ++ [o2 (.ref (n0 + (N + 1))) (.int 10) (.ref (n0 + (N + 2))) (.ref (n0 + (N + 3))) (.ref (n0 + (N + 4))) (.ref (n0 + (N + 5))) (.ref (n0 + (N + 6))) (.ref (n0 + (N + 7))) (.int 0) .null (.int 0), aJ ([]), aI (List.replicate 1024 (.int (-1))), aI ([]), aI ([(.int 0), (.int 0), (.int 0)]), aI ([(.int 0), (.int 0), (.int 0)]), aI ([(.int 0), (.int 0), (.int 0)]), aJ ([(.long 0), (.long 0), (.long 0)])]) (Lk.new (lk_app pA)) (Lk.new (lk_app pE)) (by decide) he0 (by decide)) (Lk.new (lk_app pA)) (t137 hw) (t138 hw) (t139 hw) (t140 hw) (t141 hw) (t142 hw) (t143 hw) (t127 hw) (t11 hw) (t144 hw) (by decide) pd6 d14_87 (by decide) rfl rfl rfl rfl (Nat.le_of_eq rfl) rfl ?_
  intro T v L' hQ w
  obtain ⟨rfl, hL⟩ := hQ
  replace hL := hL.symm
  subst hL
  dsimp only [oS, oN, cA, nA]
  refine s_checkcast (pc' := 95) w (t158 hw) (Lk.new (lk_app pV0)) (Or.inl rfl) d14_92 rfl ?_
  intro T w
  refine s_astore (pc' := 97) (ls' := #[vR (n0 + (N + 0)), vR (n0 + kA), vI (3 : Int32), vI (0 : Int32), vI (Int32.ofNat 0), vI (0 : Int32), vR (n0 + v0), un, un, un]) w d14_95 rfl rfl rfl ?_
  refine s_aload (pc' := 99) w d14_97 rfl rfl rfl ?_
  refine s_virtual (pc' := 102) (rest := []) 0 [] w (c_high hw l h0 n0 (n0 + v0) na0 ty0 (.int l0) ini0 pos0 u0 (Pre ++ [o2 (.ref (n0 + (N + 1))) (.int 10) (.ref (n0 + (N + 2))) (.ref (n0 + (N + 3))) (.ref (n0 + (N + 4))) (.ref (n0 + (N + 5))) (.ref (n0 + (N + 6))) (.ref (n0 + (N + 7))) (.int 0) .null (.int 0), aJ ([]), aI (List.replicate 1024 (.int (-1))), aI ([]), aI ([(.int 0), (.int 0), (.int 0)]), aI ([(.int 0), (.int 0), (.int 0)]), aI ([(.int 0), (.int 0), (.int 0)]), aJ ([(.long 0), (.long 0), (.long 0)])]) (Lk.new (lk_app pV0))) (Lk.new (lk_app pV0)) (t160 hw) (t161 hw) (w.notFace (t163 hw)) (t163 hw) (t162 hw) (t37 hw) (t164 hw) (by decide) pd11 d14_99 (by decide) rfl rfl rfl rfl (Nat.le_of_eq rfl) rfl ?_
  intro T v L' hQ w
  obtain ⟨rfl, hL⟩ := hQ
  replace hL := hL.symm
  subst hL
  dsimp only [oS, oN, cA, nA]
  refine s_i2l (pc' := 103) w d14_102 rfl ?_
  refine s_aload (pc' := 105) w d14_103 rfl rfl rfl ?_
  refine s_virtual (pc' := 108) (rest := [(.long u0.toInt64)]) 2 [] w (c_low hw l h0 n0 (n0 + v0) na0 ty0 (.int u0) ini0 pos0 l0 (Pre ++ [o2 (.ref (n0 + (N + 1))) (.int 10) (.ref (n0 + (N + 2))) (.ref (n0 + (N + 3))) (.ref (n0 + (N + 4))) (.ref (n0 + (N + 5))) (.ref (n0 + (N + 6))) (.ref (n0 + (N + 7))) (.int 0) .null (.int 0), aJ ([]), aI (List.replicate 1024 (.int (-1))), aI ([]), aI ([(.int 0), (.int 0), (.int 0)]), aI ([(.int 0), (.int 0), (.int 0)]), aI ([(.int 0), (.int 0), (.int 0)]), aJ ([(.long 0), (.long 0), (.long 0)])]) (Lk.new (lk_app pV0))) (Lk.new (lk_app pV0)) (t165 hw) (t166 hw) (w.notFace (t168 hw)) (t168 hw) (t167 hw) (t37 hw) (t169 hw) (by decide) pd11 d14_105 (by decide) rfl rfl rfl rfl (Nat.le_of_eq rfl) rfl ?_
  intro T v L' hQ w
  obtain ⟨rfl, hL⟩ := hQ
  replace hL := hL.symm
  subst hL
  dsimp only [oS, oN, cA, nA]
  refine s_i2l (pc' := 109) w d14_108 rfl ?_
  refine s_lsub (pc' := 110) w d14_109 rfl ?_
  refine s_lstore (pc' := 112) (ls' := #[vR (n0 + (N + 0)), vR (n0 + kA), vI (3 : Int32), vI (0 : Int32), vI (Int32.ofNat 0), vI (0 : Int32), vR (n0 + v0), vJ (u0.toInt64 - l0.toInt64), sc, un]) w d14_110 rfl rfl ?_
  refine s_bipush (pc' := 114) (64 : Int32) w d14_112 (by decide) rfl ?_
  refine s_lload (pc' := 116) w d14_114 rfl rfl ?_
  refine s_static (pc' := 119) (rest := [(.int (64 : Int32))]) 1 [(.long (u0.toInt64 - l0.toInt64))] w (c_nlz64 hw l h0 n0 (u0.toInt64 - l0.toInt64) (Pre ++ [o2 (.ref (n0 + (N + 1))) (.int 10) (.ref (n0 + (N + 2))) (.ref (n0 + (N + 3))) (.ref (n0 + (N + 4))) (.ref (n0 + (N + 5))) (.ref (n0 + (N + 6))) (.ref (n0 + (N + 7))) (.int 0) .null (.int 0), aJ ([]), aI (List.replicate 1024 (.int (-1))), aI ([]), aI ([(.int 0), (.int 0), (.int 0)]), aI ([(.int 0), (.int 0), (.int 0)]), aI ([(.int 0), (.int 0), (.int 0)]), aJ ([(.long 0), (.long 0), (.long 0)])]) hs0) (t170 hw) (t171 hw) (t172 hw) (t173 hw) (by decide) pd8 d14_116 (by decide) rfl rfl rfl rfl (Nat.le_of_eq rfl) rfl ?_
  intro T v L' hQ w
  obtain ⟨b0, rfl, hb0, hx0, hL⟩ := hQ
  replace hL := hL.symm
  subst hL
  dsimp only [oS, oN, cA, nA]
  refine s_isub (pc' := 120) w d14_119 rfl ?_
  rw [b_sub hb0]
  refine s_istore (pc' := 122) (ls' := #[vR (n0 + (N + 0)), vR (n0 + kA), vI (3 : Int32), vI (0 : Int32), vI (Int32.ofNat 0), vI (0 : Int32), vR (n0 + v0), vJ (u0.toInt64 - l0.toInt64), sc, vI (Int32.ofNat b0)]) w d14_120 rfl rfl ?_
  refine s_iload (pc' := 124) w d14_122 rfl rfl ?_
  refine s_iload (pc' := 126) w d14_124 rfl rfl ?_
  refine s_iadd (pc' := 127) w d14_126 rfl ?_
  rw [b_add]
  refine s_bipush (pc' := 129) (64 : Int32) w d14_127 (by decide) rfl ?_
  refine s_icmpY (pc' := 138) w d14_129 (Jvm.Free.XT.ii_le_t (b_le (by omega) (by omega))) (by decide) (by decide) ?_
  refine s_aloadN (pc' := 139) w d14_138 rfl rfl rfl ?_
  refine s_getL (pc' := 142) (host := "") w (Or.inl (t129 hw)) Via.refl (Lk.new (lk_suf hN rfl)) (j := 4) rfl rfl d14_139 rfl ?_
  intro T w
  refine s_iload (pc' := 144) w d14_142 rfl rfl ?_
  refine s_aload (pc' := 146) w d14_144 rfl rfl rfl ?_
  refine s_virtual (pc' := 149) (rest := [(.int (0 : Int32)), (.ref (n0 + (N + 4)))]) 2 [] w (c_low hw l h0 n0 (n0 + v0) na0 ty0 (.int u0) ini0 pos0 l0 (Pre ++ [o2 (.ref (n0 + (N + 1))) (.int 10) (.ref (n0 + (N + 2))) (.ref (n0 + (N + 3))) (.ref (n0 + (N + 4))) (.ref (n0 + (N + 5))) (.ref (n0 + (N + 6))) (.ref (n0 + (N + 7))) (.int 0) .null (.int 0), aJ ([]), aI (List.replicate 1024 (.int (-1))), aI ([]), aI ([(.int 0), (.int 0), (.int 0)]), aI ([(.int 0), (.int 0), (.int 0)]), aI ([(.int 0), (.int 0), (.int 0)]), aJ ([(.long 0), (.long 0), (.long 0)])]) (Lk.new (lk_app pV0))) (Lk.new (lk_app pV0)) (t165 hw) (t166 hw) (w.notFace (t168 hw)) (t168 hw) (t167 hw) (t37 hw) (t169 hw) (by decide) pd11 d14_146 (by decide) rfl rfl rfl rfl (Nat.le_of_eq rfl) rfl ?_
  intro T v L' hQ w
  obtain ⟨rfl, hL⟩ := hQ
  replace hL := hL.symm
  subst hL
  dsimp only [oS, oN, cA, nA]
  refine s_iastore (pc' := 150) (k := (N + 4)) w (lk_suf hN rfl) d14_149 (by decide) (leB rfl) rfl ?_
  intro T w
  rw [set_suf hN] at w
  replace w : St p l e _ s m _ below meth c Z _ _ _ _ h0 n0 T (Pre ++ [o2 (.ref (n0 + (N + 1))) (.int 10) (.ref (n0 + (N + 2))) (.ref (n0 + (N + 3))) (.ref (n0 + (N + 4))) (.ref (n0 + (N + 5))) (.ref (n0 + (N + 6))) (.ref (n0 + (N + 7))) (.int 0) .null (.int 0), aJ ([]), aI (List.replicate 1024 (.int (-1))), aI ([]), aI ([.int l0, (.int 0), (.int 0)]), aI ([(.int 0), (.int 0), (.int 0)]), aI ([(.int 0), (.int 0), (.int 0)]), aJ ([(.long 0), (.long 0), (.long 0)])]) 7 1036 := w
  refine s_aloadN (pc' := 151) w d14_150 rfl rfl rfl ?_
  refine s_getL (pc' := 154) (host := "") w (Or.inl (t131 hw)) Via.refl (Lk.new (lk_suf hN rfl)) (j := 5) rfl rfl d14_151 rfl ?_
  intro T w
  refine s_iload (pc' := 156) w d14_154 rfl rfl ?_
  refine s_iloadN (pc' := 157) w d14_156 rfl rfl ?_
  refine s_iastore (pc' := 158) (k := (N + 5)) w (lk_suf hN rfl) d14_157 (by decide) (leB rfl) rfl ?_
  intro T w
  rw [set_suf hN] at w
  replace w : St p l e _ s m _ below meth c Z _ _ _ _ h0 n0 T (Pre ++ [o2 (.ref (n0 + (N + 1))) (.int 10) (.ref (n0 + (N + 2))) (.ref (n0 + (N + 3))) (.ref (n0 + (N + 4))) (.ref (n0 + (N + 5))) (.ref (n0 + (N + 6))) (.ref (n0 + (N + 7))) (.int 0) .null (.int 0), aJ ([]), aI (List.replicate 1024 (.int (-1))), aI ([]), aI ([.int l0, (.int 0), (.int 0)]), aI ([.int 0, (.int 0), (.int 0)]), aI ([(.int 0), (.int 0), (.int 0)]), aJ ([(.long 0), (.long 0), (.long 0)])]) 7 1036 := w
  refine s_aloadN (pc' := 159) w d14_158 rfl rfl rfl ?_
  refine s_getL (pc' := 162) (host := "") w (Or.inl (t133 hw)) Via.refl (Lk.new (lk_suf hN rfl)) (j := 6) rfl rfl d14_159 rfl ?_
  intro T w
  refine s_iload (pc' := 164) w d14_162 rfl rfl ?_
  refine s_iload (pc' := 166) w d14_164 rfl rfl ?_
  refine s_iastore (pc' := 167) (k := (N + 6)) w (lk_suf hN rfl) d14_166 (by decide) (leB rfl) rfl ?_
  intro T w
  rw [set_suf hN] at w
  replace w : St p l e _ s m _ below meth c Z _ _ _ _ h0 n0 T (Pre ++ [o2 (.ref (n0 + (N + 1))) (.int 10) (.ref (n0 + (N + 2))) (.ref (n0 + (N + 3))) (.ref (n0 + (N + 4))) (.ref (n0 + (N + 5))) (.ref (n0 + (N + 6))) (.ref (n0 + (N + 7))) (.int 0) .null (.int 0), aJ ([]), aI (List.replicate 1024 (.int (-1))), aI ([]), aI ([.int l0, (.int 0), (.int 0)]), aI ([.int 0, (.int 0), (.int 0)]), aI ([.int (Int32.ofNat (0)), (.int 0), (.int 0)]), aJ ([(.long 0), (.long 0), (.long 0)])]) 7 1036 := w
  refine s_aloadN (pc' := 168) w d14_167 rfl rfl rfl ?_
  refine s_getL (pc' := 171) (host := "") w (Or.inl (t135 hw)) Via.refl (Lk.new (lk_suf hN rfl)) (j := 7) rfl rfl d14_168 rfl ?_
  intro T w
  refine s_iload (pc' := 173) w d14_171 rfl rfl ?_
  refine s_lconst (pc' := 174) (1 : Int64) w d14_173 (by decide) rfl ?_
  refine s_iload (pc' := 176) w d14_174 rfl rfl ?_
  refine s_lshl (pc' := 177) w d14_176 rfl ?_
  refine s_lconst (pc' := 178) (1 : Int64) w d14_177 (by decide) rfl ?_
  refine s_lsub (pc' := 179) w d14_178 rfl ?_
  refine s_lastore (pc' := 180) (k := (N + 7)) w (lk_suf hN rfl) d14_179 (by decide) (leB rfl) rfl ?_
  intro T w
  rw [set_suf hN] at w
  replace w : St p l e _ s m _ below meth c Z _ _ _ _ h0 n0 T (Pre ++ [o2 (.ref (n0 + (N + 1))) (.int 10) (.ref (n0 + (N + 2))) (.ref (n0 + (N + 3))) (.ref (n0 + (N + 4))) (.ref (n0 + (N + 5))) (.ref (n0 + (N + 6))) (.ref (n0 + (N + 7))) (.int 0) .null (.int 0), aJ ([]), aI (List.replicate 1024 (.int (-1))), aI ([]), aI ([.int l0, (.int 0), (.int 0)]), aI ([.int 0, (.int 0), (.int 0)]), aI ([.int (Int32.ofNat (0)), (.int 0), (.int 0)]), aJ ([.long (mkM (b0)), (.long 0), (.long 0)])]) 7 1036 := w
  refine s_iload (pc' := 182) w d14_180 rfl rfl ?_
  refine s_iload (pc' := 184) w d14_182 rfl rfl ?_
  refine s_iadd (pc' := 185) w d14_184 rfl ?_
  rw [b_add]
  refine s_istore (pc' := 187) (ls' := #[vR (n0 + (N + 0)), vR (n0 + kA), vI (3 : Int32), vI (0 : Int32), vI (Int32.ofNat (0 + b0)), vI (0 : Int32), vR (n0 + v0), vJ (u0.toInt64 - l0.toInt64), sc, vI (Int32.ofNat b0)]) w d14_185 rfl rfl ?_
  refine s_iinc (pc' := 190) (ls' := #[vR (n0 + (N + 0)), vR (n0 + kA), vI (3 : Int32), vI (0 : Int32), vI (Int32.ofNat (0 + b0)), vI ((0 : Int32) + (1 : Int32)), vR (n0 + v0), vJ (u0.toInt64 - l0.toInt64), sc, vI (Int32.ofNat b0)]) (1 : Int32) w d14_187 (by decide) rfl rfl rfl ?_
  rw [show (0 : Int32) + 1 = 1 by decide]
  refine s_goto (pc' := 78) w d14_190 (by decide) (by decide) ?_
  rw [Nat.zero_add]
  change Go p e below _ T (mkF m 78 #[vR (n0 + (N + 0)), vR (n0 + kA), vI (3 : Int32), vI (0 : Int32), vI (Int32.ofNat b0), vI (1 : Int32), vR (n0 + v0), vJ (u0.toInt64 - l0.toInt64), sc, vI (Int32.ofNat b0)] [])
  refine s_iload (pc' := 80) w d14_78 rfl rfl ?_
  refine s_iloadN (pc' := 81) w d14_80 rfl rfl ?_
  refine s_icmpN (pc' := 84) w d14_81 (Jvm.Free.XT.ii_ge_f (by decide)) rfl ?_
  refine s_aloadN (pc' := 85) w d14_84 rfl rfl rfl ?_
  refine s_iload (pc' := 87) w d14_85 rfl rfl ?_
  refine s_face (pc' := 92) (rest := []) 0 [(.int (1 : Int32))] w (c_get hw l h0 n0 (n0 + kA) (n0 + kE) mc 3 1 es (n0 + v1) (Pre ++ [o2 (.ref (n0 + (N + 1))) (.int 10) (.ref (n0 + (N + 2))) (.ref (n0 + (N + 3))) (.ref (n0 + (N + 4))) (.ref (n0 + (N + 5))) (.ref (n0 + (N + 6))) (.ref (n0 + (N + 7))) (.int 0) .null (.int 0), aJ ([]), aI (List.replicate 1024 (.int (-1))), aI ([]), aI ([.int l0, (.int 0), (.int 0)]), aI ([.int 0, (.int 0), (.int 0)]), aI ([.int (Int32.ofNat (0)), (.int 0), (.int 0)]), aJ ([.long (mkM (b0)), (.long 0), (.long 0)])]) (Lk.new (lk_app pA)) (Lk.new (lk_app pE)) (by decide) he1 (by decide)) (Lk.new (lk_app pA)) (t137 hw) (t138 hw) (t139 hw) (t140 hw) (t141 hw) (t142 hw) (t143 hw) (t127 hw) (t11 hw) (t144 hw) (by decide) pd6 d14_87 (by decide) rfl rfl rfl rfl (Nat.le_of_eq rfl) rfl ?_
  intro T v L' hQ w
  obtain ⟨rfl, hL⟩ := hQ
  replace hL := hL.symm
  subst hL
  dsimp only [oS, oN, cA, nA]
  refine s_checkcast (pc' := 95) w (t158 hw) (Lk.new (lk_app pV1)) (Or.inl rfl) d14_92 rfl ?_
  intro T w
  refine s_astore (pc' := 97) (ls' := #[vR (n0 + (N + 0)), vR (n0 + kA), vI (3 : Int32), vI (0 : Int32), vI (Int32.ofNat b0), vI (1 : Int32), vR (n0 + v1), vJ (u0.toInt64 - l0.toInt64), sc, vI (Int32.ofNat b0)]) w d14_95 rfl rfl rfl ?_
  refine s_aload (pc' := 99) w d14_97 rfl rfl rfl ?_
  refine s_virtual (pc' := 102) (rest := []) 0 [] w (c_high hw l h0 n0 (n0 + v1) na1 ty1 (.int l1) ini1 pos1 u1 (Pre ++ [o2 (.ref (n0 + (N + 1))) (.int 10) (.ref (n0 + (N + 2))) (.ref (n0 + (N + 3))) (.ref (n0 + (N + 4))) (.ref (n0 + (N + 5))) (.ref (n0 + (N + 6))) (.ref (n0 + (N + 7))) (.int 0) .null (.int 0), aJ ([]), aI (List.replicate 1024 (.int (-1))), aI ([]), aI ([.int l0, (.int 0), (.int 0)]), aI ([.int 0, (.int 0), (.int 0)]), aI ([.int (Int32.ofNat (0)), (.int 0), (.int 0)]), aJ ([.long (mkM (b0)), (.long 0), (.long 0)])]) (Lk.new (lk_app pV1))) (Lk.new (lk_app pV1)) (t160 hw) (t161 hw) (w.notFace (t163 hw)) (t163 hw) (t162 hw) (t37 hw) (t164 hw) (by decide) pd11 d14_99 (by decide) rfl rfl rfl rfl (Nat.le_of_eq rfl) rfl ?_
  intro T v L' hQ w
  obtain ⟨rfl, hL⟩ := hQ
  replace hL := hL.symm
  subst hL
  dsimp only [oS, oN, cA, nA]
  refine s_i2l (pc' := 103) w d14_102 rfl ?_
  refine s_aload (pc' := 105) w d14_103 rfl rfl rfl ?_
  refine s_virtual (pc' := 108) (rest := [(.long u1.toInt64)]) 2 [] w (c_low hw l h0 n0 (n0 + v1) na1 ty1 (.int u1) ini1 pos1 l1 (Pre ++ [o2 (.ref (n0 + (N + 1))) (.int 10) (.ref (n0 + (N + 2))) (.ref (n0 + (N + 3))) (.ref (n0 + (N + 4))) (.ref (n0 + (N + 5))) (.ref (n0 + (N + 6))) (.ref (n0 + (N + 7))) (.int 0) .null (.int 0), aJ ([]), aI (List.replicate 1024 (.int (-1))), aI ([]), aI ([.int l0, (.int 0), (.int 0)]), aI ([.int 0, (.int 0), (.int 0)]), aI ([.int (Int32.ofNat (0)), (.int 0), (.int 0)]), aJ ([.long (mkM (b0)), (.long 0), (.long 0)])]) (Lk.new (lk_app pV1))) (Lk.new (lk_app pV1)) (t165 hw) (t166 hw) (w.notFace (t168 hw)) (t168 hw) (t167 hw) (t37 hw) (t169 hw) (by decide) pd11 d14_105 (by decide) rfl rfl rfl rfl (Nat.le_of_eq rfl) rfl ?_
  intro T v L' hQ w
  obtain ⟨rfl, hL⟩ := hQ
  replace hL := hL.symm
  subst hL
  dsimp only [oS, oN, cA, nA]
  refine s_i2l (pc' := 109) w d14_108 rfl ?_
  refine s_lsub (pc' := 110) w d14_109 rfl ?_
  refine s_lstore (pc' := 112) (ls' := #[vR (n0 + (N + 0)), vR (n0 + kA), vI (3 : Int32), vI (0 : Int32), vI (Int32.ofNat b0), vI (1 : Int32), vR (n0 + v1), vJ (u1.toInt64 - l1.toInt64), sc, vI (Int32.ofNat b0)]) w d14_110 rfl rfl ?_
  refine s_bipush (pc' := 114) (64 : Int32) w d14_112 (by decide) rfl ?_
  refine s_lload (pc' := 116) w d14_114 rfl rfl ?_
  refine s_static (pc' := 119) (rest := [(.int (64 : Int32))]) 1 [(.long (u1.toInt64 - l1.toInt64))] w (c_nlz64 hw l h0 n0 (u1.toInt64 - l1.toInt64) (Pre ++ [o2 (.ref (n0 + (N + 1))) (.int 10) (.ref (n0 + (N + 2))) (.ref (n0 + (N + 3))) (.ref (n0 + (N + 4))) (.ref (n0 + (N + 5))) (.ref (n0 + (N + 6))) (.ref (n0 + (N + 7))) (.int 0) .null (.int 0), aJ ([]), aI (List.replicate 1024 (.int (-1))), aI ([]), aI ([.int l0, (.int 0), (.int 0)]), aI ([.int 0, (.int 0), (.int 0)]), aI ([.int (Int32.ofNat (0)), (.int 0), (.int 0)]), aJ ([.long (mkM (b0)), (.long 0), (.long 0)])]) hs1) (t170 hw) (t171 hw) (t172 hw) (t173 hw) (by decide) pd8 d14_116 (by decide) rfl rfl rfl rfl (Nat.le_of_eq rfl) rfl ?_
  intro T v L' hQ w
  obtain ⟨b1, rfl, hb1, hx1, hL⟩ := hQ
  replace hL := hL.symm
  subst hL
  dsimp only [oS, oN, cA, nA]
  refine s_isub (pc' := 120) w d14_119 rfl ?_
  rw [b_sub hb1]
  refine s_istore (pc' := 122) (ls' := #[vR (n0 + (N + 0)), vR (n0 + kA), vI (3 : Int32), vI (0 : Int32), vI (Int32.ofNat b0), vI (1 : Int32), vR (n0 + v1), vJ (u1.toInt64 - l1.toInt64), sc, vI (Int32.ofNat b1)]) w d14_120 rfl rfl ?_
  refine s_iload (pc' := 124) w d14_122 rfl rfl ?_
  refine s_iload (pc' := 126) w d14_124 rfl rfl ?_
  refine s_iadd (pc' := 127) w d14_126 rfl ?_
  rw [b_add]
  refine s_bipush (pc' := 129) (64 : Int32) w d14_127 (by decide) rfl ?_
  refine s_icmpY (pc' := 138) w d14_129 (Jvm.Free.XT.ii_le_t (b_le (by omega) (by omega))) (by decide) (by decide) ?_
  refine s_aloadN (pc' := 139) w d14_138 rfl rfl rfl ?_
  refine s_getL (pc' := 142) (host := "") w (Or.inl (t129 hw)) Via.refl (Lk.new (lk_suf hN rfl)) (j := 4) rfl rfl d14_139 rfl ?_
  intro T w
  refine s_iload (pc' := 144) w d14_142 rfl rfl ?_
  refine s_aload (pc' := 146) w d14_144 rfl rfl rfl ?_
  refine s_virtual (pc' := 149) (rest := [(.int (1 : Int32)), (.ref (n0 + (N + 4)))]) 2 [] w (c_low hw l h0 n0 (n0 + v1) na1 ty1 (.int u1) ini1 pos1 l1 (Pre ++ [o2 (.ref (n0 + (N + 1))) (.int 10) (.ref (n0 + (N + 2))) (.ref (n0 + (N + 3))) (.ref (n0 + (N + 4))) (.ref (n0 + (N + 5))) (.ref (n0 + (N + 6))) (.ref (n0 + (N + 7))) (.int 0) .null (.int 0), aJ ([]), aI (List.replicate 1024 (.int (-1))), aI ([]), aI ([.int l0, (.int 0), (.int 0)]), aI ([.int 0, (.int 0), (.int 0)]), aI ([.int (Int32.ofNat (0)), (.int 0), (.int 0)]), aJ ([.long (mkM (b0)), (.long 0), (.long 0)])]) (Lk.new (lk_app pV1))) (Lk.new (lk_app pV1)) (t165 hw) (t166 hw) (w.notFace (t168 hw)) (t168 hw) (t167 hw) (t37 hw) (t169 hw) (by decide) pd11 d14_146 (by decide) rfl rfl rfl rfl (Nat.le_of_eq rfl) rfl ?_
  intro T v L' hQ w
  obtain ⟨rfl, hL⟩ := hQ
  replace hL := hL.symm
  subst hL
  dsimp only [oS, oN, cA, nA]
  refine s_iastore (pc' := 150) (k := (N + 4)) w (lk_suf hN rfl) d14_149 (by decide) (leB rfl) rfl ?_
  intro T w
  rw [set_suf hN] at w
  replace w : St p l e _ s m _ below meth c Z _ _ _ _ h0 n0 T (Pre ++ [o2 (.ref (n0 + (N + 1))) (.int 10) (.ref (n0 + (N + 2))) (.ref (n0 + (N + 3))) (.ref (n0 + (N + 4))) (.ref (n0 + (N + 5))) (.ref (n0 + (N + 6))) (.ref (n0 + (N + 7))) (.int 0) .null (.int 0), aJ ([]), aI (List.replicate 1024 (.int (-1))), aI ([]), aI ([.int l0, .int l1, (.int 0)]), aI ([.int 0, (.int 0), (.int 0)]), aI ([.int (Int32.ofNat (0)), (.int 0), (.int 0)]), aJ ([.long (mkM (b0)), (.long 0), (.long 0)])]) 7 1036 := w
  refine s_aloadN (pc' := 151) w d14_150 rfl rfl rfl ?_
  refine s_getL (pc' := 154) (host := "") w (Or.inl (t131 hw)) Via.refl (Lk.new (lk_suf hN rfl)) (j := 5) rfl rfl d14_151 rfl ?_
  intro T w
  refine s_iload (pc' := 156) w d14_154 rfl rfl ?_
  refine s_iloadN (pc' := 157) w d14_156 rfl rfl ?_
  refine s_iastore (pc' := 158) (k := (N + 5)) w (lk_suf hN rfl) d14_157 (by decide) (leB rfl) rfl ?_
  intro T w
  rw [set_suf hN] at w
  replace w : St p l e _ s m _ below meth c Z _ _ _ _ h0 n0 T (Pre ++ [o2 (.ref (n0 + (N + 1))) (.int 10) (.ref (n0 + (N + 2))) (.ref (n0 + (N + 3))) (.ref (n0 + (N + 4))) (.ref (n0 + (N + 5))) (.ref (n0 + (N + 6))) (.ref (n0 + (N + 7))) (.int 0) .null (.int 0), aJ ([]), aI (List.replicate 1024 (.int (-1))), aI ([]), aI ([.int l0, .int l1, (.int 0)]), aI ([.int 0, .int 0, (.int 0)]), aI ([.int (Int32.ofNat (0)), (.int 0), (.int 0)]), aJ ([.long (mkM (b0)), (.long 0), (.long 0)])]) 7 1036 := w
  refine s_aloadN (pc' := 159) w d14_158 rfl rfl rfl ?_
  refine s_getL (pc' := 162) (host := "") w (Or.inl (t133 hw)) Via.refl (Lk.new (lk_suf hN rfl)) (j := 6) rfl rfl d14_159 rfl ?_
  intro T w
  refine s_iload (pc' := 164) w d14_162 rfl rfl ?_
  refine s_iload (pc' := 166) w d14_164 rfl rfl ?_
  refine s_iastore (pc' := 167) (k := (N + 6)) w (lk_suf hN rfl) d14_166 (by decide) (leB rfl) rfl ?_
  intro T w
  rw [set_suf hN] at w
  replace w : St p l e _ s m _ below meth c Z _ _ _ _ h0 n0 T (Pre ++ [o2 (.ref (n0 + (N + 1))) (.int 10) (.ref (n0 + (N + 2))) (.ref (n0 + (N + 3))) (.ref (n0 + (N + 4))) (.ref (n0 + (N + 5))) (.ref (n0 + (N + 6))) (.ref (n0 + (N + 7))) (.int 0) .null (.int 0), aJ ([]), aI (List.replicate 1024 (.int (-1))), aI ([]), aI ([.int l0, .int l1, (.int 0)]), aI ([.int 0, .int 0, (.int 0)]), aI ([.int (Int32.ofNat (0)), .int (Int32.ofNat (b0)), (.int 0)]), aJ ([.long (mkM (b0)), (.long 0), (.long 0)])]) 7 1036 := w
  refine s_aloadN (pc' := 168) w d14_167 rfl rfl rfl ?_
  refine s_getL (pc' := 171) (host := "") w (Or.inl (t135 hw)) Via.refl (Lk.new (lk_suf hN rfl)) (j := 7) rfl rfl d14_168 rfl ?_
  intro T w
  refine s_iload (pc' := 173) w d14_171 rfl rfl ?_
  refine s_lconst (pc' := 174) (1 : Int64) w d14_173 (by decide) rfl ?_
  refine s_iload (pc' := 176) w d14_174 rfl rfl ?_
  refine s_lshl (pc' := 177) w d14_176 rfl ?_
  refine s_lconst (pc' := 178) (1 : Int64) w d14_177 (by decide) rfl ?_
  refine s_lsub (pc' := 179) w d14_178 rfl ?_
  refine s_lastore (pc' := 180) (k := (N + 7)) w (lk_suf hN rfl) d14_179 (by decide) (leB rfl) rfl ?_
  intro T w
  rw [set_suf hN] at w
  replace w : St p l e _ s m _ below meth c Z _ _ _ _ h0 n0 T (Pre ++ [o2 (.ref (n0 + (N + 1))) (.int 10) (.ref (n0 + (N + 2))) (.ref (n0 + (N + 3))) (.ref (n0 + (N + 4))) (.ref (n0 + (N + 5))) (.ref (n0 + (N + 6))) (.ref (n0 + (N + 7))) (.int 0) .null (.int 0), aJ ([]), aI (List.replicate 1024 (.int (-1))), aI ([]), aI ([.int l0, .int l1, (.int 0)]), aI ([.int 0, .int 0, (.int 0)]), aI ([.int (Int32.ofNat (0)), .int (Int32.ofNat (b0)), (.int 0)]), aJ ([.long (mkM (b0)), .long (mkM (b1)), (.long 0)])]) 7 1036 := w
  refine s_iload (pc' := 182) w d14_180 rfl rfl ?_
  refine s_iload (pc' := 184) w d14_182 rfl rfl ?_
  refine s_iadd (pc' := 185) w d14_184 rfl ?_
  rw [b_add]
  refine s_istore (pc' := 187) (ls' := #[vR (n0 + (N + 0)), vR (n0 + kA), vI (3 : Int32), vI (0 : Int32), vI (Int32.ofNat (b0 + b1)), vI (1 : Int32), vR (n0 + v1), vJ (u1.toInt64 - l1.toInt64), sc, vI (Int32.ofNat b1)]) w d14_185 rfl rfl ?_
  refine s_iinc (pc' := 190) (ls' := #[vR (n0 + (N + 0)), vR (n0 + kA), vI (3 : Int32), vI (0 : Int32), vI (Int32.ofNat (b0 + b1)), vI ((1 : Int32) + (1 : Int32)), vR (n0 + v1), vJ (u1.toInt64 - l1.toInt64), sc, vI (Int32.ofNat b1)]) (1 : Int32) w d14_187 (by decide) rfl rfl rfl ?_
  rw [show (1 : Int32) + 1 = 2 by decide]
  refine s_goto (pc' := 78) w d14_190 (by decide) (by decide) ?_
  change Go p e below _ T (mkF m 78 #[vR (n0 + (N + 0)), vR (n0 + kA), vI (3 : Int32), vI (0 : Int32), vI (Int32.ofNat (b0 + b1)), vI (2 : Int32), vR (n0 + v1), vJ (u1.toInt64 - l1.toInt64), sc, vI (Int32.ofNat b1)] [])
  refine s_iload (pc' := 80) w d14_78 rfl rfl ?_
  refine s_iloadN (pc' := 81) w d14_80 rfl rfl ?_
  refine s_icmpN (pc' := 84) w d14_81 (Jvm.Free.XT.ii_ge_f (by decide)) rfl ?_
  refine s_aloadN (pc' := 85) w d14_84 rfl rfl rfl ?_
  refine s_iload (pc' := 87) w d14_85 rfl rfl ?_
  refine s_face (pc' := 92) (rest := []) 0 [(.int (2 : Int32))] w (c_get hw l h0 n0 (n0 + kA) (n0 + kE) mc 3 2 es (n0 + v2) (Pre ++ [o2 (.ref (n0 + (N + 1))) (.int 10) (.ref (n0 + (N + 2))) (.ref (n0 + (N + 3))) (.ref (n0 + (N + 4))) (.ref (n0 + (N + 5))) (.ref (n0 + (N + 6))) (.ref (n0 + (N + 7))) (.int 0) .null (.int 0), aJ ([]), aI (List.replicate 1024 (.int (-1))), aI ([]), aI ([.int l0, .int l1, (.int 0)]), aI ([.int 0, .int 0, (.int 0)]), aI ([.int (Int32.ofNat (0)), .int (Int32.ofNat (b0)), (.int 0)]), aJ ([.long (mkM (b0)), .long (mkM (b1)), (.long 0)])]) (Lk.new (lk_app pA)) (Lk.new (lk_app pE)) (by decide) he2 (by decide)) (Lk.new (lk_app pA)) (t137 hw) (t138 hw) (t139 hw) (t140 hw) (t141 hw) (t142 hw) (t143 hw) (t127 hw) (t11 hw) (t144 hw) (by decide) pd6 d14_87 (by decide) rfl rfl rfl rfl (Nat.le_of_eq rfl) rfl ?_
  intro T v L' hQ w
  obtain ⟨rfl, hL⟩ := hQ
  replace hL := hL.symm
  subst hL
  dsimp only [oS, oN, cA, nA]
  refine s_checkcast (pc' := 95) w (t158 hw) (Lk.new (lk_app pV2)) (Or.inl rfl) d14_92 rfl ?_
  intro T w
  refine s_astore (pc' := 97) (ls' := #[vR (n0 + (N + 0)), vR (n0 + kA), vI (3 : Int32), vI (0 : Int32), vI (Int32.ofNat (b0 + b1)), vI (2 : Int32), vR (n0 + v2), vJ (u1.toInt64 - l1.toInt64), sc, vI (Int32.ofNat b1)]) w d14_95 rfl rfl rfl ?_
  refine s_aload (pc' := 99) w d14_97 rfl rfl rfl ?_
  refine s_virtual (pc' := 102) (rest := []) 0 [] w (c_high hw l h0 n0 (n0 + v2) na2 ty2 (.int l2) ini2 pos2 u2 (Pre ++ [o2 (.ref (n0 + (N + 1))) (.int 10) (.ref (n0 + (N + 2))) (.ref (n0 + (N + 3))) (.ref (n0 + (N + 4))) (.ref (n0 + (N + 5))) (.ref (n0 + (N + 6))) (.ref (n0 + (N + 7))) (.int 0) .null (.int 0), aJ ([]), aI (List.replicate 1024 (.int (-1))), aI ([]), aI ([.int l0, .int l1, (.int 0)]), aI ([.int 0, .int 0, (.int 0)]), aI ([.int (Int32.ofNat (0)), .int (Int32.ofNat (b0)), (.int 0)]), aJ ([.long (mkM (b0)), .long (mkM (b1)), (.long 0)])]) (Lk.new (lk_app pV2))) (Lk.new (lk_app pV2)) (t160 hw) (t161 hw) (w.notFace (t163 hw)) (t163 hw) (t162 hw) (t37 hw) (t164 hw) (by decide) pd11 d14_99 (by decide) rfl rfl rfl rfl (Nat.le_of_eq rfl) rfl ?_
  intro T v L' hQ w
  obtain ⟨rfl, hL⟩ := hQ
  replace hL := hL.symm
  subst hL
  dsimp only [oS, oN, cA, nA]
  refine s_i2l (pc' := 103) w d14_102 rfl ?_
  refine s_aload (pc' := 105) w d14_103 rfl rfl rfl ?_
  refine s_virtual (pc' := 108) (rest := [(.long u2.toInt64)]) 2 [] w (c_low hw l h0 n0 (n0 + v2) na2 ty2 (.int u2) ini2 pos2 l2 (Pre ++ [o2 (.ref (n0 + (N + 1))) (.int 10) (.ref (n0 + (N + 2))) (.ref (n0 + (N + 3))) (.ref (n0 + (N + 4))) (.ref (n0 + (N + 5))) (.ref (n0 + (N + 6))) (.ref (n0 + (N + 7))) (.int 0) .null (.int 0), aJ ([]), aI (List.replicate 1024 (.int (-1))), aI ([]), aI ([.int l0, .int l1, (.int 0)]), aI ([.int 0, .int 0, (.int 0)]), aI ([.int (Int32.ofNat (0)), .int (Int32.ofNat (b0)), (.int 0)]), aJ ([.long (mkM (b0)), .long (mkM (b1)), (.long 0)])]) (Lk.new (lk_app pV2))) (Lk.new (lk_app pV2)) (t165 hw) (t166 hw) (w.notFace (t168 hw)) (t168 hw) (t167 hw) (t37 hw) (t169 hw) (by decide) pd11 d14_105 (by decide) rfl rfl rfl rfl (Nat.le_of_eq rfl) rfl ?_
  intro T v L' hQ w
  obtain ⟨rfl, hL⟩ := hQ
  replace hL := hL.symm
  subst hL
  dsimp only [oS, oN, cA, nA]
  refine s_i2l (pc' := 109) w d14_108 rfl ?_
  refine s_lsub (pc' := 110) w d14_109 rfl ?_
  refine s_lstore (pc' := 112) (ls' := #[vR (n0 + (N + 0)), vR (n0 + kA), vI (3 : Int32), vI (0 : Int32), vI (Int32.ofNat (b0 + b1)), vI (2 : Int32), vR (n0 + v2), vJ (u2.toInt64 - l2.toInt64), sc, vI (Int32.ofNat b1)]) w d14_110 rfl rfl ?_
  refine s_bipush (pc' := 114) (64 : Int32) w d14_112 (by decide) rfl ?_
  refine s_lload (pc' := 116) w d14_114 rfl rfl ?_
  refine s_static (pc' := 119) (rest := [(.int (64 : Int32))]) 1 [(.long (u2.toInt64 - l2.toInt64))] w (c_nlz64 hw l h0 n0 (u2.toInt64 - l2.toInt64) (Pre ++ [o2 (.ref (n0 + (N + 1))) (.int 10) (.ref (n0 + (N + 2))) (.ref (n0 + (N + 3))) (.ref (n0 + (N + 4))) (.ref (n0 + (N + 5))) (.ref (n0 + (N + 6))) (.ref (n0 + (N + 7))) (.int 0) .null (.int 0), aJ ([]), aI (List.replicate 1024 (.int (-1))), aI ([]), aI ([.int l0, .int l1, (.int 0)]), aI ([.int 0, .int 0, (.int 0)]), aI ([.int (Int32.ofNat (0)), .int (Int32.ofNat (b0)), (.int 0)]), aJ ([.long (mkM (b0)), .long (mkM (b1)), (.long 0)])]) hs2) (t170 hw) (t171 hw) (t172 hw) (t173 hw) (by decide) pd8 d14_116 (by decide) rfl rfl rfl rfl (Nat.le_of_eq rfl) rfl ?_
  intro T v L' hQ w
  obtain ⟨b2, rfl, hb2, hx2, hL⟩ := hQ
  replace hL := hL.symm
  subst hL
  dsimp only [oS, oN, cA, nA]
  refine s_isub (pc' := 120) w d14_119 rfl ?_
  rw [b_sub hb2]
  refine s_istore (pc' := 122) (ls' := #[vR (n0 + (N + 0)), vR (n0 + kA), vI (3 : Int32), vI (0 : Int32), vI (Int32.ofNat (b0 + b1)), vI (2 : Int32), vR (n0 + v2), vJ (u2.toInt64 - l2.toInt64), sc, vI (Int32.ofNat b2)]) w d14_120 rfl rfl ?_
  refine s_iload (pc' := 124) w d14_122 rfl rfl ?_
  refine s_iload (pc' := 126) w d14_124 rfl rfl ?_
  refine s_iadd (pc' := 127) w d14_126 rfl ?_
  rw [b_add]
  refine s_bipush (pc' := 129) (64 : Int32) w d14_127 (by decide) rfl ?_
  by_cases hg : 64 < b0 + b1 + b2
  · refine s_icmpN (pc' := 132) w d14_129 (Jvm.Free.XT.ii_le_f (b_gt hg (by omega))) rfl ?_
    refine s_iinc (pc' := 135) (ls' := #[vR (n0 + (N + 0)), vR (n0 + kA), vI (3 : Int32), vI ((0 : Int32) + (1 : Int32)), vI (Int32.ofNat (b0 + b1)), vI (2 : Int32), vR (n0 + v2), vJ (u2.toInt64 - l2.toInt64), sc, vI (Int32.ofNat b2)]) (1 : Int32) w d14_132 (by decide) rfl rfl rfl ?_
    rw [show (0 : Int32) + 1 = 1 by decide]
    refine s_iconst (pc' := 136) (0 : Int32) w d14_135 (by decide) rfl ?_
    change Go p e below _ T (mkF m 136 #[vR (n0 + (N + 0)), vR (n0 + kA), vI (3 : Int32), vI (1 : Int32), vI (Int32.ofNat (b0 + b1)), vI (2 : Int32), vR (n0 + v2), vJ (u2.toInt64 - l2.toInt64), sc, vI (Int32.ofNat b2)] [(.int (Int32.ofNat 0))])
    refine s_istore (pc' := 138) (ls' := #[vR (n0 + (N + 0)), vR (n0 + kA), vI (3 : Int32), vI (1 : Int32), vI (Int32.ofNat 0), vI (2 : Int32), vR (n0 + v2), vJ (u2.toInt64 - l2.toInt64), sc, vI (Int32.ofNat b2)]) w d14_136 rfl rfl ?_
    refine s_aloadN (pc' := 139) w d14_138 rfl rfl rfl ?_
    refine s_getL (pc' := 142) (host := "") w (Or.inl (t129 hw)) Via.refl (Lk.new (lk_suf hN rfl)) (j := 4) rfl rfl d14_139 rfl ?_
    intro T w
    refine s_iload (pc' := 144) w d14_142 rfl rfl ?_
    refine s_aload (pc' := 146) w d14_144 rfl rfl rfl ?_
    refine s_virtual (pc' := 149) (rest := [(.int (2 : Int32)), (.ref (n0 + (N + 4)))]) 2 [] w (c_low hw l h0 n0 (n0 + v2) na2 ty2 (.int u2) ini2 pos2 l2 (Pre ++ [o2 (.ref (n0 + (N + 1))) (.int 10) (.ref (n0 + (N + 2))) (.ref (n0 + (N + 3))) (.ref (n0 + (N + 4))) (.ref (n0 + (N + 5))) (.ref (n0 + (N + 6))) (.ref (n0 + (N + 7))) (.int 0) .null (.int 0), aJ ([]), aI (List.replicate 1024 (.int (-1))), aI ([]), aI ([.int l0, .int l1, (.int 0)]), aI ([.int 0, .int 0, (.int 0)]), aI ([.int (Int32.ofNat (0)), .int (Int32.ofNat (b0)), (.int 0)]), aJ ([.long (mkM (b0)), .long (mkM (b1)), (.long 0)])]) (Lk.new (lk_app pV2))) (Lk.new (lk_app pV2)) (t165 hw) (t166 hw) (w.notFace (t168 hw)) (t168 hw) (t167 hw) (t37 hw) (t169 hw) (by decide) pd11 d14_146 (by decide) rfl rfl rfl rfl (Nat.le_of_eq rfl) rfl ?_
    intro T v L' hQ w
    obtain ⟨rfl, hL⟩ := hQ
    replace hL := hL.symm
    subst hL
    dsimp only [oS, oN, cA, nA]
    refine s_iastore (pc' := 150) (k := (N + 4)) w (lk_suf hN rfl) d14_149 (by decide) (leB rfl) rfl ?_
    intro T w
    rw [set_suf hN] at w
    replace w : St p l e _ s m _ below meth c Z _ _ _ _ h0 n0 T (Pre ++ [o2 (.ref (n0 + (N + 1))) (.int 10) (.ref (n0 + (N + 2))) (.ref (n0 + (N + 3))) (.ref (n0 + (N + 4))) (.ref (n0 + (N + 5))) (.ref (n0 + (N + 6))) (.ref (n0 + (N + 7))) (.int 0) .null (.int 0), aJ ([]), aI (List.replicate 1024 (.int (-1))), aI ([]), aI ([.int l0, .int l1, .int l2]), aI ([.int 0, .int 0, (.int 0)]), aI ([.int (Int32.ofNat (0)), .int (Int32.ofNat (b0)), (.int 0)]), aJ ([.long (mkM (b0)), .long (mkM (b1)), (.long 0)])]) 7 1036 := w
    refine s_aloadN (pc' := 151) w d14_150 rfl rfl rfl ?_
    refine s_getL (pc' := 154) (host := "") w (Or.inl (t131 hw)) Via.refl (Lk.new (lk_suf hN rfl)) (j := 5) rfl rfl d14_151 rfl ?_
    intro T w
    refine s_iload (pc' := 156) w d14_154 rfl rfl ?_
    refine s_iloadN (pc' := 157) w d14_156 rfl rfl ?_
    refine s_iastore (pc' := 158) (k := (N + 5)) w (lk_suf hN rfl) d14_157 (by decide) (leB rfl) rfl ?_
    intro T w
    rw [set_suf hN] at w
    replace w : St p l e _ s m _ below meth c Z _ _ _ _ h0 n0 T (Pre ++ [o2 (.ref (n0 + (N + 1))) (.int 10) (.ref (n0 + (N + 2))) (.ref (n0 + (N + 3))) (.ref (n0 + (N + 4))) (.ref (n0 + (N + 5))) (.ref (n0 + (N + 6))) (.ref (n0 + (N + 7))) (.int 0) .null (.int 0), aJ ([]), aI (List.replicate 1024 (.int (-1))), aI ([]), aI ([.int l0, .int l1, .int l2]), aI ([.int 0, .int 0, .int 1]), aI ([.int (Int32.ofNat (0)), .int (Int32.ofNat (b0)), (.int 0)]), aJ ([.long (mkM (b0)), .long (mkM (b1)), (.long 0)])]) 7 1036 := w
    refine s_aloadN (pc' := 159) w d14_158 rfl rfl rfl ?_
    refine s_getL (pc' := 162) (host := "") w (Or.inl (t133 hw)) Via.refl (Lk.new (lk_suf hN rfl)) (j := 6) rfl rfl d14_159 rfl ?_
    intro T w
    refine s_iload (pc' := 164) w d14_162 rfl rfl ?_
    refine s_iload (pc' := 166) w d14_164 rfl rfl ?_
    refine s_iastore (pc' := 167) (k := (N + 6)) w (lk_suf hN rfl) d14_166 (by decide) (leB rfl) rfl ?_
    intro T w
    rw [set_suf hN] at w
    replace w : St p l e _ s m _ below meth c Z _ _ _ _ h0 n0 T (Pre ++ [o2 (.ref (n0 + (N + 1))) (.int 10) (.ref (n0 + (N + 2))) (.ref (n0 + (N + 3))) (.ref (n0 + (N + 4))) (.ref (n0 + (N + 5))) (.ref (n0 + (N + 6))) (.ref (n0 + (N + 7))) (.int 0) .null (.int 0), aJ ([]), aI (List.replicate 1024 (.int (-1))), aI ([]), aI ([.int l0, .int l1, .int l2]), aI ([.int 0, .int 0, .int 1]), aI ([.int (Int32.ofNat (0)), .int (Int32.ofNat (b0)), .int (Int32.ofNat (0))]), aJ ([.long (mkM (b0)), .long (mkM (b1)), (.long 0)])]) 7 1036 := w
    refine s_aloadN (pc' := 168) w d14_167 rfl rfl rfl ?_
    refine s_getL (pc' := 171) (host := "") w (Or.inl (t135 hw)) Via.refl (Lk.new (lk_suf hN rfl)) (j := 7) rfl rfl d14_168 rfl ?_
    intro T w
    refine s_iload (pc' := 173) w d14_171 rfl rfl ?_
    refine s_lconst (pc' := 174) (1 : Int64) w d14_173 (by decide) rfl ?_
    refine s_iload (pc' := 176) w d14_174 rfl rfl ?_
    refine s_lshl (pc' := 177) w d14_176 rfl ?_
    refine s_lconst (pc' := 178) (1 : Int64) w d14_177 (by decide) rfl ?_
    refine s_lsub (pc' := 179) w d14_178 rfl ?_
    refine s_lastore (pc' := 180) (k := (N + 7)) w (lk_suf hN rfl) d14_179 (by decide) (leB rfl) rfl ?_
    intro T w
    rw [set_suf hN] at w
    replace w : St p l e _ s m _ below meth c Z _ _ _ _ h0 n0 T (Pre ++ [o2 (.ref (n0 + (N + 1))) (.int 10) (.ref (n0 + (N + 2))) (.ref (n0 + (N + 3))) (.ref (n0 + (N + 4))) (.ref (n0 + (N + 5))) (.ref (n0 + (N + 6))) (.ref (n0 + (N + 7))) (.int 0) .null (.int 0), aJ ([]), aI (List.replicate 1024 (.int (-1))), aI ([]), aI ([.int l0, .int l1, .int l2]), aI ([.int 0, .int 0, .int 1]), aI ([.int (Int32.ofNat (0)), .int (Int32.ofNat (b0)), .int (Int32.ofNat (0))]), aJ ([.long (mkM (b0)), .long (mkM (b1)), .long (mkM (b2))])]) 7 1036 := w
    refine s_iload (pc' := 182) w d14_180 rfl rfl ?_
    refine s_iload (pc' := 184) w d14_182 rfl rfl ?_
    refine s_iadd (pc' := 185) w d14_184 rfl ?_
    rw [b_add]
    refine s_istore (pc' := 187) (ls' := #[vR (n0 + (N + 0)), vR (n0 + kA), vI (3 : Int32), vI (1 : Int32), vI (Int32.ofNat (0 + b2)), vI (2 : Int32), vR (n0 + v2), vJ (u2.toInt64 - l2.toInt64), sc, vI (Int32.ofNat b2)]) w d14_185 rfl rfl ?_
    refine s_iinc (pc' := 190) (ls' := #[vR (n0 + (N + 0)), vR (n0 + kA), vI (3 : Int32), vI (1 : Int32), vI (Int32.ofNat (0 + b2)), vI ((2 : Int32) + (1 : Int32)), vR (n0 + v2), vJ (u2.toInt64 - l2.toInt64), sc, vI (Int32.ofNat b2)]) (1 : Int32) w d14_187 (by decide) rfl rfl rfl ?_
    rw [show (2 : Int32) + 1 = 3 by decide]
    refine s_goto (pc' := 78) w d14_190 (by decide) (by decide) ?_
    refine s_iload (pc' := 80) w d14_78 rfl rfl ?_
    refine s_iloadN (pc' := 81) w d14_80 rfl rfl ?_
    refine s_icmpY (pc' := 193) w d14_81 (Jvm.Free.XT.ii_ge_t (by decide)) (by decide) (by decide) ?_
    refine s_aloadN (pc' := 194) w d14_193 rfl rfl rfl ?_
    refine s_iloadN (pc' := 195) w d14_194 rfl rfl ?_
    refine s_iconst (pc' := 196) (1 : Int32) w d14_195 (by decide) rfl ?_
    refine s_iadd (pc' := 197) w d14_196 rfl ?_
    rw [show (1 : Int32) + 1 = 2 by decide]
    refine s_put (pc' := 200) (host := "") (k := (N + 0)) w (Or.inl (t179 hw)) Via.refl (cls2 hw) (lk_suf hN rfl) (j := 8) rfl (leB rfl) (Or.inr ⟨(t180 hw), rfl, rfl⟩) (ty := .int) (by decide +kernel) rfl rfl d14_197 rfl ?_
    intro T w
    rw [set_suf hN] at w
    replace w : St p l e _ s m _ below meth c Z _ _ _ _ h0 n0 T (Pre ++ [o2 (.ref (n0 + (N + 1))) (.int 10) (.ref (n0 + (N + 2))) (.ref (n0 + (N + 3))) (.ref (n0 + (N + 4))) (.ref (n0 + (N + 5))) (.ref (n0 + (N + 6))) (.ref (n0 + (N + 7))) (.int 2) .null (.int 0), aJ ([]), aI (List.replicate 1024 (.int (-1))), aI ([]), aI ([.int l0, .int l1, .int l2]), aI ([.int 0, .int 0, .int 1]), aI ([.int (Int32.ofNat (0)), .int (Int32.ofNat (b0)), .int (Int32.ofNat (0))]), aJ ([.long (mkM (b0)), .long (mkM (b1)), .long (mkM (b2))])]) 7 1036 := w
    refine s_aloadN (pc' := 201) w d14_200 rfl rfl rfl ?_
    refine s_aloadN (pc' := 202) w d14_201 rfl rfl rfl ?_
    refine s_getL (pc' := 205) (host := "") w (Or.inl (t179 hw)) Via.refl (Lk.new (lk_suf hN rfl)) (j := 8) rfl rfl d14_202 rfl ?_
    intro T w
    refine s_newarray (pc' := 207) (ty := .long) w (t100 hw) rfl (by intro C h; cases h) d14_205 (by decide) 2 (by decide) (by decide) (by decide) (by decide) (N + 8) (by rw [List.length_append, hN]; rfl) rfl ?_
    intro T w
    rw [List.append_assoc] at w
    replace w : St p l e _ s m _ below meth c Z _ _ _ _ h0 n0 T (Pre ++ [o2 (.ref (n0 + (N + 1))) (.int 10) (.ref (n0 + (N + 2))) (.ref (n0 + (N + 3))) (.ref (n0 + (N + 4))) (.ref (n0 + (N + 5))) (.ref (n0 + (N + 6))) (.ref (n0 + (N + 7))) (.int 2) .null (.int 0), aJ ([]), aI (List.replicate 1024 (.int (-1))), aI ([]), aI ([.int l0, .int l1, .int l2]), aI ([.int 0, .int 0, .int 1]), aI ([.int (Int32.ofNat (0)), .int (Int32.ofNat (b0)), .int (Int32.ofNat (0))]), aJ ([.long (mkM (b0)), .long (mkM (b1)), .long (mkM (b2))]), aJ ([(.long 0), (.long 0)])]) 8 1038 := w
    refine s_put (pc' := 210) (host := "") (k := (N + 0)) w (Or.inl (t181 hw)) Via.refl (cls2 hw) (lk_suf hN rfl) (j := 9) rfl (leB rfl) (Or.inr ⟨(t182 hw), rfl, rfl⟩) (ty := (.array .long)) (by decide +kernel) rfl rfl d14_207 rfl ?_
    intro T w
    rw [set_suf hN] at w
    replace w : St p l e _ s m _ below meth c Z _ _ _ _ h0 n0 T (Pre ++ [o2 (.ref (n0 + (N + 1))) (.int 10) (.ref (n0 + (N + 2))) (.ref (n0 + (N + 3))) (.ref (n0 + (N + 4))) (.ref (n0 + (N + 5))) (.ref (n0 + (N + 6))) (.ref (n0 + (N + 7))) (.int 2) (.ref (n0 + (N + 8))) (.int 0), aJ ([]), aI (List.replicate 1024 (.int (-1))), aI ([]), aI ([.int l0, .int l1, .int l2]), aI ([.int 0, .int 0, .int 1]), aI ([.int (Int32.ofNat (0)), .int (Int32.ofNat (b0)), .int (Int32.ofNat (0))]), aJ ([.long (mkM (b0)), .long (mkM (b1)), .long (mkM (b2))]), aJ ([(.long 0), (.long 0)])]) 8 1038 := w
    exact s_return w d14_210 (by decide) (by decide) ⟨rfl, b0, b1, b2, ⟨hb0, hb1, hb2, hx0, hx1, hx2⟩, Or.inr ⟨hg, rfl⟩⟩
  · refine s_icmpY (pc' := 138) w d14_129 (Jvm.Free.XT.ii_le_t (b_le (by omega) (by omega))) (by decide) (by decide) ?_
    refine s_aloadN (pc' := 139) w d14_138 rfl rfl rfl ?_
    refine s_getL (pc' := 142) (host := "") w (Or.inl (t129 hw)) Via.refl (Lk.new (lk_suf hN rfl)) (j := 4) rfl rfl d14_139 rfl ?_
    intro T w
    refine s_iload (pc' := 144) w d14_142 rfl rfl ?_
    refine s_aload (pc' := 146) w d14_144 rfl rfl rfl ?_
    refine s_virtual (pc' := 149) (rest := [(.int (2 : Int32)), (.ref (n0 + (N + 4)))]) 2 [] w (c_low hw l h0 n0 (n0 + v2) na2 ty2 (.int u2) ini2 pos2 l2 (Pre ++ [o2 (.ref (n0 + (N + 1))) (.int 10) (.ref (n0 + (N + 2))) (.ref (n0 + (N + 3))) (.ref (n0 + (N + 4))) (.ref (n0 + (N + 5))) (.ref (n0 + (N + 6))) (.ref (n0 + (N + 7))) (.int 0) .null (.int 0), aJ ([]), aI (List.replicate 1024 (.int (-1))), aI ([]), aI ([.int l0, .int l1, (.int 0)]), aI ([.int 0, .int 0, (.int 0)]), aI ([.int (Int32.ofNat (0)), .int (Int32.ofNat (b0)), (.int 0)]), aJ ([.long (mkM (b0)), .long (mkM (b1)), (.long 0)])]) (Lk.new (lk_app pV2))) (Lk.new (lk_app pV2)) (t165 hw) (t166 hw) (w.notFace (t168 hw)) (t168 hw) (t167 hw) (t37 hw) (t169 hw) (by decide) pd11 d14_146 (by decide) rfl rfl rfl rfl (Nat.le_of_eq rfl) rfl ?_
    intro T v L' hQ w
    obtain ⟨rfl, hL⟩ := hQ
    replace hL := hL.symm
    subst hL
    dsimp only [oS, oN, cA, nA]
    refine s_iastore (pc' := 150) (k := (N + 4)) w (lk_suf hN rfl) d14_149 (by decide) (leB rfl) rfl ?_
    intro T w
    rw [set_suf hN] at w
    replace w : St p l e _ s m _ below meth c Z _ _ _ _ h0 n0 T (Pre ++ [o2 (.ref (n0 + (N + 1))) (.int 10) (.ref (n0 + (N + 2))) (.ref (n0 + (N + 3))) (.ref (n0 + (N + 4))) (.ref (n0 + (N + 5))) (.ref (n0 + (N + 6))) (.ref (n0 + (N + 7))) (.int 0) .null (.int 0), aJ ([]), aI (List.replicate 1024 (.int (-1))), aI ([]), aI ([.int l0, .int l1, .int l2]), aI ([.int 0, .int 0, (.int 0)]), aI ([.int (Int32.ofNat (0)), .int (Int32.ofNat (b0)), (.int 0)]), aJ ([.long (mkM (b0)), .long (mkM (b1)), (.long 0)])]) 7 1036 := w
    refine s_aloadN (pc' := 151) w d14_150 rfl rfl rfl ?_
    refine s_getL (pc' := 154) (host := "") w (Or.inl (t131 hw)) Via.refl (Lk.new (lk_suf hN rfl)) (j := 5) rfl rfl d14_151 rfl ?_
    intro T w
    refine s_iload (pc' := 156) w d14_154 rfl rfl ?_
    refine s_iloadN (pc' := 157) w d14_156 rfl rfl ?_
    refine s_iastore (pc' := 158) (k := (N + 5)) w (lk_suf hN rfl) d14_157 (by decide) (leB rfl) rfl ?_
    intro T w
    rw [set_suf hN] at w
    replace w : St p l e _ s m _ below meth c Z _ _ _ _ h0 n0 T (Pre ++ [o2 (.ref (n0 + (N + 1))) (.int 10) (.ref (n0 + (N + 2))) (.ref (n0 + (N + 3))) (.ref (n0 + (N + 4))) (.ref (n0 + (N + 5))) (.ref (n0 + (N + 6))) (.ref (n0 + (N + 7))) (.int 0) .null (.int 0), aJ ([]), aI (List.replicate 1024 (.int (-1))), aI ([]), aI ([.int l0, .int l1, .int l2]), aI ([.int 0, .int 0, .int 0]), aI ([.int (Int32.ofNat (0)), .int (Int32.ofNat (b0)), (.int 0)]), aJ ([.long (mkM (b0)), .long (mkM (b1)), (.long 0)])]) 7 1036 := w
    refine s_aloadN (pc' := 159) w d14_158 rfl rfl rfl ?_
    refine s_getL (pc' := 162) (host := "") w (Or.inl (t133 hw)) Via.refl (Lk.new (lk_suf hN rfl)) (j := 6) rfl rfl d14_159 rfl ?_
    intro T w
    refine s_iload (pc' := 164) w d14_162 rfl rfl ?_
    refine s_iload (pc' := 166) w d14_164 rfl rfl ?_
    refine s_iastore (pc' := 167) (k := (N + 6)) w (lk_suf hN rfl) d14_166 (by decide) (leB rfl) rfl ?_
    intro T w
    rw [set_suf hN] at w
    replace w : St p l e _ s m _ below meth c Z _ _ _ _ h0 n0 T (Pre ++ [o2 (.ref (n0 + (N + 1))) (.int 10) (.ref (n0 + (N + 2))) (.ref (n0 + (N + 3))) (.ref (n0 + (N + 4))) (.ref (n0 + (N + 5))) (.ref (n0 + (N + 6))) (.ref (n0 + (N + 7))) (.int 0) .null (.int 0), aJ ([]), aI (List.replicate 1024 (.int (-1))), aI ([]), aI ([.int l0, .int l1, .int l2]), aI ([.int 0, .int 0, .int 0]), aI ([.int (Int32.ofNat (0)), .int (Int32.ofNat (b0)), .int (Int32.ofNat (b0 + b1))]), aJ ([.long (mkM (b0)), .long (mkM (b1)), (.long 0)])]) 7 1036 := w
    refine s_aloadN (pc' := 168) w d14_167 rfl rfl rfl ?_
    refine s_getL (pc' := 171) (host := "") w (Or.inl (t135 hw)) Via.refl (Lk.new (lk_suf hN rfl)) (j := 7) rfl rfl d14_168 rfl ?_
    intro T w
    refine s_iload (pc' := 173) w d14_171 rfl rfl ?_
    refine s_lconst (pc' := 174) (1 : Int64) w d14_173 (by decide) rfl ?_
    refine s_iload (pc' := 176) w d14_174 rfl rfl ?_
    refine s_lshl (pc' := 177) w d14_176 rfl ?_
    refine s_lconst (pc' := 178) (1 : Int64) w d14_177 (by decide) rfl ?_
    refine s_lsub (pc' := 179) w d14_178 rfl ?_
    refine s_lastore (pc' := 180) (k := (N + 7)) w (lk_suf hN rfl) d14_179 (by decide) (leB rfl) rfl ?_
    intro T w
    rw [set_suf hN] at w
    replace w : St p l e _ s m _ below meth c Z _ _ _ _ h0 n0 T (Pre ++ [o2 (.ref (n0 + (N + 1))) (.int 10) (.ref (n0 + (N + 2))) (.ref (n0 + (N + 3))) (.ref (n0 + (N + 4))) (.ref (n0 + (N + 5))) (.ref (n0 + (N + 6))) (.ref (n0 + (N + 7))) (.int 0) .null (.int 0), aJ ([]), aI (List.replicate 1024 (.int (-1))), aI ([]), aI ([.int l0, .int l1, .int l2]), aI ([.int 0, .int 0, .int 0]), aI ([.int (Int32.ofNat (0)), .int (Int32.ofNat (b0)), .int (Int32.ofNat (b0 + b1))]), aJ ([.long (mkM (b0)), .long (mkM (b1)), .long (mkM (b2))])]) 7 1036 := w
    refine s_iload (pc' := 182) w d14_180 rfl rfl ?_
    refine s_iload (pc' := 184) w d14_182 rfl rfl ?_
    refine s_iadd (pc' := 185) w d14_184 rfl ?_
    rw [b_add]
    refine s_istore (pc' := 187) (ls' := #[vR (n0 + (N + 0)), vR (n0 + kA), vI (3 : Int32), vI (0 : Int32), vI (Int32.ofNat (b0 + b1 + b2)), vI (2 : Int32), vR (n0 + v2), vJ (u2.toInt64 - l2.toInt64), sc, vI (Int32.ofNat b2)]) w d14_185 rfl rfl ?_
    refine s_iinc (pc' := 190) (ls' := #[vR (n0 + (N + 0)), vR (n0 + kA), vI (3 : Int32), vI (0 : Int32), vI (Int32.ofNat (b0 + b1 + b2)), vI ((2 : Int32) + (1 : Int32)), vR (n0 + v2), vJ (u2.toInt64 - l2.toInt64), sc, vI (Int32.ofNat b2)]) (1 : Int32) w d14_187 (by decide) rfl rfl rfl ?_
    rw [show (2 : Int32) + 1 = 3 by decide]
    refine s_goto (pc' := 78) w d14_190 (by decide) (by decide) ?_
    refine s_iload (pc' := 80) w d14_78 rfl rfl ?_
    refine s_iloadN (pc' := 81) w d14_80 rfl rfl ?_
    refine s_icmpY (pc' := 193) w d14_81 (Jvm.Free.XT.ii_ge_t (by decide)) (by decide) (by decide) ?_
    refine s_aloadN (pc' := 194) w d14_193 rfl rfl rfl ?_
    refine s_iloadN (pc' := 195) w d14_194 rfl rfl ?_
    refine s_iconst (pc' := 196) (1 : Int32) w d14_195 (by decide) rfl ?_
    refine s_iadd (pc' := 197) w d14_196 rfl ?_
    rw [show (0 : Int32) + 1 = 1 by decide]
    refine s_put (pc' := 200) (host := "") (k := (N + 0)) w (Or.inl (t179 hw)) Via.refl (cls2 hw) (lk_suf hN rfl) (j := 8) rfl (leB rfl) (Or.inr ⟨(t180 hw), rfl, rfl⟩) (ty := .int) (by decide +kernel) rfl rfl d14_197 rfl ?_
    intro T w
    rw [set_suf hN] at w
    replace w : St p l e _ s m _ below meth c Z _ _ _ _ h0 n0 T (Pre ++ [o2 (.ref (n0 + (N + 1))) (.int 10) (.ref (n0 + (N + 2))) (.ref (n0 + (N + 3))) (.ref (n0 + (N + 4))) (.ref (n0 + (N + 5))) (.ref (n0 + (N + 6))) (.ref (n0 + (N + 7))) (.int 1) .null (.int 0), aJ ([]), aI (List.replicate 1024 (.int (-1))), aI ([]), aI ([.int l0, .int l1, .int l2]), aI ([.int 0, .int 0, .int 0]), aI ([.int (Int32.ofNat (0)), .int (Int32.ofNat (b0)), .int (Int32.ofNat (b0 + b1))]), aJ ([.long (mkM (b0)), .long (mkM (b1)), .long (mkM (b2))])]) 7 1036 := w
    refine s_aloadN (pc' := 201) w d14_200 rfl rfl rfl ?_
    refine s_aloadN (pc' := 202) w d14_201 rfl rfl rfl ?_
    refine s_getL (pc' := 205) (host := "") w (Or.inl (t179 hw)) Via.refl (Lk.new (lk_suf hN rfl)) (j := 8) rfl rfl d14_202 rfl ?_
    intro T w
    refine s_newarray (pc' := 207) (ty := .long) w (t100 hw) rfl (by intro C h; cases h) d14_205 (by decide) 1 (by decide) (by decide) (by decide) (by decide) (N + 8) (by rw [List.length_append, hN]; rfl) rfl ?_
    intro T w
    rw [List.append_assoc] at w
    replace w : St p l e _ s m _ below meth c Z _ _ _ _ h0 n0 T (Pre ++ [o2 (.ref (n0 + (N + 1))) (.int 10) (.ref (n0 + (N + 2))) (.ref (n0 + (N + 3))) (.ref (n0 + (N + 4))) (.ref (n0 + (N + 5))) (.ref (n0 + (N + 6))) (.ref (n0 + (N + 7))) (.int 1) .null (.int 0), aJ ([]), aI (List.replicate 1024 (.int (-1))), aI ([]), aI ([.int l0, .int l1, .int l2]), aI ([.int 0, .int 0, .int 0]), aI ([.int (Int32.ofNat (0)), .int (Int32.ofNat (b0)), .int (Int32.ofNat (b0 + b1))]), aJ ([.long (mkM (b0)), .long (mkM (b1)), .long (mkM (b2))]), aJ ([(.long 0)])]) 8 1037 := w
    refine s_put (pc' := 210) (host := "") (k := (N + 0)) w (Or.inl (t181 hw)) Via.refl (cls2 hw) (lk_suf hN rfl) (j := 9) rfl (leB rfl) (Or.inr ⟨(t182 hw), rfl, rfl⟩) (ty := (.array .long)) (by decide +kernel) rfl rfl d14_207 rfl ?_
    intro T w
    rw [set_suf hN] at w
    replace w : St p l e _ s m _ below meth c Z _ _ _ _ h0 n0 T (Pre ++ [o2 (.ref (n0 + (N + 1))) (.int 10) (.ref (n0 + (N + 2))) (.ref (n0 + (N + 3))) (.ref (n0 + (N + 4))) (.ref (n0 + (N + 5))) (.ref (n0 + (N + 6))) (.ref (n0 + (N + 7))) (.int 1) (.ref (n0 + (N + 8))) (.int 0), aJ ([]), aI (List.replicate 1024 (.int (-1))), aI ([]), aI ([.int l0, .int l1, .int l2]), aI ([.int 0, .int 0, .int 0]), aI ([.int (Int32.ofNat (0)), .int (Int32.ofNat (b0)), .int (Int32.ofNat (b0 + b1))]), aJ ([.long (mkM (b0)), .long (mkM (b1)), .long (mkM (b2))]), aJ ([(.long 0)])]) 8 1037 := w
    exact s_return w d14_210 (by decide) (by decide) ⟨rfl, b0, b1, b2, ⟨hb0, hb1, hb2, hx0, hx1, hx2⟩, Or.inl ⟨by omega, rfl⟩⟩
abbrev sOb (n0 kP kT kH kL kW kX kM : Nat) (wps : Int32) (kK : Nat) (sz : Int32) : Ob := o2 (.ref (n0 + kP)) (.int 10) (.ref (n0 + kT)) (.ref (n0 + kH)) (.ref (n0 + kL)) (.ref (n0 + kW)) (.ref (n0 + kX)) (.ref (n0 + kM)) (.int wps) (.ref (n0 + kK)) (.int sz)
set_option maxRecDepth 65536 in
set_option maxHeartbeats 40000000 in
theorem c_copy {Z : State} {a0 : Array Value} (hw : Tw Z a0) (l : Launch) (h0 : Heap) (n0 : Nat) (k : Nat) (Ls : List Ob) (hk : Ls[k]? = some (aJ ([]))) :
    Met1 l Z (⟨"java/util/Arrays", "copyOf", "([JI)[J"⟩ : MethodName) jdk_65_method_124_code 3 (some (.array .long)) ({ frames := 1, cells := 1, slots := 1024, locals := 18 } : Room) #[(.ref (n0 + k)), (.int (1024 : Int32))] h0 n0 Ls (fun v L => v = some (.ref (n0 + Ls.length)) ∧ L = Ls ++ [aJ (List.replicate 1024 (.long 0))]) [] := by
  refine Met1.of (ls := #[vR (n0 + k), vI (1024 : Int32), un]) (plainFor_of_name pn5) (fun m => by first | (simp [entryFrame, mkF, argsToLocals, Value.category]; done) | rfl) ?_
  intro p e s m below meth c T w
  refine s_iloadN (pc' := 1) w d36_0 rfl rfl ?_
  refine s_aloadN (pc' := 2) w d36_1 rfl rfl rfl ?_
  refine s_arraylength (pc' := 3) (0 : Int32) w (Lk.new hk) d36_2 rfl rfl ?_
  refine s_icmpY (pc' := 14) w d36_3 (Jvm.Free.XT.ii_ne_t (by decide)) (by decide) (by decide) ?_
  refine s_iloadN (pc' := 15) w d36_14 rfl rfl ?_
  refine s_newarray (pc' := 17) (ty := .long) w (t100 hw) rfl (by intro C h; cases h) d36_15 (by decide) 1024 (by decide) (by decide) (by decide) (by decide) (Ls.length) rfl rfl ?_
  intro T w
  replace w : St p l e _ s m _ below meth c Z _ _ _ _ h0 n0 T (Ls ++ [aJ (List.replicate 1024 (.long 0))]) 1 1024 := w
  refine s_astoreN (pc' := 18) (ls' := #[vR (n0 + k), vI (1024 : Int32), vR (n0 + Ls.length)]) w d36_17 rfl rfl rfl ?_
  refine s_aloadN (pc' := 19) w d36_18 rfl rfl rfl ?_
  refine s_iconst (pc' := 20) (0 : Int32) w d36_19 (by decide) rfl ?_
  refine s_aloadN (pc' := 21) w d36_20 rfl rfl rfl ?_
  refine s_iconst (pc' := 22) (0 : Int32) w d36_21 (by decide) rfl ?_
  refine s_aloadN (pc' := 23) w d36_22 rfl rfl rfl ?_
  refine s_arraylength (pc' := 24) (0 : Int32) w (Lk.new (lk_app hk)) d36_23 rfl rfl ?_
  refine s_iloadN (pc' := 25) w d36_24 rfl rfl ?_
  refine s_static (pc' := 28) (rest := [(.int (0 : Int32)), (.ref (n0 + Ls.length)), (.int (0 : Int32)), (.ref (n0 + k))]) 4 [(.int (0 : Int32)), (.int (1024 : Int32))] w (c_min hw l h0 n0 0 1024 (Ls ++ [aJ (List.replicate 1024 (.long 0))])) (t226 hw) (t227 hw) (t88 hw) (t228 hw) (by decide) pd1 d36_25 (by decide) rfl rfl rfl rfl (Nat.le_of_eq rfl) rfl ?_
  intro T v L' hQ w
  obtain ⟨rfl, hL⟩ := hQ
  replace hL := hL.symm
  subst hL
  dsimp only [oS, oN, cA, nA]
  rw [show (if (1024 : Int32) < 0 then (1024 : Int32) else 0) = 0 by decide]
  refine s_arraycopy (pc' := 31) (k := Ls.length) 0 w (Lk.new (lk_app hk)) lk_last rfl (t229 hw) (t232 hw) (t230 hw) (t231 hw) (by decide) (by decide) (by decide) (Nat.le_of_eq rfl) (by rw [List.length_replicate]; decide) d36_28 rfl (by decide) (Nat.le_of_eq rfl) (by decide) rfl ?_
  intro T w
  refine s_aloadN (pc' := 32) w d36_31 rfl rfl rfl ?_
  exact s_areturn w d36_32 rfl rfl (by decide) (by decide) ⟨rfl, set_last⟩
set_option maxRecDepth 65536 in
set_option maxHeartbeats 40000000 in
theorem c_hash1 {Z : State} {a0 : Array Value} (hw : Tw Z a0) (l : Launch) (h0 : Heap) (n0 : Nat) (a b : Addr) (n : Nat) (vs : List Value) (x0 : Int64) (Ls : List Ob) (fv : List Value) (q : Lk Z h0 n0 Ls a (.inl ("com/example/ryazan/ryazan/statespace/StateStore", fs2, fv))) (hwp : fv[8]? = some (.int 1)) (qf : Lk Z h0 n0 Ls b (aJ (vs))) (hn : n < 1000) (hv0 : vs[n + 0]? = some (.long x0)) :
    Met1 l Z (⟨"com/example/ryazan/ryazan/statespace/StateStore", "hash", "([JI)I"⟩ : MethodName) prog_197_method_25_code 6 (some .int) ({ frames := 0, cells := 0, slots := 0, locals := 0 } : Room) #[(.ref a), (.ref b), (.int (Int32.ofNat n))] h0 n0 Ls (fun v L => v = some (.int (hfin (hfold [x0]))) ∧ L = Ls) [] := by
  refine Met1.of (ls := #[vR a, vR b, vI (Int32.ofNat n), un, un, un]) (plainFor_of_name pn10) (fun m => by first | (simp [entryFrame, mkF, argsToLocals, Value.category]; done) | rfl) ?_
  intro p e s m below meth c T w
  refine s_lconst (pc' := 1) (0 : Int64) w d32_0 (by decide) rfl ?_
  refine s_lstoreN (pc' := 2) (ls' := #[vR a, vR b, vI (Int32.ofNat n), vJ (0 : Int64), sc, un]) w d32_1 rfl rfl ?_
  refine s_iloadN (pc' := 3) w d32_2 rfl rfl ?_
  refine s_istore (pc' := 5) (ls' := #[vR a, vR b, vI (Int32.ofNat n), vJ (0 : Int64), sc, vI (Int32.ofNat n)]) w d32_3 rfl rfl ?_
  change Go p e below _ T (mkF m 5 #[vR a, vR b, vI (Int32.ofNat n), vJ (0 : Int64), sc, vI (Int32.ofNat (n + 0))] [])
  refine s_iload (pc' := 7) w d32_5 rfl rfl ?_
  refine s_iloadN (pc' := 8) w d32_7 rfl rfl ?_
  refine s_aloadN (pc' := 9) w d32_8 rfl rfl rfl ?_
  refine s_getL (pc' := 12) (host := "") w (Or.inl (t179 hw)) Via.refl q (j := 8) rfl hwp d32_9 rfl ?_
  intro T w
  refine s_iadd (pc' := 13) w d32_12 rfl ?_
  rw [show Int32.ofNat n + (1 : Int32) = Int32.ofNat (n + 1) from b_add n 1]
  refine s_icmpN (pc' := 16) w d32_13 (Jvm.Free.XT.ii_ge_f (i_in hn (by decide) (by decide))) rfl ?_
  refine s_lloadN (pc' := 17) w d32_16 rfl rfl ?_
  refine s_aloadN (pc' := 18) w d32_17 rfl rfl rfl ?_
  refine s_iload (pc' := 20) w d32_18 rfl rfl ?_
  refine s_laload (pc' := 21) (v := (.long x0)) w qf d32_20 (i_nn (by omega)) (by rw [i_cl (by omega)]; exact hv0) rfl ?_
  refine s_ladd (pc' := 22) w d32_21 rfl ?_
  refine s_ldc2 (pc' := 25) w (t207 hw) d32_22 rfl ?_
  refine s_lmul (pc' := 26) w d32_25 rfl ?_
  refine s_lstoreN (pc' := 27) (ls' := #[vR a, vR b, vI (Int32.ofNat n), vJ (((0 : Int64) + x0) * (-7046029254386353131 : Int64)), sc, vI (Int32.ofNat (n + 0))]) w d32_26 rfl rfl ?_
  refine s_iinc (pc' := 30) (ls' := #[vR a, vR b, vI (Int32.ofNat n), vJ (((0 : Int64) + x0) * (-7046029254386353131 : Int64)), sc, vI ((Int32.ofNat (n + 0)) + (1 : Int32))]) (1 : Int32) w d32_27 (by decide) rfl rfl rfl ?_
  rw [show Int32.ofNat (n + 0) + (1 : Int32) = Int32.ofNat (n + 1) from b_add (n + 0) 1]
  refine s_goto (pc' := 5) w d32_30 (by decide) (by decide) ?_
  refine s_iload (pc' := 7) w d32_5 rfl rfl ?_
  refine s_iloadN (pc' := 8) w d32_7 rfl rfl ?_
  refine s_aloadN (pc' := 9) w d32_8 rfl rfl rfl ?_
  refine s_getL (pc' := 12) (host := "") w (Or.inl (t179 hw)) Via.refl q (j := 8) rfl hwp d32_9 rfl ?_
  intro T w
  refine s_iadd (pc' := 13) w d32_12 rfl ?_
  rw [show Int32.ofNat n + (1 : Int32) = Int32.ofNat (n + 1) from b_add n 1]
  refine s_icmpY (pc' := 33) w d32_13 (Jvm.Free.XT.ii_ge_t (i_out hn (by decide))) (by decide) (by decide) ?_
  refine s_lloadN (pc' := 34) w d32_33 rfl rfl ?_
  refine s_lloadN (pc' := 35) w d32_34 rfl rfl ?_
  refine s_bipush (pc' := 37) (29 : Int32) w d32_35 (by decide) rfl ?_
  refine s_lushr (pc' := 38) w d32_37 rfl ?_
  refine s_lxor (pc' := 39) w d32_38 rfl ?_
  refine s_lstoreN (pc' := 40) (ls' := #[vR a, vR b, vI (Int32.ofNat n), vJ ((((0 : Int64) + x0) * (-7046029254386353131 : Int64)) ^^^ (Jvm.Free.XT.ushrL (((0 : Int64) + x0) * (-7046029254386353131 : Int64)) (29 : Int32))), sc, vI (Int32.ofNat (n + 1))]) w d32_39 rfl rfl ?_
  refine s_lloadN (pc' := 41) w d32_40 rfl rfl ?_
  refine s_ldc2 (pc' := 44) w (t208 hw) d32_41 rfl ?_
  refine s_lmul (pc' := 45) w d32_44 rfl ?_
  refine s_lstoreN (pc' := 46) (ls' := #[vR a, vR b, vI (Int32.ofNat n), vJ (((((0 : Int64) + x0) * (-7046029254386353131 : Int64)) ^^^ (Jvm.Free.XT.ushrL (((0 : Int64) + x0) * (-7046029254386353131 : Int64)) (29 : Int32))) * (-4658895280553007687 : Int64)), sc, vI (Int32.ofNat (n + 1))]) w d32_45 rfl rfl ?_
  refine s_lloadN (pc' := 47) w d32_46 rfl rfl ?_
  refine s_lloadN (pc' := 48) w d32_47 rfl rfl ?_
  refine s_bipush (pc' := 50) (32 : Int32) w d32_48 (by decide) rfl ?_
  refine s_lushr (pc' := 51) w d32_50 rfl ?_
  refine s_lxor (pc' := 52) w d32_51 rfl ?_
  refine s_lstoreN (pc' := 53) (ls' := #[vR a, vR b, vI (Int32.ofNat n), vJ ((((((0 : Int64) + x0) * (-7046029254386353131 : Int64)) ^^^ (Jvm.Free.XT.ushrL (((0 : Int64) + x0) * (-7046029254386353131 : Int64)) (29 : Int32))) * (-4658895280553007687 : Int64)) ^^^ (Jvm.Free.XT.ushrL (((((0 : Int64) + x0) * (-7046029254386353131 : Int64)) ^^^ (Jvm.Free.XT.ushrL (((0 : Int64) + x0) * (-7046029254386353131 : Int64)) (29 : Int32))) * (-4658895280553007687 : Int64)) (32 : Int32))), sc, vI (Int32.ofNat (n + 1))]) w d32_52 rfl rfl ?_
  refine s_lloadN (pc' := 54) w d32_53 rfl rfl ?_
  refine s_l2i (pc' := 55) w d32_54 rfl ?_
  exact s_ireturn w d32_55 (by decide) (by decide) ⟨rfl, rfl⟩
set_option maxRecDepth 65536 in
set_option maxHeartbeats 40000000 in
theorem c_place1 {Z : State} {a0 : Array Value} (hw : Tw Z a0) (l : Launch) (h0 : Heap) (n0 : Nat) (kS kP kT kH kL kW kX kM kK : Nat) (sz : Int32) (Ls : List Ob) (pS : Ls[kS]? = some (sOb n0 kP kT kH kL kW kX kM 1 kK sz)) :
    Met1 l Z (⟨"com/example/ryazan/ryazan/statespace/StateStore", "placeAgain", "()V"⟩ : MethodName) prog_197_method_9_code 1 none ({ frames := 0, cells := 0, slots := 0, locals := 0 } : Room) #[(.ref (n0 + kS))] h0 n0 Ls (fun v L => v = none ∧ L = Ls) [] := by
  refine Met1.of (ls := #[vR (n0 + kS)]) (plainFor_of_name pn10) (fun m => by first | (simp [entryFrame, mkF, argsToLocals, Value.category]; done) | rfl) ?_
  intro p e s m below meth c T w
  refine s_aloadN (pc' := 1) w d29_0 rfl rfl rfl ?_
  refine s_getL (pc' := 4) (host := "") w (Or.inl (t116 hw)) Via.refl (Lk.new pS) (j := 2) rfl rfl d29_1 rfl ?_
  intro T w
  refine s_ifnonnullY (pc' := 15) w d29_4 (by decide) (by decide) ?_
  exact s_return w d29_15 (by decide) (by decide) ⟨rfl, rfl⟩
set_option maxRecDepth 65536 in
set_option maxHeartbeats 40000000 in
theorem c_pack1 {Z : State} {a0 : Array Value} (hw : Tw Z a0) (l : Launch) (h0 : Heap) (n0 : Nat) (kS kP kT kH kL kW kX kM kK : Nat) (sz : Int32) (sa : Addr) (s0 s1 s2 l0 l1 l2 x0 x1 x2 : Int32) (y0 : Int64) (Ls : List Ob) (pS : Ls[kS]? = some (sOb n0 kP kT kH kL kW kX kM 1 kK sz)) (pK : Ls[kK]? = some (aJ ([.long y0]))) (pL : Ls[kL]? = some (aI ([.int l0, .int l1, .int l2]))) (pW : Ls[kW]? = some (aI ([.int 0, .int 0, .int 0]))) (pX : Ls[kX]? = some (aI ([.int x0, .int x1, .int x2]))) (qa : Lk Z h0 n0 Ls sa (aI ([.int s0, .int s1, .int s2]))) (neS : kK ≠ kS) (neL : kK ≠ kL) (neW : kK ≠ kW) (neX : kK ≠ kX) (neA : sa ≠ n0 + kK) :
    Met1 l Z (⟨"com/example/ryazan/ryazan/statespace/StateStore", "pack", "([I)V"⟩ : MethodName) prog_197_method_13_code 3 none ({ frames := 1, cells := 0, slots := 0, locals := 16 } : Room) #[(.ref (n0 + kS)), (.ref sa)] h0 n0 Ls (fun v L => v = none ∧ L = Ls.set kK (aJ ([.long ((((0 : Int64) ||| (dS s0 l0 x0)) ||| (dS s1 l1 x1)) ||| (dS s2 l2 x2))]))) [] := by
  refine Met1.of (ls := #[vR (n0 + kS), vR sa, un]) (plainFor_of_name pn10) (fun m => by first | (simp [entryFrame, mkF, argsToLocals, Value.category]; done) | rfl) ?_
  intro p e s m below meth c T w
  refine s_aloadN (pc' := 1) w d30_0 rfl rfl rfl ?_
  refine s_getL (pc' := 4) (host := "") w (Or.inl (t181 hw)) Via.refl (Lk.new pS) (j := 9) rfl rfl d30_1 rfl ?_
  intro T w
  refine s_lconst (pc' := 5) (0 : Int64) w d30_4 (by decide) rfl ?_
  refine s_static (pc' := 8) (rest := []) 0 [(.ref (n0 + kK)), (.long (0 : Int64))] w (c_fillJ hw l h0 n0 kK 0 [.long y0] 1 Ls pK rfl (leB rfl)) (t199 hw) (t200 hw) (t114 hw) (t201 hw) (by decide) pd12 d30_5 (by decide) rfl rfl rfl rfl (Nat.le_of_eq rfl) rfl ?_
  intro T v L' hQ w
  obtain ⟨rfl, hL⟩ := hQ
  replace hL := hL.symm
  subst hL
  dsimp only [oS, oN, cA, nA]
  replace w : St p l e _ s m _ below meth c Z _ _ _ _ h0 n0 T (Ls.set kK (aJ ([.long (0 : Int64)]))) 0 0 := w
  have rS := fun o : Ob => (lk_ne (o := o) pS neS)
  have rL := fun o : Ob => (lk_ne (o := o) pL neL)
  have rW := fun o : Ob => (lk_ne (o := o) pW neW)
  have rX := fun o : Ob => (lk_ne (o := o) pX neX)
  have rA := fun o : Ob => (Lk.set (o2 := o) qa pK neA)
  have rK := fun o : Ob => (lk_set (o := o) pK)
  refine s_iconst (pc' := 9) (0 : Int32) w d30_8 (by decide) rfl ?_
  refine s_istoreN (pc' := 10) (ls' := #[vR (n0 + kS), vR sa, vI (0 : Int32)]) w d30_9 rfl rfl ?_
  refine s_iloadN (pc' := 11) w d30_10 rfl rfl ?_
  refine s_aloadN (pc' := 12) w d30_11 rfl rfl rfl ?_
  refine s_getL (pc' := 15) (host := "") w (Or.inl (t129 hw)) Via.refl (Lk.new (rS _)) (j := 4) rfl rfl d30_12 rfl ?_
  intro T w
  refine s_arraylength (pc' := 16) (3 : Int32) w (Lk.new (rL _)) d30_15 rfl rfl ?_
  refine s_icmpN (pc' := 19) w d30_16 (Jvm.Free.XT.ii_ge_f (by decide)) rfl ?_
  refine s_aloadN (pc' := 20) w d30_19 rfl rfl rfl ?_
  refine s_getL (pc' := 23) (host := "") w (Or.inl (t181 hw)) Via.refl (Lk.new (rS _)) (j := 9) rfl rfl d30_20 rfl ?_
  intro T w
  refine s_aloadN (pc' := 24) w d30_23 rfl rfl rfl ?_
  refine s_getL (pc' := 27) (host := "") w (Or.inl (t131 hw)) Via.refl (Lk.new (rS _)) (j := 5) rfl rfl d30_24 rfl ?_
  intro T w
  refine s_iloadN (pc' := 28) w d30_27 rfl rfl ?_
  refine s_iaload (pc' := 29) (v := (.int (0 : Int32))) w (Lk.new (rW _)) d30_28 (by decide) rfl rfl ?_
  refine s_dup2 (pc' := 30) w d30_29 rfl rfl rfl ?_
  refine s_laload (pc' := 31) (v := (.long (0 : Int64))) w (Lk.new (rK _)) d30_30 (by decide) rfl rfl ?_
  refine s_aloadN (pc' := 32) w d30_31 rfl rfl rfl ?_
  refine s_iloadN (pc' := 33) w d30_32 rfl rfl ?_
  refine s_iaload (pc' := 34) (v := (.int s0)) w (rA _) d30_33 (by decide) rfl rfl ?_
  refine s_i2l (pc' := 35) w d30_34 rfl ?_
  refine s_aloadN (pc' := 36) w d30_35 rfl rfl rfl ?_
  refine s_getL (pc' := 39) (host := "") w (Or.inl (t129 hw)) Via.refl (Lk.new (rS _)) (j := 4) rfl rfl d30_36 rfl ?_
  intro T w
  refine s_iloadN (pc' := 40) w d30_39 rfl rfl ?_
  refine s_iaload (pc' := 41) (v := (.int l0)) w (Lk.new (rL _)) d30_40 (by decide) rfl rfl ?_
  refine s_i2l (pc' := 42) w d30_41 rfl ?_
  refine s_lsub (pc' := 43) w d30_42 rfl ?_
  refine s_aloadN (pc' := 44) w d30_43 rfl rfl rfl ?_
  refine s_getL (pc' := 47) (host := "") w (Or.inl (t133 hw)) Via.refl (Lk.new (rS _)) (j := 6) rfl rfl d30_44 rfl ?_
  intro T w
  refine s_iloadN (pc' := 48) w d30_47 rfl rfl ?_
  refine s_iaload (pc' := 49) (v := (.int x0)) w (Lk.new (rX _)) d30_48 (by decide) rfl rfl ?_
  refine s_lshl (pc' := 50) w d30_49 rfl ?_
  refine s_lor (pc' := 51) w d30_50 rfl ?_
  refine s_lastore (pc' := 52) (k := kK) w (rK _) d30_51 (by decide) (leB rfl) rfl ?_
  intro T w
  rw [List.set_set] at w
  replace w : St p l e _ s m _ below meth c Z _ _ _ _ h0 n0 T (Ls.set kK (aJ ([.long ((0 : Int64) ||| (dS s0 l0 x0))]))) 0 0 := w
  refine s_iinc (pc' := 55) (ls' := #[vR (n0 + kS), vR sa, vI ((0 : Int32) + (1 : Int32))]) (1 : Int32) w d30_52 (by decide) rfl rfl rfl ?_
  rw [show (0 : Int32) + 1 = 1 by decide]
  refine s_goto (pc' := 10) w d30_55 (by decide) (by decide) ?_
  refine s_iloadN (pc' := 11) w d30_10 rfl rfl ?_
  refine s_aloadN (pc' := 12) w d30_11 rfl rfl rfl ?_
  refine s_getL (pc' := 15) (host := "") w (Or.inl (t129 hw)) Via.refl (Lk.new (rS _)) (j := 4) rfl rfl d30_12 rfl ?_
  intro T w
  refine s_arraylength (pc' := 16) (3 : Int32) w (Lk.new (rL _)) d30_15 rfl rfl ?_
  refine s_icmpN (pc' := 19) w d30_16 (Jvm.Free.XT.ii_ge_f (by decide)) rfl ?_
  refine s_aloadN (pc' := 20) w d30_19 rfl rfl rfl ?_
  refine s_getL (pc' := 23) (host := "") w (Or.inl (t181 hw)) Via.refl (Lk.new (rS _)) (j := 9) rfl rfl d30_20 rfl ?_
  intro T w
  refine s_aloadN (pc' := 24) w d30_23 rfl rfl rfl ?_
  refine s_getL (pc' := 27) (host := "") w (Or.inl (t131 hw)) Via.refl (Lk.new (rS _)) (j := 5) rfl rfl d30_24 rfl ?_
  intro T w
  refine s_iloadN (pc' := 28) w d30_27 rfl rfl ?_
  refine s_iaload (pc' := 29) (v := (.int (0 : Int32))) w (Lk.new (rW _)) d30_28 (by decide) rfl rfl ?_
  refine s_dup2 (pc' := 30) w d30_29 rfl rfl rfl ?_
  refine s_laload (pc' := 31) (v := (.long ((0 : Int64) ||| (dS s0 l0 x0)))) w (Lk.new (rK _)) d30_30 (by decide) rfl rfl ?_
  refine s_aloadN (pc' := 32) w d30_31 rfl rfl rfl ?_
  refine s_iloadN (pc' := 33) w d30_32 rfl rfl ?_
  refine s_iaload (pc' := 34) (v := (.int s1)) w (rA _) d30_33 (by decide) rfl rfl ?_
  refine s_i2l (pc' := 35) w d30_34 rfl ?_
  refine s_aloadN (pc' := 36) w d30_35 rfl rfl rfl ?_
  refine s_getL (pc' := 39) (host := "") w (Or.inl (t129 hw)) Via.refl (Lk.new (rS _)) (j := 4) rfl rfl d30_36 rfl ?_
  intro T w
  refine s_iloadN (pc' := 40) w d30_39 rfl rfl ?_
  refine s_iaload (pc' := 41) (v := (.int l1)) w (Lk.new (rL _)) d30_40 (by decide) rfl rfl ?_
  refine s_i2l (pc' := 42) w d30_41 rfl ?_
  refine s_lsub (pc' := 43) w d30_42 rfl ?_
  refine s_aloadN (pc' := 44) w d30_43 rfl rfl rfl ?_
  refine s_getL (pc' := 47) (host := "") w (Or.inl (t133 hw)) Via.refl (Lk.new (rS _)) (j := 6) rfl rfl d30_44 rfl ?_
  intro T w
  refine s_iloadN (pc' := 48) w d30_47 rfl rfl ?_
  refine s_iaload (pc' := 49) (v := (.int x1)) w (Lk.new (rX _)) d30_48 (by decide) rfl rfl ?_
  refine s_lshl (pc' := 50) w d30_49 rfl ?_
  refine s_lor (pc' := 51) w d30_50 rfl ?_
  refine s_lastore (pc' := 52) (k := kK) w (rK _) d30_51 (by decide) (leB rfl) rfl ?_
  intro T w
  rw [List.set_set] at w
  replace w : St p l e _ s m _ below meth c Z _ _ _ _ h0 n0 T (Ls.set kK (aJ ([.long (((0 : Int64) ||| (dS s0 l0 x0)) ||| (dS s1 l1 x1))]))) 0 0 := w
  refine s_iinc (pc' := 55) (ls' := #[vR (n0 + kS), vR sa, vI ((1 : Int32) + (1 : Int32))]) (1 : Int32) w d30_52 (by decide) rfl rfl rfl ?_
  rw [show (1 : Int32) + 1 = 2 by decide]
  refine s_goto (pc' := 10) w d30_55 (by decide) (by decide) ?_
  refine s_iloadN (pc' := 11) w d30_10 rfl rfl ?_
  refine s_aloadN (pc' := 12) w d30_11 rfl rfl rfl ?_
  refine s_getL (pc' := 15) (host := "") w (Or.inl (t129 hw)) Via.refl (Lk.new (rS _)) (j := 4) rfl rfl d30_12 rfl ?_
  intro T w
  refine s_arraylength (pc' := 16) (3 : Int32) w (Lk.new (rL _)) d30_15 rfl rfl ?_
  refine s_icmpN (pc' := 19) w d30_16 (Jvm.Free.XT.ii_ge_f (by decide)) rfl ?_
  refine s_aloadN (pc' := 20) w d30_19 rfl rfl rfl ?_
  refine s_getL (pc' := 23) (host := "") w (Or.inl (t181 hw)) Via.refl (Lk.new (rS _)) (j := 9) rfl rfl d30_20 rfl ?_
  intro T w
  refine s_aloadN (pc' := 24) w d30_23 rfl rfl rfl ?_
  refine s_getL (pc' := 27) (host := "") w (Or.inl (t131 hw)) Via.refl (Lk.new (rS _)) (j := 5) rfl rfl d30_24 rfl ?_
  intro T w
  refine s_iloadN (pc' := 28) w d30_27 rfl rfl ?_
  refine s_iaload (pc' := 29) (v := (.int (0 : Int32))) w (Lk.new (rW _)) d30_28 (by decide) rfl rfl ?_
  refine s_dup2 (pc' := 30) w d30_29 rfl rfl rfl ?_
  refine s_laload (pc' := 31) (v := (.long (((0 : Int64) ||| (dS s0 l0 x0)) ||| (dS s1 l1 x1)))) w (Lk.new (rK _)) d30_30 (by decide) rfl rfl ?_
  refine s_aloadN (pc' := 32) w d30_31 rfl rfl rfl ?_
  refine s_iloadN (pc' := 33) w d30_32 rfl rfl ?_
  refine s_iaload (pc' := 34) (v := (.int s2)) w (rA _) d30_33 (by decide) rfl rfl ?_
  refine s_i2l (pc' := 35) w d30_34 rfl ?_
  refine s_aloadN (pc' := 36) w d30_35 rfl rfl rfl ?_
  refine s_getL (pc' := 39) (host := "") w (Or.inl (t129 hw)) Via.refl (Lk.new (rS _)) (j := 4) rfl rfl d30_36 rfl ?_
  intro T w
  refine s_iloadN (pc' := 40) w d30_39 rfl rfl ?_
  refine s_iaload (pc' := 41) (v := (.int l2)) w (Lk.new (rL _)) d30_40 (by decide) rfl rfl ?_
  refine s_i2l (pc' := 42) w d30_41 rfl ?_
  refine s_lsub (pc' := 43) w d30_42 rfl ?_
  refine s_aloadN (pc' := 44) w d30_43 rfl rfl rfl ?_
  refine s_getL (pc' := 47) (host := "") w (Or.inl (t133 hw)) Via.refl (Lk.new (rS _)) (j := 6) rfl rfl d30_44 rfl ?_
  intro T w
  refine s_iloadN (pc' := 48) w d30_47 rfl rfl ?_
  refine s_iaload (pc' := 49) (v := (.int x2)) w (Lk.new (rX _)) d30_48 (by decide) rfl rfl ?_
  refine s_lshl (pc' := 50) w d30_49 rfl ?_
  refine s_lor (pc' := 51) w d30_50 rfl ?_
  refine s_lastore (pc' := 52) (k := kK) w (rK _) d30_51 (by decide) (leB rfl) rfl ?_
  intro T w
  rw [List.set_set] at w
  replace w : St p l e _ s m _ below meth c Z _ _ _ _ h0 n0 T (Ls.set kK (aJ ([.long ((((0 : Int64) ||| (dS s0 l0 x0)) ||| (dS s1 l1 x1)) ||| (dS s2 l2 x2))]))) 0 0 := w
  refine s_iinc (pc' := 55) (ls' := #[vR (n0 + kS), vR sa, vI ((2 : Int32) + (1 : Int32))]) (1 : Int32) w d30_52 (by decide) rfl rfl rfl ?_
  rw [show (2 : Int32) + 1 = 3 by decide]
  refine s_goto (pc' := 10) w d30_55 (by decide) (by decide) ?_
  refine s_iloadN (pc' := 11) w d30_10 rfl rfl ?_
  refine s_aloadN (pc' := 12) w d30_11 rfl rfl rfl ?_
  refine s_getL (pc' := 15) (host := "") w (Or.inl (t129 hw)) Via.refl (Lk.new (rS _)) (j := 4) rfl rfl d30_12 rfl ?_
  intro T w
  refine s_arraylength (pc' := 16) (3 : Int32) w (Lk.new (rL _)) d30_15 rfl rfl ?_
  refine s_icmpY (pc' := 58) w d30_16 (Jvm.Free.XT.ii_ge_t (by decide)) (by decide) (by decide) ?_
  exact s_return w d30_58 (by decide) (by decide) ⟨rfl, rfl⟩
set_option maxRecDepth 65536 in
set_option maxHeartbeats 40000000 in
theorem c_entry1 {Z : State} {a0 : Array Value} (hw : Tw Z a0) (l : Launch) (h0 : Heap) (n0 : Nat) (kS kP kT kH kL kW kX kM kK : Nat) (sz : Int32) (e' hh : Int32) (Ls : List Ob) (pS : Ls[kS]? = some (sOb n0 kP kT kH kL kW kX kM 1 kK sz)) :
    Met1 l Z (⟨"com/example/ryazan/ryazan/statespace/StateStore", "entry", "(II)I"⟩ : MethodName) prog_197_method_19_code 3 (some .int) ({ frames := 0, cells := 0, slots := 0, locals := 0 } : Room) #[(.ref (n0 + kS)), (.int e'), (.int hh)] h0 n0 Ls (fun v L => v = some (.int (entF e' hh)) ∧ L = Ls) [] := by
  refine Met1.of (ls := #[vR (n0 + kS), vI e', vI hh]) (plainFor_of_name pn10) (fun m => by first | (simp [entryFrame, mkF, argsToLocals, Value.category]; done) | rfl) ?_
  intro p e s m below meth c T w
  refine s_iloadN (pc' := 1) w d38_0 rfl rfl ?_
  refine s_aloadN (pc' := 2) w d38_1 rfl rfl rfl ?_
  refine s_getL (pc' := 5) (host := "") w (Or.inl (t103 hw)) Via.refl (Lk.new pS) (j := 1) rfl rfl d38_2 rfl ?_
  intro T w
  refine s_iushr (pc' := 6) w d38_5 rfl ?_
  refine s_aloadN (pc' := 7) w d38_6 rfl rfl rfl ?_
  refine s_getL (pc' := 10) (host := "") w (Or.inl (t103 hw)) Via.refl (Lk.new pS) (j := 1) rfl rfl d38_7 rfl ?_
  intro T w
  refine s_iconst (pc' := 11) (1 : Int32) w d38_10 (by decide) rfl ?_
  refine s_isub (pc' := 12) w d38_11 rfl ?_
  refine s_ishl (pc' := 13) w d38_12 rfl ?_
  refine s_iloadN (pc' := 14) w d38_13 rfl rfl ?_
  refine s_ior (pc' := 15) w d38_14 rfl ?_
  exact s_ireturn w d38_15 (by decide) (by decide) ⟨rfl, rfl⟩
set_option maxRecDepth 65536 in
set_option maxHeartbeats 40000000 in
theorem c_num1 {Z : State} {a0 : Array Value} (hw : Tw Z a0) (l : Launch) (h0 : Heap) (n0 : Nat) (kS kP kT kH kL kW kX kM kK : Nat) (sz : Int32) (e' : Int32) (Ls : List Ob) (pS : Ls[kS]? = some (sOb n0 kP kT kH kL kW kX kM 1 kK sz)) :
    Met1 l Z (⟨"com/example/ryazan/ryazan/statespace/StateStore", "number", "(I)I"⟩ : MethodName) prog_197_method_21_code 2 (some .int) ({ frames := 0, cells := 0, slots := 0, locals := 0 } : Room) #[(.ref (n0 + kS)), (.int e')] h0 n0 Ls (fun v L => v = some (.int (numF e')) ∧ L = Ls) [] := by
  refine Met1.of (ls := #[vR (n0 + kS), vI e']) (plainFor_of_name pn10) (fun m => by first | (simp [entryFrame, mkF, argsToLocals, Value.category]; done) | rfl) ?_
  intro p e s m below meth c T w
  refine s_iloadN (pc' := 1) w d43_0 rfl rfl ?_
  refine s_iconst (pc' := 2) (1 : Int32) w d43_1 (by decide) rfl ?_
  refine s_aloadN (pc' := 3) w d43_2 rfl rfl rfl ?_
  refine s_getL (pc' := 6) (host := "") w (Or.inl (t103 hw)) Via.refl (Lk.new pS) (j := 1) rfl rfl d43_3 rfl ?_
  intro T w
  refine s_iconst (pc' := 7) (1 : Int32) w d43_6 (by decide) rfl ?_
  refine s_isub (pc' := 8) w d43_7 rfl ?_
  refine s_ishl (pc' := 9) w d43_8 rfl ?_
  refine s_iconst (pc' := 10) (1 : Int32) w d43_9 (by decide) rfl ?_
  refine s_isub (pc' := 11) w d43_10 rfl ?_
  refine s_iand (pc' := 12) w d43_11 rfl ?_
  exact s_ireturn w d43_12 (by decide) (by decide) ⟨rfl, rfl⟩
set_option maxRecDepth 65536 in
set_option maxHeartbeats 40000000 in
theorem c_shares1 {Z : State} {a0 : Array Value} (hw : Tw Z a0) (l : Launch) (h0 : Heap) (n0 : Nat) (kS kP kT kH kL kW kX kM kK : Nat) (sz : Int32) (e' hh : Int32) (Ls : List Ob) (pS : Ls[kS]? = some (sOb n0 kP kT kH kL kW kX kM 1 kK sz)) :
    Met1 l Z (⟨"com/example/ryazan/ryazan/statespace/StateStore", "sharesHash", "(II)Z"⟩ : MethodName) prog_197_method_20_code 3 (some .boolean) ({ frames := 0, cells := 0, slots := 0, locals := 0 } : Room) #[(.ref (n0 + kS)), (.int e'), (.int hh)] h0 n0 Ls (fun v L => v = some (.int (if Jvm.Free.XT.ushr e' ((10 : Int32) - (1 : Int32)) = Jvm.Free.XT.ushr hh (10 : Int32) then 1 else 0)) ∧ L = Ls) [] := by
  refine Met1.of (ls := #[vR (n0 + kS), vI e', vI hh]) (plainFor_of_name pn10) (fun m => by first | (simp [entryFrame, mkF, argsToLocals, Value.category]; done) | rfl) ?_
  intro p e s m below meth c T w
  refine s_iloadN (pc' := 1) w d42_0 rfl rfl ?_
  refine s_aloadN (pc' := 2) w d42_1 rfl rfl rfl ?_
  refine s_getL (pc' := 5) (host := "") w (Or.inl (t103 hw)) Via.refl (Lk.new pS) (j := 1) rfl rfl d42_2 rfl ?_
  intro T w
  refine s_iconst (pc' := 6) (1 : Int32) w d42_5 (by decide) rfl ?_
  refine s_isub (pc' := 7) w d42_6 rfl ?_
  refine s_iushr (pc' := 8) w d42_7 rfl ?_
  refine s_iloadN (pc' := 9) w d42_8 rfl rfl ?_
  refine s_aloadN (pc' := 10) w d42_9 rfl rfl rfl ?_
  refine s_getL (pc' := 13) (host := "") w (Or.inl (t103 hw)) Via.refl (Lk.new pS) (j := 1) rfl rfl d42_10 rfl ?_
  intro T w
  refine s_iushr (pc' := 14) w d42_13 rfl ?_
  refine Go.via (T' := T) (g' := (mkF m 22 #[vR (n0 + kS), vI e', vI hh] [(.int (if Jvm.Free.XT.ushr e' ((10 : Int32) - (1 : Int32)) = Jvm.Free.XT.ushr hh (10 : Int32) then (1 : Int32) else (0 : Int32)))])) ?_ ?_
  · intro K
    by_cases h : Jvm.Free.XT.ushr e' ((10 : Int32) - (1 : Int32)) = Jvm.Free.XT.ushr hh (10 : Int32)
    · refine s_icmpN (pc' := 17) w d42_14 (Jvm.Free.XT.ii_ne_f h) rfl ?_
      refine s_iconst (pc' := 18) (1 : Int32) w d42_17 (by decide) rfl ?_
      refine s_goto (pc' := 22) w d42_18 (by decide) (by decide) ?_
      exact Go.cast (by rw [if_pos h]) K
    · refine s_icmpY (pc' := 21) w d42_14 (Jvm.Free.XT.ii_ne_t h) (by decide) (by decide) ?_
      refine s_iconst (pc' := 22) (0 : Int32) w d42_21 (by decide) rfl ?_
      exact Go.cast (by rw [if_neg h]) K
  exact s_zreturn (by split <;> rfl) w d42_22 (by decide) (by decide) ⟨rfl, rfl⟩
set_option maxRecDepth 65536 in
set_option maxHeartbeats 40000000 in
theorem c_holds1 {Z : State} {a0 : Array Value} (hw : Tw Z a0) (l : Launch) (h0 : Heap) (n0 : Nat) (kS kP kT kH kL kW kX kM kK : Nat) (sz : Int32) (e' hh : Int32) (b : Addr) (pk fv : List Value) (p0 k0 : Int64) (Ls : List Ob) (pS : Ls[kS]? = some (sOb n0 kP kT kH kL kW kX kM 1 kK sz)) (he : numF e' = 0) (pP : Ls[kP]? = some (aJ (pk))) (qf : Lk Z h0 n0 Ls b (aJ (fv))) (hp0 : pk[0]? = some (.long p0)) (hk0 : fv[0]? = some (.long k0)) :
    Met1 l Z (⟨"com/example/ryazan/ryazan/statespace/StateStore", "holds", "(II[JI)Z"⟩ : MethodName) prog_197_method_18_code 7 (some .boolean) ({ frames := 1, cells := 0, slots := 0, locals := 14 } : Room) #[(.ref (n0 + kS)), (.int e'), (.int hh), (.ref b), (.int (0 : Int32))] h0 n0 Ls (fun v L => v = some (.int (if (Jvm.Free.XT.ushr e' ((10 : Int32) - (1 : Int32)) = Jvm.Free.XT.ushr hh (10 : Int32) ∧ p0 = k0) then 1 else 0)) ∧ L = Ls) [] := by
  refine Met1.of (ls := #[vR (n0 + kS), vI e', vI hh, vR b, vI (0 : Int32), un, un]) (plainFor_of_name pn10) (fun m => by first | (simp [entryFrame, mkF, argsToLocals, Value.category]; done) | rfl) ?_
  intro p e s m below meth c T w
  refine s_aloadN (pc' := 1) w d41_0 rfl rfl rfl ?_
  refine s_iloadN (pc' := 2) w d41_1 rfl rfl ?_
  refine s_iloadN (pc' := 3) w d41_2 rfl rfl ?_
  refine s_private (pc' := 6) (rest := []) 0 [(.int e'), (.int hh)] w (c_shares1 hw l h0 n0 kS kP kT kH kL kW kX kM kK sz e' hh Ls pS) (Lk.new pS) (t253 hw) (t254 hw) (t189 hw) rfl (t255 hw) (t95 hw) (t256 hw) (by decide) pd13 d41_3 (by decide) rfl rfl rfl rfl (Nat.le_of_eq rfl) rfl ?_
  intro T v L' hQ w
  obtain ⟨rfl, hL⟩ := hQ
  replace hL := hL.symm
  subst hL
  dsimp only [oS, oN, cA, nA]
  by_cases h : Jvm.Free.XT.ushr e' ((10 : Int32) - (1 : Int32)) = Jvm.Free.XT.ushr hh (10 : Int32)
  · rw [if_pos h]
    refine s_ifY (pc' := 11) w d41_6 (Jvm.Free.XT.i0_ne_t (by decide)) (by decide) (by decide) ?_
    refine s_aloadN (pc' := 12) w d41_11 rfl rfl rfl ?_
    refine s_iloadN (pc' := 13) w d41_12 rfl rfl ?_
    refine s_private (pc' := 16) (rest := []) 0 [(.int e')] w (c_num1 hw l h0 n0 kS kP kT kH kL kW kX kM kK sz e' Ls pS) (Lk.new pS) (t257 hw) (t258 hw) (t189 hw) rfl (t259 hw) (t95 hw) (t260 hw) (by decide) pd7 d41_13 (by decide) rfl rfl rfl rfl (Nat.le_of_eq rfl) rfl ?_
    intro T v L' hQ w
    obtain ⟨rfl, hL⟩ := hQ
    replace hL := hL.symm
    subst hL
    dsimp only [oS, oN, cA, nA]
    rw [he]
    refine s_aloadN (pc' := 17) w d41_16 rfl rfl rfl ?_
    refine s_getL (pc' := 20) (host := "") w (Or.inl (t179 hw)) Via.refl (Lk.new pS) (j := 8) rfl rfl d41_17 rfl ?_
    intro T w
    refine s_imul (pc' := 21) w d41_20 rfl ?_
    rw [show (0 : Int32) * 1 = 0 by decide]
    refine s_istore (pc' := 23) (ls' := #[vR (n0 + kS), vI e', vI hh, vR b, vI (0 : Int32), vI (0 : Int32), un]) w d41_21 rfl rfl ?_
    refine s_iconst (pc' := 24) (0 : Int32) w d41_23 (by decide) rfl ?_
    refine s_istore (pc' := 26) (ls' := #[vR (n0 + kS), vI e', vI hh, vR b, vI (0 : Int32), vI (0 : Int32), vI (0 : Int32)]) w d41_24 rfl rfl ?_
    refine s_iload (pc' := 28) w d41_26 rfl rfl ?_
    refine s_aloadN (pc' := 29) w d41_28 rfl rfl rfl ?_
    refine s_getL (pc' := 32) (host := "") w (Or.inl (t179 hw)) Via.refl (Lk.new pS) (j := 8) rfl rfl d41_29 rfl ?_
    intro T w
    refine s_icmpN (pc' := 35) w d41_32 (Jvm.Free.XT.ii_ge_f (by decide)) rfl ?_
    refine s_aloadN (pc' := 36) w d41_35 rfl rfl rfl ?_
    refine s_getL (pc' := 39) (host := "") w (Or.inl (t101 hw)) Via.refl (Lk.new pS) (j := 0) rfl rfl d41_36 rfl ?_
    intro T w
    refine s_iload (pc' := 41) w d41_39 rfl rfl ?_
    refine s_iload (pc' := 43) w d41_41 rfl rfl ?_
    refine s_iadd (pc' := 44) w d41_43 rfl ?_
    refine s_laload (pc' := 45) (v := (.long p0)) w (Lk.new pP) d41_44 (by decide) hp0 rfl ?_
    refine s_aloadN (pc' := 46) w d41_45 rfl rfl rfl ?_
    refine s_iload (pc' := 48) w d41_46 rfl rfl ?_
    refine s_iload (pc' := 50) w d41_48 rfl rfl ?_
    refine s_iadd (pc' := 51) w d41_50 rfl ?_
    refine s_laload (pc' := 52) (v := (.long k0)) w qf d41_51 (by decide) hk0 rfl ?_
    refine s_lcmp (pc' := 53) w d41_52 rfl ?_
    by_cases g0 : p0 = k0
    · refine s_ifY (pc' := 58) w d41_53 (Jvm.Free.XT.ll_eq_t g0) (by decide) (by decide) ?_
      refine s_iinc (pc' := 61) (ls' := #[vR (n0 + kS), vI e', vI hh, vR b, vI (0 : Int32), vI (0 : Int32), vI ((0 : Int32) + (1 : Int32))]) (1 : Int32) w d41_58 (by decide) rfl rfl rfl ?_
      rw [show (0 : Int32) + 1 = 1 by decide]
      refine s_goto (pc' := 26) w d41_61 (by decide) (by decide) ?_
      refine s_iload (pc' := 28) w d41_26 rfl rfl ?_
      refine s_aloadN (pc' := 29) w d41_28 rfl rfl rfl ?_
      refine s_getL (pc' := 32) (host := "") w (Or.inl (t179 hw)) Via.refl (Lk.new pS) (j := 8) rfl rfl d41_29 rfl ?_
      intro T w
      refine s_icmpY (pc' := 64) w d41_32 (Jvm.Free.XT.ii_ge_t (by decide)) (by decide) (by decide) ?_
      refine s_iconst (pc' := 65) (1 : Int32) w d41_64 (by decide) rfl ?_
      exact s_zreturn rfl w d41_65 (by decide) (by decide) ⟨by rw [if_pos ⟨h, g0⟩], rfl⟩
    · refine s_ifN (pc' := 56) w d41_53 (Jvm.Free.XT.ll_eq_f g0) rfl ?_
      refine s_iconst (pc' := 57) (0 : Int32) w d41_56 (by decide) rfl ?_
      exact s_zreturn rfl w d41_57 (by decide) (by decide) ⟨by rw [if_neg (fun z => g0 z.2)], rfl⟩
  · rw [if_neg h]
    refine s_ifN (pc' := 9) w d41_6 (Jvm.Free.XT.i0_ne_f rfl) rfl ?_
    refine s_iconst (pc' := 10) (0 : Int32) w d41_9 (by decide) rfl ?_
    exact s_zreturn rfl w d41_10 (by decide) (by decide) ⟨by rw [if_neg (fun z => h z.1)], rfl⟩
set_option maxRecDepth 65536 in
set_option maxHeartbeats 40000000 in
theorem c_slotE1 {Z : State} {a0 : Array Value} (hw : Tw Z a0) (l : Launch) (h0 : Heap) (n0 : Nat) (kS kP kT kH kL kW kX kM kK : Nat) (sz : Int32) (b : Addr) (hh : Int32) (Ls : List Ob) (pS : Ls[kS]? = some (sOb n0 kP kT kH kL kW kX kM 1 kK sz)) (pT : Ls[kT]? = some (aI (List.replicate 1024 (Value.int (-1))))) :
    Met1 l Z (⟨"com/example/ryazan/ryazan/statespace/StateStore", "slot", "([JII)I"⟩ : MethodName) prog_197_method_17_code 6 (some .int) ({ frames := 0, cells := 0, slots := 0, locals := 0 } : Room) #[(.ref (n0 + kS)), (.ref b), (.int (0 : Int32)), (.int hh)] h0 n0 Ls (fun v L => v = some (.int (hh &&& 1023)) ∧ L = Ls) [] := by
  refine Met1.of (ls := #[vR (n0 + kS), vR b, vI (0 : Int32), vI hh, un, un]) (plainFor_of_name pn10) (fun m => by first | (simp [entryFrame, mkF, argsToLocals, Value.category]; done) | rfl) ?_
  intro p e s m below meth c T w
  refine s_aloadN (pc' := 1) w d34_0 rfl rfl rfl ?_
  refine s_getL (pc' := 4) (host := "") w (Or.inl (t116 hw)) Via.refl (Lk.new pS) (j := 2) rfl rfl d34_1 rfl ?_
  intro T w
  refine s_arraylength (pc' := 5) (1024 : Int32) w (Lk.new pT) d34_4 (by rw [List.length_replicate]; decide) rfl ?_
  refine s_iconst (pc' := 6) (1 : Int32) w d34_5 (by decide) rfl ?_
  refine s_isub (pc' := 7) w d34_6 rfl ?_
  rw [show (1024 : Int32) - 1 = 1023 by decide]
  refine s_istore (pc' := 9) (ls' := #[vR (n0 + kS), vR b, vI (0 : Int32), vI hh, vI (1023 : Int32), un]) w d34_7 rfl rfl ?_
  refine s_iloadN (pc' := 10) w d34_9 rfl rfl ?_
  refine s_iload (pc' := 12) w d34_10 rfl rfl ?_
  refine s_iand (pc' := 13) w d34_12 rfl ?_
  refine s_istore (pc' := 15) (ls' := #[vR (n0 + kS), vR b, vI (0 : Int32), vI hh, vI (1023 : Int32), vI (hh &&& (1023 : Int32))]) w d34_13 rfl rfl ?_
  obtain ⟨t1, t2⟩ := tab_in hh
  refine s_aloadN (pc' := 16) w d34_15 rfl rfl rfl ?_
  refine s_getL (pc' := 19) (host := "") w (Or.inl (t116 hw)) Via.refl (Lk.new pS) (j := 2) rfl rfl d34_16 rfl ?_
  intro T w
  refine s_iload (pc' := 21) w d34_19 rfl rfl ?_
  refine s_iaload (pc' := 22) (v := (.int (-1 : Int32))) w (Lk.new pT) d34_21 t1 (List.getElem?_replicate_of_lt t2) rfl ?_
  refine s_iconst (pc' := 23) (-1 : Int32) w d34_22 (by decide) rfl ?_
  refine s_icmpY (pc' := 55) w d34_23 (Jvm.Free.XT.ii_eq_t rfl) (by decide) (by decide) ?_
  refine s_iload (pc' := 57) w d34_55 rfl rfl ?_
  exact s_ireturn w d34_57 (by decide) (by decide) ⟨rfl, rfl⟩
set_option maxRecDepth 65536 in
set_option maxHeartbeats 40000000 in
theorem c_slotF1 {Z : State} {a0 : Array Value} (hw : Tw Z a0) (l : Launch) (h0 : Heap) (n0 : Nat) (kS kP kT kH kL kW kX kM kK : Nat) (sz : Int32) (b : Addr) (h1 hh : Int32) (pk fv : List Value) (p0 k0 : Int64) (Ls : List Ob) (pS : Ls[kS]? = some (sOb n0 kP kT kH kL kW kX kM 1 kK sz)) (pT : Ls[kT]? = some (aI ((List.replicate 1024 (Value.int (-1))).set (h1 &&& (1023 : Int32)).toNatClampNeg (.int (entF 0 h1))))) (pP : Ls[kP]? = some (aJ (pk))) (qf : Lk Z h0 n0 Ls b (aJ (fv))) (hp0 : pk[0]? = some (.long p0)) (hk0 : fv[0]? = some (.long k0)) :
    Met1 l Z (⟨"com/example/ryazan/ryazan/statespace/StateStore", "slot", "([JII)I"⟩ : MethodName) prog_197_method_17_code 6 (some .int) ({ frames := 2, cells := 0, slots := 0, locals := 32 } : Room) #[(.ref (n0 + kS)), (.ref b), (.int (0 : Int32)), (.int hh)] h0 n0 Ls (fun v L => ∃ z : Int32, v = some (.int z) ∧ L = Ls ∧ ¬ z < 0 ∧ z.toNatClampNeg < 1024 ∧ ((z = h1 &&& 1023 ∧ (p0 = k0)) ∨ ((List.replicate 1024 (Value.int (-1))).set (h1 &&& (1023 : Int32)).toNatClampNeg (.int (entF 0 h1)))[z.toNatClampNeg]? = some (.int (-1)))) [] := by
  refine Met1.of (ls := #[vR (n0 + kS), vR b, vI (0 : Int32), vI hh, un, un]) (plainFor_of_name pn10) (fun m => by first | (simp [entryFrame, mkF, argsToLocals, Value.category]; done) | rfl) ?_
  intro p e s m below meth c T w
  refine s_aloadN (pc' := 1) w d34_0 rfl rfl rfl ?_
  refine s_getL (pc' := 4) (host := "") w (Or.inl (t116 hw)) Via.refl (Lk.new pS) (j := 2) rfl rfl d34_1 rfl ?_
  intro T w
  refine s_arraylength (pc' := 5) (1024 : Int32) w (Lk.new pT) d34_4 (by rw [List.length_set, List.length_replicate]; decide) rfl ?_
  refine s_iconst (pc' := 6) (1 : Int32) w d34_5 (by decide) rfl ?_
  refine s_isub (pc' := 7) w d34_6 rfl ?_
  rw [show (1024 : Int32) - 1 = 1023 by decide]
  refine s_istore (pc' := 9) (ls' := #[vR (n0 + kS), vR b, vI (0 : Int32), vI hh, vI (1023 : Int32), un]) w d34_7 rfl rfl ?_
  refine s_iloadN (pc' := 10) w d34_9 rfl rfl ?_
  refine s_iload (pc' := 12) w d34_10 rfl rfl ?_
  refine s_iand (pc' := 13) w d34_12 rfl ?_
  refine s_istore (pc' := 15) (ls' := #[vR (n0 + kS), vR b, vI (0 : Int32), vI hh, vI (1023 : Int32), vI (hh &&& (1023 : Int32))]) w d34_13 rfl rfl ?_
  obtain ⟨t1, t2⟩ := tab_in hh
  obtain ⟨f1, f2⟩ := tab_in h1
  refine s_aloadN (pc' := 16) w d34_15 rfl rfl rfl ?_
  refine s_getL (pc' := 19) (host := "") w (Or.inl (t116 hw)) Via.refl (Lk.new pS) (j := 2) rfl rfl d34_16 rfl ?_
  intro T w
  refine s_iload (pc' := 21) w d34_19 rfl rfl ?_
  by_cases hq : (hh &&& (1023 : Int32)) = (h1 &&& (1023 : Int32))
  · have hh2 := tab_hit (e := entF 0 h1) f2
    rw [hq]
    refine s_iaload (pc' := 22) (v := (.int (entF 0 h1))) w (Lk.new pT) d34_21 f1 hh2 rfl ?_
    refine s_iconst (pc' := 23) (-1 : Int32) w d34_22 (by decide) rfl ?_
    refine s_icmpN (pc' := 26) w d34_23 (Jvm.Free.XT.ii_eq_f (ent_ne h1)) rfl ?_
    refine s_aloadN (pc' := 27) w d34_26 rfl rfl rfl ?_
    refine s_aloadN (pc' := 28) w d34_27 rfl rfl rfl ?_
    refine s_getL (pc' := 31) (host := "") w (Or.inl (t116 hw)) Via.refl (Lk.new pS) (j := 2) rfl rfl d34_28 rfl ?_
    intro T w
    refine s_iload (pc' := 33) w d34_31 rfl rfl ?_
    refine s_iaload (pc' := 34) (v := (.int (entF 0 h1))) w (Lk.new pT) d34_33 f1 hh2 rfl ?_
    refine s_iloadN (pc' := 35) w d34_34 rfl rfl ?_
    refine s_aloadN (pc' := 36) w d34_35 rfl rfl rfl ?_
    refine s_iloadN (pc' := 37) w d34_36 rfl rfl ?_
    refine s_private (pc' := 40) (rest := []) 0 [(.int (entF 0 h1)), (.int hh), (.ref b), (.int (0 : Int32))] w (c_holds1 hw l h0 n0 kS kP kT kH kL kW kX kM kK sz (entF 0 h1) hh b pk fv p0 k0 Ls pS (ent_num h1) pP qf hp0 hk0) (Lk.new pS) (t249 hw) (t250 hw) (t189 hw) rfl (t251 hw) (t95 hw) (t252 hw) (by decide) pd14 d34_37 (by decide) rfl rfl rfl rfl (Nat.le_of_eq rfl) rfl ?_
    intro T v L' hQ w
    obtain ⟨rfl, hL⟩ := hQ
    replace hL := hL.symm
    subst hL
    dsimp only [oS, oN, cA, nA]
    by_cases hf : (Jvm.Free.XT.ushr (entF 0 h1) ((10 : Int32) - (1 : Int32)) = Jvm.Free.XT.ushr hh (10 : Int32) ∧ p0 = k0)
    · rw [if_pos hf]
      refine s_ifY (pc' := 55) w d34_40 (Jvm.Free.XT.i0_ne_t (by decide)) (by decide) (by decide) ?_
      refine s_iload (pc' := 57) w d34_55 rfl rfl ?_
      exact s_ireturn w d34_57 (by decide) (by decide) ⟨_, rfl, rfl, f1, f2, Or.inl ⟨rfl, hf.2⟩⟩
    · rw [if_neg hf]
      refine s_ifN (pc' := 43) w d34_40 (Jvm.Free.XT.i0_ne_f rfl) rfl ?_
      refine s_iload (pc' := 45) w d34_43 rfl rfl ?_
      refine s_iconst (pc' := 46) (1 : Int32) w d34_45 (by decide) rfl ?_
      refine s_iadd (pc' := 47) w d34_46 rfl ?_
      refine s_iload (pc' := 49) w d34_47 rfl rfl ?_
      refine s_iand (pc' := 50) w d34_49 rfl ?_
      refine s_istore (pc' := 52) (ls' := #[vR (n0 + kS), vR b, vI (0 : Int32), vI hh, vI (1023 : Int32), vI (((h1 &&& (1023 : Int32)) + (1 : Int32)) &&& (1023 : Int32))]) w d34_50 rfl rfl ?_
      refine s_goto (pc' := 15) w d34_52 (by decide) (by decide) ?_
      obtain ⟨v1, v2⟩ := tab_in ((h1 &&& (1023 : Int32)) + (1 : Int32))
      have hm := tab_miss (e := entF 0 h1) v1 f1 v2 (tab_next h1)
      refine s_aloadN (pc' := 16) w d34_15 rfl rfl rfl ?_
      refine s_getL (pc' := 19) (host := "") w (Or.inl (t116 hw)) Via.refl (Lk.new pS) (j := 2) rfl rfl d34_16 rfl ?_
      intro T w
      refine s_iload (pc' := 21) w d34_19 rfl rfl ?_
      refine s_iaload (pc' := 22) (v := (.int (-1 : Int32))) w (Lk.new pT) d34_21 v1 hm rfl ?_
      refine s_iconst (pc' := 23) (-1 : Int32) w d34_22 (by decide) rfl ?_
      refine s_icmpY (pc' := 55) w d34_23 (Jvm.Free.XT.ii_eq_t rfl) (by decide) (by decide) ?_
      refine s_iload (pc' := 57) w d34_55 rfl rfl ?_
      exact s_ireturn w d34_57 (by decide) (by decide) ⟨_, rfl, rfl, v1, v2, Or.inr hm⟩
  · have hm := tab_miss (e := entF 0 h1) t1 f1 t2 hq
    refine s_iaload (pc' := 22) (v := (.int (-1 : Int32))) w (Lk.new pT) d34_21 t1 hm rfl ?_
    refine s_iconst (pc' := 23) (-1 : Int32) w d34_22 (by decide) rfl ?_
    refine s_icmpY (pc' := 55) w d34_23 (Jvm.Free.XT.ii_eq_t rfl) (by decide) (by decide) ?_
    refine s_iload (pc' := 57) w d34_55 rfl rfl ?_
    exact s_ireturn w d34_57 (by decide) (by decide) ⟨_, rfl, rfl, t1, t2, Or.inr hm⟩
set_option maxRecDepth 65536 in
set_option maxHeartbeats 40000000 in
theorem c_addE1 {Z : State} {a0 : Array Value} (hw : Tw Z a0) (l : Launch) (h0 : Heap) (n0 : Nat) (kS kP kT kH kL kW kX kM kK : Nat) (hh : Int32) (k0 : Int64) (Ls : List Ob) (pS : Ls[kS]? = some (sOb n0 kP kT kH kL kW kX kM 1 kK 0)) (pT : Ls[kT]? = some (aI (List.replicate 1024 (Value.int (-1))))) (pP : Ls[kP]? = some (aJ ([]))) (pK : Ls[kK]? = some (aJ ([.long k0]))) (neT : kT ≠ kS) (neK : kS ≠ kK) (neTK : kT ≠ kK) :
    Met1 l Z (⟨"com/example/ryazan/ryazan/statespace/StateStore", "add", "([JII)I"⟩ : MethodName) prog_197_method_16_code 7 (some .int) ({ frames := 3, cells := 1, slots := 1024, locals := 49 } : Room) #[(.ref (n0 + kS)), (.ref (n0 + kK)), (.int (0 : Int32)), (.int hh)] h0 n0 Ls (fun v L => v = some (.int 0) ∧ L = ((Ls.set kT (aI ((List.replicate 1024 (Value.int (-1))).set (hh &&& (1023 : Int32)).toNatClampNeg (.int (entF 0 hh))))).set kS (sOb n0 Ls.length kT kH kL kW kX kM 1 kK 1) ++ [aJ ([.long k0] ++ List.replicate 1023 (.long 0))])) [] := by
  refine Met1.of (ls := #[vR (n0 + kS), vR (n0 + kK), vI (0 : Int32), vI hh, un, un, un]) (plainFor_of_name pn10) (fun m => by first | (simp [entryFrame, mkF, argsToLocals, Value.category]; done) | rfl) ?_
  intro p e s m below meth c T w
  refine s_aloadN (pc' := 1) w d33_0 rfl rfl rfl ?_
  refine s_aloadN (pc' := 2) w d33_1 rfl rfl rfl ?_
  refine s_iloadN (pc' := 3) w d33_2 rfl rfl ?_
  refine s_iloadN (pc' := 4) w d33_3 rfl rfl ?_
  refine s_private (pc' := 7) (rest := []) 0 [(.ref (n0 + kK)), (.int (0 : Int32)), (.int hh)] w (c_slotE1 hw l h0 n0 kS kP kT kH kL kW kX kM kK 0 (n0 + kK) hh Ls pS pT) (Lk.new pS) (t213 hw) (t214 hw) (t189 hw) rfl (t215 hw) (t95 hw) (t216 hw) (by decide) pd15 d33_4 (by decide) rfl rfl rfl rfl (Nat.le_of_eq rfl) rfl ?_
  intro T v L' hQ w
  obtain ⟨rfl, hL⟩ := hQ
  replace hL := hL.symm
  subst hL
  dsimp only [oS, oN, cA, nA]
  obtain ⟨t1, t2⟩ := tab_in hh
  refine s_istore (pc' := 9) (ls' := #[vR (n0 + kS), vR (n0 + kK), vI (0 : Int32), vI hh, vI (hh &&& (1023 : Int32)), un, un]) w d33_7 rfl rfl ?_
  refine s_aloadN (pc' := 10) w d33_9 rfl rfl rfl ?_
  refine s_getL (pc' := 13) (host := "") w (Or.inl (t116 hw)) Via.refl (Lk.new pS) (j := 2) rfl rfl d33_10 rfl ?_
  intro T w
  refine s_iload (pc' := 15) w d33_13 rfl rfl ?_
  refine s_iaload (pc' := 16) (v := (.int (-1 : Int32))) w (Lk.new pT) d33_15 t1 (List.getElem?_replicate_of_lt t2) rfl ?_
  refine s_iconst (pc' := 17) (-1 : Int32) w d33_16 (by decide) rfl ?_
  refine s_icmpY (pc' := 32) w d33_17 (Jvm.Free.XT.ii_eq_t rfl) (by decide) (by decide) ?_
  refine s_aloadN (pc' := 33) w d33_32 rfl rfl rfl ?_
  refine s_getL (pc' := 36) (host := "") w (Or.inl (t217 hw)) Via.refl (Lk.new pS) (j := 10) rfl rfl d33_33 rfl ?_
  intro T w
  refine s_iconst (pc' := 37) (1 : Int32) w d33_36 (by decide) rfl ?_
  refine s_iadd (pc' := 38) w d33_37 rfl ?_
  refine s_aloadN (pc' := 39) w d33_38 rfl rfl rfl ?_
  rw [show (0 : Int32) + 1 = 1 by decide]
  refine s_getL (pc' := 42) (host := "") w (Or.inl (t179 hw)) Via.refl (Lk.new pS) (j := 8) rfl rfl d33_39 rfl ?_
  intro T w
  refine s_static (pc' := 45) (rest := []) 0 [(.int (1 : Int32)), (.int (1 : Int32))] w (c_mule hw l h0 n0 1 1 Ls (by decide)) (t219 hw) (t220 hw) (t88 hw) (t221 hw) (by decide) pd1 d33_42 (by decide) rfl rfl rfl rfl (Nat.le_of_eq rfl) rfl ?_
  intro T v L' hQ w
  obtain ⟨rfl, hL⟩ := hQ
  replace hL := hL.symm
  subst hL
  dsimp only [oS, oN, cA, nA]
  rw [show ((1 : Int32).toInt64 * (1 : Int32).toInt64).toInt32 = 1 by decide]
  refine s_istore (pc' := 47) (ls' := #[vR (n0 + kS), vR (n0 + kK), vI (0 : Int32), vI hh, vI (hh &&& (1023 : Int32)), vI (1 : Int32), un]) w d33_45 rfl rfl ?_
  refine s_iload (pc' := 49) w d33_47 rfl rfl ?_
  refine s_aloadN (pc' := 50) w d33_49 rfl rfl rfl ?_
  refine s_getL (pc' := 53) (host := "") w (Or.inl (t101 hw)) Via.refl (Lk.new pS) (j := 0) rfl rfl d33_50 rfl ?_
  intro T w
  refine s_arraylength (pc' := 54) (0 : Int32) w (Lk.new pP) d33_53 rfl rfl ?_
  refine s_icmpN (pc' := 57) w d33_54 (Jvm.Free.XT.ii_le_f (by decide)) rfl ?_
  refine s_sipush (pc' := 60) (1024 : Int32) w d33_57 (by decide) rfl ?_
  refine s_aloadN (pc' := 61) w d33_60 rfl rfl rfl ?_
  refine s_getL (pc' := 64) (host := "") w (Or.inl (t101 hw)) Via.refl (Lk.new pS) (j := 0) rfl rfl d33_61 rfl ?_
  intro T w
  refine s_arraylength (pc' := 65) (0 : Int32) w (Lk.new pP) d33_64 rfl rfl ?_
  refine s_iconst (pc' := 66) (2 : Int32) w d33_65 (by decide) rfl ?_
  refine s_static (pc' := 69) (rest := [(.int (1024 : Int32))]) 1 [(.int (0 : Int32)), (.int (2 : Int32))] w (c_mule hw l h0 n0 0 2 Ls (by decide)) (t219 hw) (t220 hw) (t88 hw) (t221 hw) (by decide) pd1 d33_66 (by decide) rfl rfl rfl rfl (Nat.le_of_eq rfl) rfl ?_
  intro T v L' hQ w
  obtain ⟨rfl, hL⟩ := hQ
  replace hL := hL.symm
  subst hL
  dsimp only [oS, oN, cA, nA]
  rw [show ((0 : Int32).toInt64 * (2 : Int32).toInt64).toInt32 = 0 by decide]
  refine s_static (pc' := 72) (rest := []) 0 [(.int (1024 : Int32)), (.int (0 : Int32))] w (c_max hw l h0 n0 1024 0 Ls) (t222 hw) (t87 hw) (t88 hw) (t89 hw) (by decide) pd1 d33_69 (by decide) rfl rfl rfl rfl (Nat.le_of_eq rfl) rfl ?_
  intro T v L' hQ w
  obtain ⟨rfl, hL⟩ := hQ
  replace hL := hL.symm
  subst hL
  dsimp only [oS, oN, cA, nA]
  rw [show (if (1024 : Int32) < 0 then (0 : Int32) else 1024) = 1024 by decide]
  refine s_istore (pc' := 74) (ls' := #[vR (n0 + kS), vR (n0 + kK), vI (0 : Int32), vI hh, vI (hh &&& (1023 : Int32)), vI (1 : Int32), vI (1024 : Int32)]) w d33_72 rfl rfl ?_
  refine s_aloadN (pc' := 75) w d33_74 rfl rfl rfl ?_
  refine s_aloadN (pc' := 76) w d33_75 rfl rfl rfl ?_
  refine s_getL (pc' := 79) (host := "") w (Or.inl (t101 hw)) Via.refl (Lk.new pS) (j := 0) rfl rfl d33_76 rfl ?_
  intro T w
  refine s_iload (pc' := 81) w d33_79 rfl rfl ?_
  refine s_iload (pc' := 83) w d33_81 rfl rfl ?_
  refine s_static (pc' := 86) (rest := [(.ref (n0 + kP)), (.ref (n0 + kS))]) 2 [(.int (1 : Int32)), (.int (1024 : Int32))] w (c_max hw l h0 n0 1 1024 Ls) (t222 hw) (t87 hw) (t88 hw) (t89 hw) (by decide) pd1 d33_83 (by decide) rfl rfl rfl rfl (Nat.le_of_eq rfl) rfl ?_
  intro T v L' hQ w
  obtain ⟨rfl, hL⟩ := hQ
  replace hL := hL.symm
  subst hL
  dsimp only [oS, oN, cA, nA]
  rw [show (if (1 : Int32) < 1024 then (1024 : Int32) else 1) = 1024 by decide]
  refine s_static (pc' := 89) (rest := [(.ref (n0 + kS))]) 1 [(.ref (n0 + kP)), (.int (1024 : Int32))] w (c_copy hw l h0 n0 kP Ls pP) (t223 hw) (t224 hw) (t114 hw) (t225 hw) (by decide) pd16 d33_86 (by decide) rfl rfl rfl rfl (Nat.le_of_eq rfl) rfl ?_
  intro T v L' hQ w
  obtain ⟨rfl, hL⟩ := hQ
  replace hL := hL.symm
  subst hL
  dsimp only [oS, oN, cA, nA]
  refine s_put (pc' := 92) (host := "") (k := kS) w (Or.inl (t101 hw)) Via.refl (cls2 hw) (lk_app pS) (j := 0) rfl (leB rfl) (Or.inl (t102 hw)) (ty := (.array .long)) (by decide +kernel) rfl rfl d33_89 rfl ?_
  intro T w
  rw [set_app pS] at w
  replace w : St p l e _ s m _ below meth c Z _ _ _ _ h0 n0 T (Ls.set kS (sOb n0 Ls.length kT kH kL kW kX kM 1 kK 0) ++ [aJ (List.replicate 1024 (.long 0))]) 1 1024 := w
  have hlen : (Ls.set kS (sOb n0 Ls.length kT kH kL kW kX kM 1 kK 0)).length = Ls.length := List.length_set ..
  have qS := lk_app (M := [aJ (List.replicate 1024 (.long 0))]) (lk_set (o := sOb n0 Ls.length kT kH kL kW kX kM 1 kK 0) pS)
  have qK := lk_app (M := [aJ (List.replicate 1024 (.long 0))]) (lk_ne (o := sOb n0 Ls.length kT kH kL kW kX kM 1 kK 0) pK neK)
  have qP := lk_lastN (o := aJ (List.replicate 1024 (.long 0))) hlen
  refine s_aloadN (pc' := 93) w d33_92 rfl rfl rfl ?_
  refine s_iloadN (pc' := 94) w d33_93 rfl rfl ?_
  refine s_aloadN (pc' := 95) w d33_94 rfl rfl rfl ?_
  refine s_getL (pc' := 98) (host := "") w (Or.inl (t101 hw)) Via.refl (Lk.new qS) (j := 0) rfl rfl d33_95 rfl ?_
  intro T w
  refine s_aloadN (pc' := 99) w d33_98 rfl rfl rfl ?_
  refine s_getL (pc' := 102) (host := "") w (Or.inl (t217 hw)) Via.refl (Lk.new qS) (j := 10) rfl rfl d33_99 rfl ?_
  intro T w
  refine s_aloadN (pc' := 103) w d33_102 rfl rfl rfl ?_
  refine s_getL (pc' := 106) (host := "") w (Or.inl (t179 hw)) Via.refl (Lk.new qS) (j := 8) rfl rfl d33_103 rfl ?_
  intro T w
  refine s_imul (pc' := 107) w d33_106 rfl ?_
  refine s_aloadN (pc' := 108) w d33_107 rfl rfl rfl ?_
  rw [show (0 : Int32) * 1 = 0 by decide]
  refine s_getL (pc' := 111) (host := "") w (Or.inl (t179 hw)) Via.refl (Lk.new qS) (j := 8) rfl rfl d33_108 rfl ?_
  intro T w
  refine s_arraycopy (pc' := 114) (k := Ls.length) 0 w (Lk.new qK) qP rfl (t233 hw) (t232 hw) (t230 hw) (t231 hw) (by decide) (by decide) (by decide) (leB rfl) (by rw [List.length_replicate]; decide) d33_111 rfl (by decide) (Nat.le_of_eq rfl) (by decide) rfl ?_
  intro T w
  rw [show (List.set (Ls.set kS (sOb n0 Ls.length kT kH kL kW kX kM 1 kK 0) ++ [aJ (List.replicate 1024 (.long 0))]) Ls.length (aJ (List.take (0 : Int32).toNatClampNeg (List.replicate 1024 (.long 0)) ++ List.take (1 : Int32).toNatClampNeg (List.drop (0 : Int32).toNatClampNeg [.long k0]) ++ List.drop ((0 : Int32).toNatClampNeg + (1 : Int32).toNatClampNeg) (List.replicate 1024 (.long 0))))) = (Ls.set kS (sOb n0 Ls.length kT kH kL kW kX kM 1 kK 0) ++ [aJ ([.long k0] ++ List.replicate 1023 (.long 0))]) by rw [copy_at1, set_lastN hlen]] at w
  have qS := lk_app (M := [aJ ([.long k0] ++ List.replicate 1023 (.long 0))]) (lk_set (o := sOb n0 Ls.length kT kH kL kW kX kM 1 kK 0) pS)
  have qT := lk_app (M := [aJ ([.long k0] ++ List.replicate 1023 (.long 0))]) (lk_ne (o := sOb n0 Ls.length kT kH kL kW kX kM 1 kK 0) pT neT.symm)
  refine s_aloadN (pc' := 115) w d33_114 rfl rfl rfl ?_
  refine s_getL (pc' := 118) (host := "") w (Or.inl (t116 hw)) Via.refl (Lk.new qS) (j := 2) rfl rfl d33_115 rfl ?_
  intro T w
  refine s_iload (pc' := 120) w d33_118 rfl rfl ?_
  refine s_aloadN (pc' := 121) w d33_120 rfl rfl rfl ?_
  refine s_aloadN (pc' := 122) w d33_121 rfl rfl rfl ?_
  refine s_getL (pc' := 125) (host := "") w (Or.inl (t217 hw)) Via.refl (Lk.new qS) (j := 10) rfl rfl d33_122 rfl ?_
  intro T w
  refine s_iloadN (pc' := 126) w d33_125 rfl rfl ?_
  refine s_private (pc' := 129) (rest := [(.int (hh &&& (1023 : Int32))), (.ref (n0 + kT))]) 2 [(.int (0 : Int32)), (.int hh)] w (c_entry1 hw l h0 n0 kS Ls.length kT kH kL kW kX kM kK 0 0 hh (Ls.set kS (sOb n0 Ls.length kT kH kL kW kX kM 1 kK 0) ++ [aJ ([.long k0] ++ List.replicate 1023 (.long 0))]) qS) (Lk.new qS) (t234 hw) (t235 hw) (t189 hw) rfl (t236 hw) (t95 hw) (t237 hw) (by decide) pd1 d33_126 (by decide) rfl rfl rfl rfl (Nat.le_of_eq rfl) rfl ?_
  intro T v L' hQ w
  obtain ⟨rfl, hL⟩ := hQ
  replace hL := hL.symm
  subst hL
  dsimp only [oS, oN, cA, nA]
  refine s_iastore (pc' := 130) (k := kT) w qT d33_129 t1 (by rw [List.length_replicate]; exact t2) rfl ?_
  intro T w
  have qS := lk_ne (o := aI ((List.replicate 1024 (Value.int (-1))).set (hh &&& (1023 : Int32)).toNatClampNeg (.int (entF 0 hh)))) qS neT
  refine s_aloadN (pc' := 131) w d33_130 rfl rfl rfl ?_
  refine s_dup (pc' := 132) w d33_131 rfl rfl ?_
  refine s_getL (pc' := 135) (host := "") w (Or.inl (t217 hw)) Via.refl (Lk.new qS) (j := 10) rfl rfl d33_132 rfl ?_
  intro T w
  refine s_iconst (pc' := 136) (1 : Int32) w d33_135 (by decide) rfl ?_
  refine s_iadd (pc' := 137) w d33_136 rfl ?_
  rw [show (0 : Int32) + 1 = 1 by decide]
  refine s_put (pc' := 140) (host := "") (k := kS) w (Or.inl (t217 hw)) Via.refl (cls2 hw) qS (j := 10) rfl (leB rfl) (Or.inl (t218 hw)) (ty := .int) (by decide +kernel) rfl rfl d33_137 rfl ?_
  intro T w
  have qT2 := lk_set (o := aI ((List.replicate 1024 (Value.int (-1))).set (hh &&& (1023 : Int32)).toNatClampNeg (.int (entF 0 hh)))) qT
  have qS2 := lk_set (o := sOb n0 Ls.length kT kH kL kW kX kM 1 kK 1) qS
  have qT3 := lk_ne (o := sOb n0 Ls.length kT kH kL kW kX kM 1 kK 1) qT2 neT.symm
  replace w : St p l e _ s m _ below meth c Z _ _ _ _ h0 n0 T ((List.set (Ls.set kS (sOb n0 Ls.length kT kH kL kW kX kM 1 kK 0) ++ [aJ ([.long k0] ++ List.replicate 1023 (.long 0))]) kT (aI ((List.replicate 1024 (Value.int (-1))).set (hh &&& (1023 : Int32)).toNatClampNeg (.int (entF 0 hh))))).set kS (sOb n0 Ls.length kT kH kL kW kX kM 1 kK 1)) 1 1024 := w
  refine s_iconst (pc' := 141) (2 : Int32) w d33_140 (by decide) rfl ?_
  refine s_aloadN (pc' := 142) w d33_141 rfl rfl rfl ?_
  refine s_getL (pc' := 145) (host := "") w (Or.inl (t217 hw)) Via.refl (Lk.new qS2) (j := 10) rfl rfl d33_142 rfl ?_
  intro T w
  refine s_imul (pc' := 146) w d33_145 rfl ?_
  refine s_aloadN (pc' := 147) w d33_146 rfl rfl rfl ?_
  refine s_getL (pc' := 150) (host := "") w (Or.inl (t116 hw)) Via.refl (Lk.new qS2) (j := 2) rfl rfl d33_147 rfl ?_
  intro T w
  refine s_arraylength (pc' := 151) (1024 : Int32) w (Lk.new qT3) d33_150 (by rw [List.length_set, List.length_replicate]; decide) rfl ?_
  refine s_icmpY (pc' := 158) w d33_151 (Jvm.Free.XT.ii_lt_t (by decide)) (by decide) (by decide) ?_
  refine s_aloadN (pc' := 159) w d33_158 rfl rfl rfl ?_
  refine s_getL (pc' := 162) (host := "") w (Or.inl (t217 hw)) Via.refl (Lk.new qS2) (j := 10) rfl rfl d33_159 rfl ?_
  intro T w
  refine s_iconst (pc' := 163) (1 : Int32) w d33_162 (by decide) rfl ?_
  refine s_isub (pc' := 164) w d33_163 rfl ?_
  rw [show (1 : Int32) - 1 = 0 by decide]
  exact s_ireturn w d33_164 (by decide) (by decide) ⟨rfl, by rw [set_app (lk_ne pT neT.symm), set_app (lk_ne (lk_set pS) neT), List.set_comm _ _ neT.symm, List.set_set, List.set_comm _ _ neT] <;> rfl⟩
set_option maxRecDepth 65536 in
set_option maxHeartbeats 40000000 in
theorem c_addF1 {Z : State} {a0 : Array Value} (hw : Tw Z a0) (l : Launch) (h0 : Heap) (n0 : Nat) (kS kP kT kH kL kW kX kM kK : Nat) (h1 hh : Int32) (p0 k0 : Int64) (Ls : List Ob) (pS : Ls[kS]? = some (sOb n0 kP kT kH kL kW kX kM 1 kK 1)) (pT : Ls[kT]? = some (aI ((List.replicate 1024 (Value.int (-1))).set (h1 &&& (1023 : Int32)).toNatClampNeg (.int (entF 0 h1))))) (pP : Ls[kP]? = some (aJ ([.long p0] ++ List.replicate 1023 (.long 0)))) (pK : Ls[kK]? = some (aJ ([.long k0]))) (neT : kT ≠ kS) (neP : kP ≠ kS) (neTP : kP ≠ kT) :
    Met1 l Z (⟨"com/example/ryazan/ryazan/statespace/StateStore", "add", "([JII)I"⟩ : MethodName) prog_197_method_16_code 7 (some .int) ({ frames := 3, cells := 0, slots := 0, locals := 49 } : Room) #[(.ref (n0 + kS)), (.ref (n0 + kK)), (.int (0 : Int32)), (.int hh)] h0 n0 Ls (fun v L => (v = some (.int 0) ∧ L = Ls ∧ (p0 = k0)) ∨ (v = some (.int 1) ∧ ∃ tb : List Value, L = ((Ls.set kP (aJ ([.long p0, .long k0] ++ List.replicate 1022 (.long 0)))).set kT (aI (tb))).set kS (sOb n0 kP kT kH kL kW kX kM 1 kK 2))) [] := by
  refine Met1.of (ls := #[vR (n0 + kS), vR (n0 + kK), vI (0 : Int32), vI hh, un, un, un]) (plainFor_of_name pn10) (fun m => by first | (simp [entryFrame, mkF, argsToLocals, Value.category]; done) | rfl) ?_
  intro p e s m below meth c T w
  refine s_aloadN (pc' := 1) w d33_0 rfl rfl rfl ?_
  refine s_aloadN (pc' := 2) w d33_1 rfl rfl rfl ?_
  refine s_iloadN (pc' := 3) w d33_2 rfl rfl ?_
  refine s_iloadN (pc' := 4) w d33_3 rfl rfl ?_
  refine s_private (pc' := 7) (rest := []) 0 [(.ref (n0 + kK)), (.int (0 : Int32)), (.int hh)] w (c_slotF1 hw l h0 n0 kS kP kT kH kL kW kX kM kK 1 (n0 + kK) h1 hh ([.long p0] ++ List.replicate 1023 (.long 0)) [.long k0] p0 k0 Ls pS pT pP (Lk.new pK) rfl rfl) (Lk.new pS) (t213 hw) (t214 hw) (t189 hw) rfl (t215 hw) (t95 hw) (t216 hw) (by decide) pd15 d33_4 (by decide) rfl rfl rfl rfl (Nat.le_of_eq rfl) rfl ?_
  intro T v L' hQ w
  obtain ⟨z, rfl, hL, z1, z2, hz⟩ := hQ
  replace hL := hL.symm
  subst hL
  dsimp only [oS, oN, cA, nA]
  refine s_istore (pc' := 9) (ls' := #[vR (n0 + kS), vR (n0 + kK), vI (0 : Int32), vI hh, vI z, un, un]) w d33_7 rfl rfl ?_
  refine s_aloadN (pc' := 10) w d33_9 rfl rfl rfl ?_
  refine s_getL (pc' := 13) (host := "") w (Or.inl (t116 hw)) Via.refl (Lk.new pS) (j := 2) rfl rfl d33_10 rfl ?_
  intro T w
  refine s_iload (pc' := 15) w d33_13 rfl rfl ?_
  rcases hz with ⟨rfl, hz⟩ | hz
  · have hh2 := tab_hit (e := entF 0 h1) z2
    refine s_iaload (pc' := 16) (v := (.int (entF 0 h1))) w (Lk.new pT) d33_15 z1 hh2 rfl ?_
    refine s_iconst (pc' := 17) (-1 : Int32) w d33_16 (by decide) rfl ?_
    refine s_icmpN (pc' := 20) w d33_17 (Jvm.Free.XT.ii_eq_f (ent_ne h1)) rfl ?_
    refine s_aloadN (pc' := 21) w d33_20 rfl rfl rfl ?_
    refine s_aloadN (pc' := 22) w d33_21 rfl rfl rfl ?_
    refine s_getL (pc' := 25) (host := "") w (Or.inl (t116 hw)) Via.refl (Lk.new pS) (j := 2) rfl rfl d33_22 rfl ?_
    intro T w
    refine s_iload (pc' := 27) w d33_25 rfl rfl ?_
    refine s_iaload (pc' := 28) (v := (.int (entF 0 h1))) w (Lk.new pT) d33_27 z1 hh2 rfl ?_
    refine s_private (pc' := 31) (rest := []) 0 [(.int (entF 0 h1))] w (c_num1 hw l h0 n0 kS kP kT kH kL kW kX kM kK 1 (entF 0 h1) Ls pS) (Lk.new pS) (t257 hw) (t258 hw) (t189 hw) rfl (t259 hw) (t95 hw) (t260 hw) (by decide) pd7 d33_28 (by decide) rfl rfl rfl rfl (Nat.le_of_eq rfl) rfl ?_
    intro T v L' hQ w
    obtain ⟨rfl, hL⟩ := hQ
    replace hL := hL.symm
    subst hL
    dsimp only [oS, oN, cA, nA]
    rw [ent_num]
    exact s_ireturn w d33_31 (by decide) (by decide) (Or.inl ⟨rfl, rfl, hz⟩)
  · refine s_iaload (pc' := 16) (v := (.int (-1 : Int32))) w (Lk.new pT) d33_15 z1 hz rfl ?_
    refine s_iconst (pc' := 17) (-1 : Int32) w d33_16 (by decide) rfl ?_
    refine s_icmpY (pc' := 32) w d33_17 (Jvm.Free.XT.ii_eq_t rfl) (by decide) (by decide) ?_
    refine s_aloadN (pc' := 33) w d33_32 rfl rfl rfl ?_
    refine s_getL (pc' := 36) (host := "") w (Or.inl (t217 hw)) Via.refl (Lk.new pS) (j := 10) rfl rfl d33_33 rfl ?_
    intro T w
    refine s_iconst (pc' := 37) (1 : Int32) w d33_36 (by decide) rfl ?_
    refine s_iadd (pc' := 38) w d33_37 rfl ?_
    refine s_aloadN (pc' := 39) w d33_38 rfl rfl rfl ?_
    rw [show (1 : Int32) + 1 = 2 by decide]
    refine s_getL (pc' := 42) (host := "") w (Or.inl (t179 hw)) Via.refl (Lk.new pS) (j := 8) rfl rfl d33_39 rfl ?_
    intro T w
    refine s_static (pc' := 45) (rest := []) 0 [(.int (2 : Int32)), (.int (1 : Int32))] w (c_mule hw l h0 n0 2 1 Ls (by decide)) (t219 hw) (t220 hw) (t88 hw) (t221 hw) (by decide) pd1 d33_42 (by decide) rfl rfl rfl rfl (Nat.le_of_eq rfl) rfl ?_
    intro T v L' hQ w
    obtain ⟨rfl, hL⟩ := hQ
    replace hL := hL.symm
    subst hL
    dsimp only [oS, oN, cA, nA]
    rw [show ((2 : Int32).toInt64 * (1 : Int32).toInt64).toInt32 = 2 by decide]
    refine s_istore (pc' := 47) (ls' := #[vR (n0 + kS), vR (n0 + kK), vI (0 : Int32), vI hh, vI z, vI (2 : Int32), un]) w d33_45 rfl rfl ?_
    refine s_iload (pc' := 49) w d33_47 rfl rfl ?_
    refine s_aloadN (pc' := 50) w d33_49 rfl rfl rfl ?_
    refine s_getL (pc' := 53) (host := "") w (Or.inl (t101 hw)) Via.refl (Lk.new pS) (j := 0) rfl rfl d33_50 rfl ?_
    intro T w
    refine s_arraylength (pc' := 54) (1024 : Int32) w (Lk.new pP) d33_53 (by rw [List.length_append, List.length_replicate]; rfl) rfl ?_
    refine s_icmpY (pc' := 92) w d33_54 (Jvm.Free.XT.ii_le_t (by decide)) (by decide) (by decide) ?_
    refine s_aloadN (pc' := 93) w d33_92 rfl rfl rfl ?_
    refine s_iloadN (pc' := 94) w d33_93 rfl rfl ?_
    refine s_aloadN (pc' := 95) w d33_94 rfl rfl rfl ?_
    refine s_getL (pc' := 98) (host := "") w (Or.inl (t101 hw)) Via.refl (Lk.new pS) (j := 0) rfl rfl d33_95 rfl ?_
    intro T w
    refine s_aloadN (pc' := 99) w d33_98 rfl rfl rfl ?_
    refine s_getL (pc' := 102) (host := "") w (Or.inl (t217 hw)) Via.refl (Lk.new pS) (j := 10) rfl rfl d33_99 rfl ?_
    intro T w
    refine s_aloadN (pc' := 103) w d33_102 rfl rfl rfl ?_
    refine s_getL (pc' := 106) (host := "") w (Or.inl (t179 hw)) Via.refl (Lk.new pS) (j := 8) rfl rfl d33_103 rfl ?_
    intro T w
    refine s_imul (pc' := 107) w d33_106 rfl ?_
    refine s_aloadN (pc' := 108) w d33_107 rfl rfl rfl ?_
    rw [show (1 : Int32) * 1 = 1 by decide]
    refine s_getL (pc' := 111) (host := "") w (Or.inl (t179 hw)) Via.refl (Lk.new pS) (j := 8) rfl rfl d33_108 rfl ?_
    intro T w
    refine s_arraycopy (pc' := 114) (k := kP) 0 w (Lk.new pK) pP rfl (t233 hw) (t232 hw) (t230 hw) (t231 hw) (by decide) (by decide) (by decide) (leB rfl) (by rw [List.length_append, List.length_replicate]; exact Nat.le_of_ble_eq_true rfl) d33_111 rfl (by decide) (Nat.le_of_eq rfl) (by decide) rfl ?_
    intro T w
    rw [copy_two1] at w
    have qS := lk_ne (o := aJ ([.long p0, .long k0] ++ List.replicate 1022 (.long 0))) pS neP
    have qT := lk_ne (o := aJ ([.long p0, .long k0] ++ List.replicate 1022 (.long 0))) pT neTP
    refine s_aloadN (pc' := 115) w d33_114 rfl rfl rfl ?_
    refine s_getL (pc' := 118) (host := "") w (Or.inl (t116 hw)) Via.refl (Lk.new qS) (j := 2) rfl rfl d33_115 rfl ?_
    intro T w
    refine s_iload (pc' := 120) w d33_118 rfl rfl ?_
    refine s_aloadN (pc' := 121) w d33_120 rfl rfl rfl ?_
    refine s_aloadN (pc' := 122) w d33_121 rfl rfl rfl ?_
    refine s_getL (pc' := 125) (host := "") w (Or.inl (t217 hw)) Via.refl (Lk.new qS) (j := 10) rfl rfl d33_122 rfl ?_
    intro T w
    refine s_iloadN (pc' := 126) w d33_125 rfl rfl ?_
    refine s_private (pc' := 129) (rest := [(.int z), (.ref (n0 + kT))]) 2 [(.int (1 : Int32)), (.int hh)] w (c_entry1 hw l h0 n0 kS kP kT kH kL kW kX kM kK 1 1 hh (Ls.set kP (aJ ([.long p0, .long k0] ++ List.replicate 1022 (.long 0)))) qS) (Lk.new qS) (t234 hw) (t235 hw) (t189 hw) rfl (t236 hw) (t95 hw) (t237 hw) (by decide) pd1 d33_126 (by decide) rfl rfl rfl rfl (Nat.le_of_eq rfl) rfl ?_
    intro T v L' hQ w
    obtain ⟨rfl, hL⟩ := hQ
    replace hL := hL.symm
    subst hL
    dsimp only [oS, oN, cA, nA]
    refine s_iastore (pc' := 130) (k := kT) w qT d33_129 z1 (by rw [List.length_set, List.length_replicate]; exact z2) rfl ?_
    intro T w
    have qS := lk_ne (o := aI (((List.replicate 1024 (Value.int (-1))).set (h1 &&& (1023 : Int32)).toNatClampNeg (.int (entF 0 h1))).set z.toNatClampNeg (.int (entF 1 hh)))) qS neT
    refine s_aloadN (pc' := 131) w d33_130 rfl rfl rfl ?_
    refine s_dup (pc' := 132) w d33_131 rfl rfl ?_
    refine s_getL (pc' := 135) (host := "") w (Or.inl (t217 hw)) Via.refl (Lk.new qS) (j := 10) rfl rfl d33_132 rfl ?_
    intro T w
    refine s_iconst (pc' := 136) (1 : Int32) w d33_135 (by decide) rfl ?_
    refine s_iadd (pc' := 137) w d33_136 rfl ?_
    rw [show (1 : Int32) + 1 = 2 by decide]
    refine s_put (pc' := 140) (host := "") (k := kS) w (Or.inl (t217 hw)) Via.refl (cls2 hw) qS (j := 10) rfl (leB rfl) (Or.inl (t218 hw)) (ty := .int) (by decide +kernel) rfl rfl d33_137 rfl ?_
    intro T w
    have qT2 := lk_set (o := aI (((List.replicate 1024 (Value.int (-1))).set (h1 &&& (1023 : Int32)).toNatClampNeg (.int (entF 0 h1))).set z.toNatClampNeg (.int (entF 1 hh)))) qT
    have qS2 := lk_set (o := sOb n0 kP kT kH kL kW kX kM 1 kK 2) qS
    have qT3 := lk_ne (o := sOb n0 kP kT kH kL kW kX kM 1 kK 2) qT2 neT.symm
    replace w : St p l e _ s m _ below meth c Z _ _ _ _ h0 n0 T (((Ls.set kP (aJ ([.long p0, .long k0] ++ List.replicate 1022 (.long 0)))).set kT (aI (((List.replicate 1024 (Value.int (-1))).set (h1 &&& (1023 : Int32)).toNatClampNeg (.int (entF 0 h1))).set z.toNatClampNeg (.int (entF 1 hh))))).set kS (sOb n0 kP kT kH kL kW kX kM 1 kK 2)) 0 0 := w
    refine s_iconst (pc' := 141) (2 : Int32) w d33_140 (by decide) rfl ?_
    refine s_aloadN (pc' := 142) w d33_141 rfl rfl rfl ?_
    refine s_getL (pc' := 145) (host := "") w (Or.inl (t217 hw)) Via.refl (Lk.new qS2) (j := 10) rfl rfl d33_142 rfl ?_
    intro T w
    refine s_imul (pc' := 146) w d33_145 rfl ?_
    refine s_aloadN (pc' := 147) w d33_146 rfl rfl rfl ?_
    refine s_getL (pc' := 150) (host := "") w (Or.inl (t116 hw)) Via.refl (Lk.new qS2) (j := 2) rfl rfl d33_147 rfl ?_
    intro T w
    refine s_arraylength (pc' := 151) (1024 : Int32) w (Lk.new qT3) d33_150 (by rw [List.length_set, List.length_set, List.length_replicate]; decide) rfl ?_
    refine s_icmpY (pc' := 158) w d33_151 (Jvm.Free.XT.ii_lt_t (by decide)) (by decide) (by decide) ?_
    refine s_aloadN (pc' := 159) w d33_158 rfl rfl rfl ?_
    refine s_getL (pc' := 162) (host := "") w (Or.inl (t217 hw)) Via.refl (Lk.new qS2) (j := 10) rfl rfl d33_159 rfl ?_
    intro T w
    refine s_iconst (pc' := 163) (1 : Int32) w d33_162 (by decide) rfl ?_
    refine s_isub (pc' := 164) w d33_163 rfl ?_
    rw [show (2 : Int32) - 1 = 1 by decide]
    exact s_ireturn w d33_164 (by decide) (by decide) (Or.inr ⟨rfl, _, rfl⟩)
set_option maxRecDepth 65536 in
set_option maxHeartbeats 40000000 in
theorem c_addOne1 {Z : State} {a0 : Array Value} (hw : Tw Z a0) (l : Launch) (h0 : Heap) (n0 : Nat) (kS kP kT kH kL kW kX kM kK : Nat) (sa : Addr) (s0 s1 s2 l0 l1 l2 x0 x1 x2 : Int32) (y0 : Int64) (Ls : List Ob) (pS : Ls[kS]? = some (sOb n0 kP kT kH kL kW kX kM 1 kK 0)) (pT : Ls[kT]? = some (aI (List.replicate 1024 (Value.int (-1))))) (pP : Ls[kP]? = some (aJ ([]))) (pK : Ls[kK]? = some (aJ ([.long y0]))) (pL : Ls[kL]? = some (aI ([.int l0, .int l1, .int l2]))) (pW : Ls[kW]? = some (aI ([.int 0, .int 0, .int 0]))) (pX : Ls[kX]? = some (aI ([.int x0, .int x1, .int x2]))) (qa : Lk Z h0 n0 Ls sa (aI ([.int s0, .int s1, .int s2]))) (neS : kK ≠ kS) (neL : kK ≠ kL) (neW : kK ≠ kW) (neX : kK ≠ kX) (neA : sa ≠ n0 + kK) (neT : kT ≠ kS) (neTK : kT ≠ kK) (nePK : kP ≠ kK) :
    Met1 l Z (⟨"com/example/ryazan/ryazan/statespace/StateStore", "add", "([I)I"⟩ : MethodName) prog_197_method_5_code 2 (some .int) ({ frames := 4, cells := 1, slots := 1024, locals := 67 } : Room) #[(.ref (n0 + kS)), (.ref sa)] h0 n0 Ls (fun v L => v = some (.int 0) ∧ L = (((Ls.set kK (aJ ([.long ((((0 : Int64) ||| (dS s0 l0 x0)) ||| (dS s1 l1 x1)) ||| (dS s2 l2 x2))]))).set kT (aI ((List.replicate 1024 (Value.int (-1))).set ((hfin (hfold [((((0 : Int64) ||| (dS s0 l0 x0)) ||| (dS s1 l1 x1)) ||| (dS s2 l2 x2))])) &&& (1023 : Int32)).toNatClampNeg (.int (entF 0 (hfin (hfold [((((0 : Int64) ||| (dS s0 l0 x0)) ||| (dS s1 l1 x1)) ||| (dS s2 l2 x2))]))))))).set kS (sOb n0 Ls.length kT kH kL kW kX kM 1 kK 1) ++ [aJ ([.long ((((0 : Int64) ||| (dS s0 l0 x0)) ||| (dS s1 l1 x1)) ||| (dS s2 l2 x2))] ++ List.replicate 1023 (.long 0))])) [] := by
  refine Met1.of (ls := #[vR (n0 + kS), vR sa]) (plainFor_of_name pn10) (fun m => by first | (simp [entryFrame, mkF, argsToLocals, Value.category]; done) | rfl) ?_
  intro p e s m below meth c T w
  refine s_aloadN (pc' := 1) w d28_0 rfl rfl rfl ?_
  refine s_private (pc' := 4) (rest := []) 0 [] w (c_place1 hw l h0 n0 kS kP kT kH kL kW kX kM kK 0 Ls pS) (Lk.new pS) (t191 hw) (t192 hw) (t189 hw) rfl (t193 hw) (t95 hw) (t194 hw) (by decide) pd0 d28_1 (by decide) rfl rfl rfl rfl (Nat.le_of_eq rfl) rfl ?_
  intro T v L' hQ w
  obtain ⟨rfl, hL⟩ := hQ
  replace hL := hL.symm
  subst hL
  dsimp only [oS, oN, cA, nA]
  refine s_aloadN (pc' := 5) w d28_4 rfl rfl rfl ?_
  refine s_aloadN (pc' := 6) w d28_5 rfl rfl rfl ?_
  refine s_private (pc' := 9) (rest := []) 0 [(.ref sa)] w (c_pack1 hw l h0 n0 kS kP kT kH kL kW kX kM kK 0 sa s0 s1 s2 l0 l1 l2 x0 x1 x2 y0 Ls pS pK pL pW pX qa neS neL neW neX neA) (Lk.new pS) (t195 hw) (t196 hw) (t189 hw) rfl (t197 hw) (t95 hw) (t198 hw) (by decide) pd17 d28_6 (by decide) rfl rfl rfl rfl (Nat.le_of_eq rfl) rfl ?_
  intro T v L' hQ w
  obtain ⟨rfl, hL⟩ := hQ
  replace hL := hL.symm
  subst hL
  dsimp only [oS, oN, cA, nA]
  have qS := lk_ne (o := aJ ([.long ((((0 : Int64) ||| (dS s0 l0 x0)) ||| (dS s1 l1 x1)) ||| (dS s2 l2 x2))])) pS neS
  have qK := lk_set (o := aJ ([.long ((((0 : Int64) ||| (dS s0 l0 x0)) ||| (dS s1 l1 x1)) ||| (dS s2 l2 x2))])) pK
  have qT := lk_ne (o := aJ ([.long ((((0 : Int64) ||| (dS s0 l0 x0)) ||| (dS s1 l1 x1)) ||| (dS s2 l2 x2))])) pT neTK.symm
  have qP := lk_ne (o := aJ ([.long ((((0 : Int64) ||| (dS s0 l0 x0)) ||| (dS s1 l1 x1)) ||| (dS s2 l2 x2))])) pP nePK.symm
  refine s_aloadN (pc' := 10) w d28_9 rfl rfl rfl ?_
  refine s_aloadN (pc' := 11) w d28_10 rfl rfl rfl ?_
  refine s_getL (pc' := 14) (host := "") w (Or.inl (t181 hw)) Via.refl (Lk.new qS) (j := 9) rfl rfl d28_11 rfl ?_
  intro T w
  refine s_iconst (pc' := 15) (0 : Int32) w d28_14 (by decide) rfl ?_
  refine s_aloadN (pc' := 16) w d28_15 rfl rfl rfl ?_
  refine s_aloadN (pc' := 17) w d28_16 rfl rfl rfl ?_
  refine s_getL (pc' := 20) (host := "") w (Or.inl (t181 hw)) Via.refl (Lk.new qS) (j := 9) rfl rfl d28_17 rfl ?_
  intro T w
  refine s_iconst (pc' := 21) (0 : Int32) w d28_20 (by decide) rfl ?_
  refine s_virtual (pc' := 24) (rest := [(.int (0 : Int32)), (.ref (n0 + kK)), (.ref (n0 + kS))]) 3 [(.ref (n0 + kK)), (.int (0 : Int32))] w (c_hash1 hw l h0 n0 (n0 + kS) (n0 + kK) 0 _ ((((0 : Int64) ||| (dS s0 l0 x0)) ||| (dS s1 l1 x1)) ||| (dS s2 l2 x2)) (Ls.set kK (aJ ([.long ((((0 : Int64) ||| (dS s0 l0 x0)) ||| (dS s1 l1 x1)) ||| (dS s2 l2 x2))]))) _ (Lk.new qS) rfl (Lk.new qK) (by decide) rfl) (Lk.new qS) (t202 hw) (t203 hw) (w.notFace (t205 hw)) (t205 hw) (t204 hw) (t95 hw) (t206 hw) (by decide) pd18 d28_21 (by decide) rfl rfl rfl rfl (Nat.le_of_eq rfl) rfl ?_
  intro T v L' hQ w
  obtain ⟨rfl, hL⟩ := hQ
  replace hL := hL.symm
  subst hL
  dsimp only [oS, oN, cA, nA]
  refine s_private (pc' := 27) (rest := []) 0 [(.ref (n0 + kK)), (.int (0 : Int32)), (.int (hfin (hfold [((((0 : Int64) ||| (dS s0 l0 x0)) ||| (dS s1 l1 x1)) ||| (dS s2 l2 x2))])))] w (c_addE1 hw l h0 n0 kS kP kT kH kL kW kX kM kK (hfin (hfold [((((0 : Int64) ||| (dS s0 l0 x0)) ||| (dS s1 l1 x1)) ||| (dS s2 l2 x2))])) ((((0 : Int64) ||| (dS s0 l0 x0)) ||| (dS s1 l1 x1)) ||| (dS s2 l2 x2)) (Ls.set kK (aJ ([.long ((((0 : Int64) ||| (dS s0 l0 x0)) ||| (dS s1 l1 x1)) ||| (dS s2 l2 x2))]))) qS qT qP qK neT neS.symm neTK) (Lk.new qS) (t209 hw) (t210 hw) (t189 hw) rfl (t211 hw) (t95 hw) (t212 hw) (by decide) pd15 d28_24 (by decide) rfl rfl rfl rfl (Nat.le_of_eq rfl) rfl ?_
  intro T v L' hQ w
  obtain ⟨rfl, hL⟩ := hQ
  replace hL := hL.symm
  subst hL
  dsimp only [oS, oN, cA, nA]
  exact s_ireturn w d28_27 (by decide) (by decide) ⟨rfl, by rw [List.length_set] <;> rfl⟩
set_option maxRecDepth 65536 in
set_option maxHeartbeats 40000000 in
theorem c_addTwo1 {Z : State} {a0 : Array Value} (hw : Tw Z a0) (l : Launch) (h0 : Heap) (n0 : Nat) (kS kP kT kH kL kW kX kM kK : Nat) (sa : Addr) (s0 s1 s2 l0 l1 l2 x0 x1 x2 : Int32) (y0 : Int64) (h1 : Int32) (p0 : Int64) (Ls : List Ob) (pS : Ls[kS]? = some (sOb n0 kP kT kH kL kW kX kM 1 kK 1)) (pT : Ls[kT]? = some (aI ((List.replicate 1024 (Value.int (-1))).set (h1 &&& (1023 : Int32)).toNatClampNeg (.int (entF 0 h1))))) (pP : Ls[kP]? = some (aJ ([.long p0] ++ List.replicate 1023 (.long 0)))) (pK : Ls[kK]? = some (aJ ([.long y0]))) (pL : Ls[kL]? = some (aI ([.int l0, .int l1, .int l2]))) (pW : Ls[kW]? = some (aI ([.int 0, .int 0, .int 0]))) (pX : Ls[kX]? = some (aI ([.int x0, .int x1, .int x2]))) (qa : Lk Z h0 n0 Ls sa (aI ([.int s0, .int s1, .int s2]))) (neS : kK ≠ kS) (neL : kK ≠ kL) (neW : kK ≠ kW) (neX : kK ≠ kX) (neA : sa ≠ n0 + kK) (neT : kT ≠ kS) (neTK : kT ≠ kK) (nePK : kP ≠ kK) (neP : kP ≠ kS) (neTP : kP ≠ kT) :
    Met1 l Z (⟨"com/example/ryazan/ryazan/statespace/StateStore", "add", "([I)I"⟩ : MethodName) prog_197_method_5_code 2 (some .int) ({ frames := 4, cells := 0, slots := 0, locals := 67 } : Room) #[(.ref (n0 + kS)), (.ref sa)] h0 n0 Ls (fun v L => (v = some (.int 0) ∧ L = Ls.set kK (aJ ([.long ((((0 : Int64) ||| (dS s0 l0 x0)) ||| (dS s1 l1 x1)) ||| (dS s2 l2 x2))])) ∧ (p0 = ((((0 : Int64) ||| (dS s0 l0 x0)) ||| (dS s1 l1 x1)) ||| (dS s2 l2 x2)))) ∨ (v = some (.int 1) ∧ ∃ tb : List Value, L = (((Ls.set kK (aJ ([.long ((((0 : Int64) ||| (dS s0 l0 x0)) ||| (dS s1 l1 x1)) ||| (dS s2 l2 x2))]))).set kP (aJ ([.long p0, .long ((((0 : Int64) ||| (dS s0 l0 x0)) ||| (dS s1 l1 x1)) ||| (dS s2 l2 x2))] ++ List.replicate 1022 (.long 0)))).set kT (aI (tb))).set kS (sOb n0 kP kT kH kL kW kX kM 1 kK 2))) [] := by
  refine Met1.of (ls := #[vR (n0 + kS), vR sa]) (plainFor_of_name pn10) (fun m => by first | (simp [entryFrame, mkF, argsToLocals, Value.category]; done) | rfl) ?_
  intro p e s m below meth c T w
  refine s_aloadN (pc' := 1) w d28_0 rfl rfl rfl ?_
  refine s_private (pc' := 4) (rest := []) 0 [] w (c_place1 hw l h0 n0 kS kP kT kH kL kW kX kM kK 1 Ls pS) (Lk.new pS) (t191 hw) (t192 hw) (t189 hw) rfl (t193 hw) (t95 hw) (t194 hw) (by decide) pd0 d28_1 (by decide) rfl rfl rfl rfl (Nat.le_of_eq rfl) rfl ?_
  intro T v L' hQ w
  obtain ⟨rfl, hL⟩ := hQ
  replace hL := hL.symm
  subst hL
  dsimp only [oS, oN, cA, nA]
  refine s_aloadN (pc' := 5) w d28_4 rfl rfl rfl ?_
  refine s_aloadN (pc' := 6) w d28_5 rfl rfl rfl ?_
  refine s_private (pc' := 9) (rest := []) 0 [(.ref sa)] w (c_pack1 hw l h0 n0 kS kP kT kH kL kW kX kM kK 1 sa s0 s1 s2 l0 l1 l2 x0 x1 x2 y0 Ls pS pK pL pW pX qa neS neL neW neX neA) (Lk.new pS) (t195 hw) (t196 hw) (t189 hw) rfl (t197 hw) (t95 hw) (t198 hw) (by decide) pd17 d28_6 (by decide) rfl rfl rfl rfl (Nat.le_of_eq rfl) rfl ?_
  intro T v L' hQ w
  obtain ⟨rfl, hL⟩ := hQ
  replace hL := hL.symm
  subst hL
  dsimp only [oS, oN, cA, nA]
  have qS := lk_ne (o := aJ ([.long ((((0 : Int64) ||| (dS s0 l0 x0)) ||| (dS s1 l1 x1)) ||| (dS s2 l2 x2))])) pS neS
  have qK := lk_set (o := aJ ([.long ((((0 : Int64) ||| (dS s0 l0 x0)) ||| (dS s1 l1 x1)) ||| (dS s2 l2 x2))])) pK
  have qT := lk_ne (o := aJ ([.long ((((0 : Int64) ||| (dS s0 l0 x0)) ||| (dS s1 l1 x1)) ||| (dS s2 l2 x2))])) pT neTK.symm
  have qP := lk_ne (o := aJ ([.long ((((0 : Int64) ||| (dS s0 l0 x0)) ||| (dS s1 l1 x1)) ||| (dS s2 l2 x2))])) pP nePK.symm
  refine s_aloadN (pc' := 10) w d28_9 rfl rfl rfl ?_
  refine s_aloadN (pc' := 11) w d28_10 rfl rfl rfl ?_
  refine s_getL (pc' := 14) (host := "") w (Or.inl (t181 hw)) Via.refl (Lk.new qS) (j := 9) rfl rfl d28_11 rfl ?_
  intro T w
  refine s_iconst (pc' := 15) (0 : Int32) w d28_14 (by decide) rfl ?_
  refine s_aloadN (pc' := 16) w d28_15 rfl rfl rfl ?_
  refine s_aloadN (pc' := 17) w d28_16 rfl rfl rfl ?_
  refine s_getL (pc' := 20) (host := "") w (Or.inl (t181 hw)) Via.refl (Lk.new qS) (j := 9) rfl rfl d28_17 rfl ?_
  intro T w
  refine s_iconst (pc' := 21) (0 : Int32) w d28_20 (by decide) rfl ?_
  refine s_virtual (pc' := 24) (rest := [(.int (0 : Int32)), (.ref (n0 + kK)), (.ref (n0 + kS))]) 3 [(.ref (n0 + kK)), (.int (0 : Int32))] w (c_hash1 hw l h0 n0 (n0 + kS) (n0 + kK) 0 _ ((((0 : Int64) ||| (dS s0 l0 x0)) ||| (dS s1 l1 x1)) ||| (dS s2 l2 x2)) (Ls.set kK (aJ ([.long ((((0 : Int64) ||| (dS s0 l0 x0)) ||| (dS s1 l1 x1)) ||| (dS s2 l2 x2))]))) _ (Lk.new qS) rfl (Lk.new qK) (by decide) rfl) (Lk.new qS) (t202 hw) (t203 hw) (w.notFace (t205 hw)) (t205 hw) (t204 hw) (t95 hw) (t206 hw) (by decide) pd18 d28_21 (by decide) rfl rfl rfl rfl (Nat.le_of_eq rfl) rfl ?_
  intro T v L' hQ w
  obtain ⟨rfl, hL⟩ := hQ
  replace hL := hL.symm
  subst hL
  dsimp only [oS, oN, cA, nA]
  refine s_private (pc' := 27) (rest := []) 0 [(.ref (n0 + kK)), (.int (0 : Int32)), (.int (hfin (hfold [((((0 : Int64) ||| (dS s0 l0 x0)) ||| (dS s1 l1 x1)) ||| (dS s2 l2 x2))])))] w (c_addF1 hw l h0 n0 kS kP kT kH kL kW kX kM kK h1 (hfin (hfold [((((0 : Int64) ||| (dS s0 l0 x0)) ||| (dS s1 l1 x1)) ||| (dS s2 l2 x2))])) p0 ((((0 : Int64) ||| (dS s0 l0 x0)) ||| (dS s1 l1 x1)) ||| (dS s2 l2 x2)) (Ls.set kK (aJ ([.long ((((0 : Int64) ||| (dS s0 l0 x0)) ||| (dS s1 l1 x1)) ||| (dS s2 l2 x2))]))) qS qT qP qK neT neP neTP) (Lk.new qS) (t209 hw) (t210 hw) (t189 hw) rfl (t211 hw) (t95 hw) (t212 hw) (by decide) pd15 d28_24 (by decide) rfl rfl rfl rfl (Nat.le_of_eq rfl) rfl ?_
  intro T v L' hQ w
  rcases hQ with ⟨rfl, hL, hz⟩ | ⟨rfl, tb, hL⟩
  · replace hL := hL.symm
    subst hL
    change Go p e below _ T (mkF m 27 #[vR (n0 + kS), vR sa] [(.int (0 : Int32))])
    exact s_ireturn w d28_27 (by decide) (by decide) (Or.inl ⟨rfl, rfl, hz⟩)
  · replace hL := hL.symm
    subst hL
    change Go p e below _ T (mkF m 27 #[vR (n0 + kS), vR sa] [(.int (1 : Int32))])
    exact s_ireturn w d28_27 (by decide) (by decide) (Or.inr ⟨rfl, tb, rfl⟩)
set_option maxRecDepth 65536 in
set_option maxHeartbeats 40000000 in
theorem c_key1 {Z : State} {a0 : Array Value} (hw : Tw Z a0) (l : Launch) (h0 : Heap) (n0 : Nat) (kS kP kT kH kL kW kX kM kK : Nat) (sz : Int32) (kE m' st' : Nat) (pk vs : List Value) (Ls : List Ob) (pS : Ls[kS]? = some (sOb n0 kP kT kH kL kW kX kM 1 kK sz)) (pP : Ls[kP]? = some (aJ (pk))) (pE : Ls[kE]? = some (aJ (vs))) (hm : m' < 100) (hst : st' < 100) (h4 : m' * 1 + 1 ≤ pk.length) (h5 : st' + 1 ≤ vs.length) :
    Met1 l Z (⟨"com/example/ryazan/ryazan/statespace/StateStore", "key", "(I[JI)V"⟩ : MethodName) prog_197_method_11_code 4 none ({ frames := 1, cells := 0, slots := 0, locals := 18 } : Room) #[(.ref (n0 + kS)), (.int (Int32.ofNat m')), (.ref (n0 + kE)), (.int (Int32.ofNat st'))] h0 n0 Ls (fun v L => v = none ∧ L = Ls.set kE (aJ (vs.take st' ++ (pk.drop (m' * 1)).take 1 ++ vs.drop (st' + 1)))) [] := by
  refine Met1.of (ls := #[vR (n0 + kS), vI (Int32.ofNat m'), vR (n0 + kE), vI (Int32.ofNat st')]) (plainFor_of_name pn10) (fun m => by first | (simp [entryFrame, mkF, argsToLocals, Value.category]; done) | rfl) ?_
  intro p e s m below meth c T w
  refine s_aloadN (pc' := 1) w d39_0 rfl rfl rfl ?_
  refine s_getL (pc' := 4) (host := "") w (Or.inl (t101 hw)) Via.refl (Lk.new pS) (j := 0) rfl rfl d39_1 rfl ?_
  intro T w
  refine s_iloadN (pc' := 5) w d39_4 rfl rfl ?_
  refine s_aloadN (pc' := 6) w d39_5 rfl rfl rfl ?_
  refine s_getL (pc' := 9) (host := "") w (Or.inl (t179 hw)) Via.refl (Lk.new pS) (j := 8) rfl rfl d39_6 rfl ?_
  intro T w
  refine s_imul (pc' := 10) w d39_9 rfl ?_
  rw [show Int32.ofNat m' * (1 : Int32) = Int32.ofNat (m' * 1) from (Int32.ofNat_mul m' 1).symm]
  refine s_aloadN (pc' := 11) w d39_10 rfl rfl rfl ?_
  refine s_iloadN (pc' := 12) w d39_11 rfl rfl ?_
  refine s_aloadN (pc' := 13) w d39_12 rfl rfl rfl ?_
  refine s_getL (pc' := 16) (host := "") w (Or.inl (t179 hw)) Via.refl (Lk.new pS) (j := 8) rfl rfl d39_13 rfl ?_
  intro T w
  have c1 : (Int32.ofNat (m' * 1)).toNatClampNeg = m' * 1 := i_cl (by omega)
  have c2 : (Int32.ofNat st').toNatClampNeg = st' := i_cl (by omega)
  have c3 : (1 : Int32).toNatClampNeg = 1 := rfl
  refine s_arraycopy (pc' := 19) (k := kE) 0 w (Lk.new pP) pE rfl (t233 hw) (t232 hw) (t230 hw) (t231 hw) (i_nn (by omega)) (i_nn (by omega)) (by decide) (by rw [c1, c3]; exact h4) (by rw [c2, c3]; exact h5) d39_16 rfl (by decide) (Nat.le_of_eq rfl) (by decide) rfl ?_
  intro T w
  exact s_return w d39_19 (by decide) (by decide) ⟨rfl, by rw [c1, c2, c3]⟩
set_option maxRecDepth 65536 in
set_option maxHeartbeats 40000000 in
theorem c_set1_0 {Z : State} {a0 : Array Value} (hw : Tw Z a0) (l : Launch) (h0 : Heap) (n0 : Nat) (kS kP kT kH kL kW kX kM kK : Nat) (sz : Int32) (kE st' : Nat) (xv l0 l1 l2 x0 x1 x2 : Int32) (m0 m1 m2 kk' : Int64) (vs : List Value) (Ls : List Ob) (pS : Ls[kS]? = some (sOb n0 kP kT kH kL kW kX kM 1 kK sz)) (pL : Ls[kL]? = some (aI ([.int l0, .int l1, .int l2]))) (pW : Ls[kW]? = some (aI ([.int 0, .int 0, .int 0]))) (pX : Ls[kX]? = some (aI ([.int x0, .int x1, .int x2]))) (pM : Ls[kM]? = some (aJ ([.long m0, .long m1, .long m2]))) (pE : Ls[kE]? = some (aJ (vs))) (hst : st' < 100) (hk' : vs[st' + 0]? = some (.long kk')) :
    Met1 l Z (⟨"com/example/ryazan/ryazan/statespace/StateStore", "set", "([JIII)V"⟩ : MethodName) prog_197_method_12_code 8 none ({ frames := 0, cells := 0, slots := 0, locals := 0 } : Room) #[(.ref (n0 + kS)), (.ref (n0 + kE)), (.int (Int32.ofNat st')), (.int (0 : Int32)), (.int xv)] h0 n0 Ls (fun v L => v = none ∧ L = Ls.set kE (aJ (vs.set (st' + 0) (.long (setF kk' m0 x0 xv l0))))) [] := by
  refine Met1.of (ls := #[vR (n0 + kS), vR (n0 + kE), vI (Int32.ofNat st'), vI (0 : Int32), vI xv, un, un, un]) (plainFor_of_name pn10) (fun m => by first | (simp [entryFrame, mkF, argsToLocals, Value.category]; done) | rfl) ?_
  intro p e s m below meth c T w
  refine s_iloadN (pc' := 1) w d40_0 rfl rfl ?_
  refine s_aloadN (pc' := 2) w d40_1 rfl rfl rfl ?_
  refine s_getL (pc' := 5) (host := "") w (Or.inl (t131 hw)) Via.refl (Lk.new pS) (j := 5) rfl rfl d40_2 rfl ?_
  intro T w
  refine s_iloadN (pc' := 6) w d40_5 rfl rfl ?_
  refine s_iaload (pc' := 7) (v := (.int (0 : Int32))) w (Lk.new pW) d40_6 (by decide) rfl rfl ?_
  refine s_iadd (pc' := 8) w d40_7 rfl ?_
  rw [show Int32.ofNat st' + (0 : Int32) = Int32.ofNat (st' + 0) from b_add st' 0]
  have c1 : (Int32.ofNat (st' + 0)).toNatClampNeg = st' + 0 := i_cl (by omega)
  have c2 : ¬ Int32.ofNat (st' + 0) < 0 := i_nn (by omega)
  refine s_istore (pc' := 10) (ls' := #[vR (n0 + kS), vR (n0 + kE), vI (Int32.ofNat st'), vI (0 : Int32), vI xv, vI (Int32.ofNat (st' + 0)), un, un]) w d40_8 rfl rfl ?_
  refine s_aloadN (pc' := 11) w d40_10 rfl rfl rfl ?_
  refine s_iload (pc' := 13) w d40_11 rfl rfl ?_
  refine s_laload (pc' := 14) (v := (.long kk')) w (Lk.new pE) d40_13 c2 (by rw [c1]; exact hk') rfl ?_
  refine s_aloadN (pc' := 15) w d40_14 rfl rfl rfl ?_
  refine s_getL (pc' := 18) (host := "") w (Or.inl (t135 hw)) Via.refl (Lk.new pS) (j := 7) rfl rfl d40_15 rfl ?_
  intro T w
  refine s_iloadN (pc' := 19) w d40_18 rfl rfl ?_
  refine s_laload (pc' := 20) (v := (.long m0)) w (Lk.new pM) d40_19 (by decide) rfl rfl ?_
  refine s_aloadN (pc' := 21) w d40_20 rfl rfl rfl ?_
  refine s_getL (pc' := 24) (host := "") w (Or.inl (t133 hw)) Via.refl (Lk.new pS) (j := 6) rfl rfl d40_21 rfl ?_
  intro T w
  refine s_iloadN (pc' := 25) w d40_24 rfl rfl ?_
  refine s_iaload (pc' := 26) (v := (.int x0)) w (Lk.new pX) d40_25 (by decide) rfl rfl ?_
  refine s_lshl (pc' := 27) w d40_26 rfl ?_
  refine s_ldc2 (pc' := 30) w (t248 hw) d40_27 rfl ?_
  refine s_lxor (pc' := 31) w d40_30 rfl ?_
  refine s_land (pc' := 32) w d40_31 rfl ?_
  refine s_lstore (pc' := 34) (ls' := #[vR (n0 + kS), vR (n0 + kE), vI (Int32.ofNat st'), vI (0 : Int32), vI xv, vI (Int32.ofNat (st' + 0)), vJ (kk' &&& ((m0 <<< (x0.toInt64 &&& 63)) ^^^ (-1 : Int64))), sc]) w d40_32 rfl rfl ?_
  refine s_aloadN (pc' := 35) w d40_34 rfl rfl rfl ?_
  refine s_iload (pc' := 37) w d40_35 rfl rfl ?_
  refine s_lload (pc' := 39) w d40_37 rfl rfl ?_
  refine s_iload (pc' := 41) w d40_39 rfl rfl ?_
  refine s_i2l (pc' := 42) w d40_41 rfl ?_
  refine s_aloadN (pc' := 43) w d40_42 rfl rfl rfl ?_
  refine s_getL (pc' := 46) (host := "") w (Or.inl (t129 hw)) Via.refl (Lk.new pS) (j := 4) rfl rfl d40_43 rfl ?_
  intro T w
  refine s_iloadN (pc' := 47) w d40_46 rfl rfl ?_
  refine s_iaload (pc' := 48) (v := (.int l0)) w (Lk.new pL) d40_47 (by decide) rfl rfl ?_
  refine s_i2l (pc' := 49) w d40_48 rfl ?_
  refine s_lsub (pc' := 50) w d40_49 rfl ?_
  refine s_aloadN (pc' := 51) w d40_50 rfl rfl rfl ?_
  refine s_getL (pc' := 54) (host := "") w (Or.inl (t133 hw)) Via.refl (Lk.new pS) (j := 6) rfl rfl d40_51 rfl ?_
  intro T w
  refine s_iloadN (pc' := 55) w d40_54 rfl rfl ?_
  refine s_iaload (pc' := 56) (v := (.int x0)) w (Lk.new pX) d40_55 (by decide) rfl rfl ?_
  refine s_lshl (pc' := 57) w d40_56 rfl ?_
  refine s_lor (pc' := 58) w d40_57 rfl ?_
  refine s_lastore (pc' := 59) (k := kE) w pE d40_58 c2 (by rw [c1]; exact (List.getElem?_eq_some_iff.mp hk').1) rfl ?_
  intro T w
  exact s_return w d40_59 (by decide) (by decide) ⟨rfl, by rw [c1]; rfl⟩
set_option maxRecDepth 65536 in
set_option maxHeartbeats 40000000 in
theorem c_set1_1 {Z : State} {a0 : Array Value} (hw : Tw Z a0) (l : Launch) (h0 : Heap) (n0 : Nat) (kS kP kT kH kL kW kX kM kK : Nat) (sz : Int32) (kE st' : Nat) (xv l0 l1 l2 x0 x1 x2 : Int32) (m0 m1 m2 kk' : Int64) (vs : List Value) (Ls : List Ob) (pS : Ls[kS]? = some (sOb n0 kP kT kH kL kW kX kM 1 kK sz)) (pL : Ls[kL]? = some (aI ([.int l0, .int l1, .int l2]))) (pW : Ls[kW]? = some (aI ([.int 0, .int 0, .int 0]))) (pX : Ls[kX]? = some (aI ([.int x0, .int x1, .int x2]))) (pM : Ls[kM]? = some (aJ ([.long m0, .long m1, .long m2]))) (pE : Ls[kE]? = some (aJ (vs))) (hst : st' < 100) (hk' : vs[st' + 0]? = some (.long kk')) :
    Met1 l Z (⟨"com/example/ryazan/ryazan/statespace/StateStore", "set", "([JIII)V"⟩ : MethodName) prog_197_method_12_code 8 none ({ frames := 0, cells := 0, slots := 0, locals := 0 } : Room) #[(.ref (n0 + kS)), (.ref (n0 + kE)), (.int (Int32.ofNat st')), (.int (1 : Int32)), (.int xv)] h0 n0 Ls (fun v L => v = none ∧ L = Ls.set kE (aJ (vs.set (st' + 0) (.long (setF kk' m1 x1 xv l1))))) [] := by
  refine Met1.of (ls := #[vR (n0 + kS), vR (n0 + kE), vI (Int32.ofNat st'), vI (1 : Int32), vI xv, un, un, un]) (plainFor_of_name pn10) (fun m => by first | (simp [entryFrame, mkF, argsToLocals, Value.category]; done) | rfl) ?_
  intro p e s m below meth c T w
  refine s_iloadN (pc' := 1) w d40_0 rfl rfl ?_
  refine s_aloadN (pc' := 2) w d40_1 rfl rfl rfl ?_
  refine s_getL (pc' := 5) (host := "") w (Or.inl (t131 hw)) Via.refl (Lk.new pS) (j := 5) rfl rfl d40_2 rfl ?_
  intro T w
  refine s_iloadN (pc' := 6) w d40_5 rfl rfl ?_
  refine s_iaload (pc' := 7) (v := (.int (0 : Int32))) w (Lk.new pW) d40_6 (by decide) rfl rfl ?_
  refine s_iadd (pc' := 8) w d40_7 rfl ?_
  rw [show Int32.ofNat st' + (0 : Int32) = Int32.ofNat (st' + 0) from b_add st' 0]
  have c1 : (Int32.ofNat (st' + 0)).toNatClampNeg = st' + 0 := i_cl (by omega)
  have c2 : ¬ Int32.ofNat (st' + 0) < 0 := i_nn (by omega)
  refine s_istore (pc' := 10) (ls' := #[vR (n0 + kS), vR (n0 + kE), vI (Int32.ofNat st'), vI (1 : Int32), vI xv, vI (Int32.ofNat (st' + 0)), un, un]) w d40_8 rfl rfl ?_
  refine s_aloadN (pc' := 11) w d40_10 rfl rfl rfl ?_
  refine s_iload (pc' := 13) w d40_11 rfl rfl ?_
  refine s_laload (pc' := 14) (v := (.long kk')) w (Lk.new pE) d40_13 c2 (by rw [c1]; exact hk') rfl ?_
  refine s_aloadN (pc' := 15) w d40_14 rfl rfl rfl ?_
  refine s_getL (pc' := 18) (host := "") w (Or.inl (t135 hw)) Via.refl (Lk.new pS) (j := 7) rfl rfl d40_15 rfl ?_
  intro T w
  refine s_iloadN (pc' := 19) w d40_18 rfl rfl ?_
  refine s_laload (pc' := 20) (v := (.long m1)) w (Lk.new pM) d40_19 (by decide) rfl rfl ?_
  refine s_aloadN (pc' := 21) w d40_20 rfl rfl rfl ?_
  refine s_getL (pc' := 24) (host := "") w (Or.inl (t133 hw)) Via.refl (Lk.new pS) (j := 6) rfl rfl d40_21 rfl ?_
  intro T w
  refine s_iloadN (pc' := 25) w d40_24 rfl rfl ?_
  refine s_iaload (pc' := 26) (v := (.int x1)) w (Lk.new pX) d40_25 (by decide) rfl rfl ?_
  refine s_lshl (pc' := 27) w d40_26 rfl ?_
  refine s_ldc2 (pc' := 30) w (t248 hw) d40_27 rfl ?_
  refine s_lxor (pc' := 31) w d40_30 rfl ?_
  refine s_land (pc' := 32) w d40_31 rfl ?_
  refine s_lstore (pc' := 34) (ls' := #[vR (n0 + kS), vR (n0 + kE), vI (Int32.ofNat st'), vI (1 : Int32), vI xv, vI (Int32.ofNat (st' + 0)), vJ (kk' &&& ((m1 <<< (x1.toInt64 &&& 63)) ^^^ (-1 : Int64))), sc]) w d40_32 rfl rfl ?_
  refine s_aloadN (pc' := 35) w d40_34 rfl rfl rfl ?_
  refine s_iload (pc' := 37) w d40_35 rfl rfl ?_
  refine s_lload (pc' := 39) w d40_37 rfl rfl ?_
  refine s_iload (pc' := 41) w d40_39 rfl rfl ?_
  refine s_i2l (pc' := 42) w d40_41 rfl ?_
  refine s_aloadN (pc' := 43) w d40_42 rfl rfl rfl ?_
  refine s_getL (pc' := 46) (host := "") w (Or.inl (t129 hw)) Via.refl (Lk.new pS) (j := 4) rfl rfl d40_43 rfl ?_
  intro T w
  refine s_iloadN (pc' := 47) w d40_46 rfl rfl ?_
  refine s_iaload (pc' := 48) (v := (.int l1)) w (Lk.new pL) d40_47 (by decide) rfl rfl ?_
  refine s_i2l (pc' := 49) w d40_48 rfl ?_
  refine s_lsub (pc' := 50) w d40_49 rfl ?_
  refine s_aloadN (pc' := 51) w d40_50 rfl rfl rfl ?_
  refine s_getL (pc' := 54) (host := "") w (Or.inl (t133 hw)) Via.refl (Lk.new pS) (j := 6) rfl rfl d40_51 rfl ?_
  intro T w
  refine s_iloadN (pc' := 55) w d40_54 rfl rfl ?_
  refine s_iaload (pc' := 56) (v := (.int x1)) w (Lk.new pX) d40_55 (by decide) rfl rfl ?_
  refine s_lshl (pc' := 57) w d40_56 rfl ?_
  refine s_lor (pc' := 58) w d40_57 rfl ?_
  refine s_lastore (pc' := 59) (k := kE) w pE d40_58 c2 (by rw [c1]; exact (List.getElem?_eq_some_iff.mp hk').1) rfl ?_
  intro T w
  exact s_return w d40_59 (by decide) (by decide) ⟨rfl, by rw [c1]; rfl⟩
set_option maxRecDepth 65536 in
set_option maxHeartbeats 40000000 in
theorem c_set1_2 {Z : State} {a0 : Array Value} (hw : Tw Z a0) (l : Launch) (h0 : Heap) (n0 : Nat) (kS kP kT kH kL kW kX kM kK : Nat) (sz : Int32) (kE st' : Nat) (xv l0 l1 l2 x0 x1 x2 : Int32) (m0 m1 m2 kk' : Int64) (vs : List Value) (Ls : List Ob) (pS : Ls[kS]? = some (sOb n0 kP kT kH kL kW kX kM 1 kK sz)) (pL : Ls[kL]? = some (aI ([.int l0, .int l1, .int l2]))) (pW : Ls[kW]? = some (aI ([.int 0, .int 0, .int 0]))) (pX : Ls[kX]? = some (aI ([.int x0, .int x1, .int x2]))) (pM : Ls[kM]? = some (aJ ([.long m0, .long m1, .long m2]))) (pE : Ls[kE]? = some (aJ (vs))) (hst : st' < 100) (hk' : vs[st' + 0]? = some (.long kk')) :
    Met1 l Z (⟨"com/example/ryazan/ryazan/statespace/StateStore", "set", "([JIII)V"⟩ : MethodName) prog_197_method_12_code 8 none ({ frames := 0, cells := 0, slots := 0, locals := 0 } : Room) #[(.ref (n0 + kS)), (.ref (n0 + kE)), (.int (Int32.ofNat st')), (.int (2 : Int32)), (.int xv)] h0 n0 Ls (fun v L => v = none ∧ L = Ls.set kE (aJ (vs.set (st' + 0) (.long (setF kk' m2 x2 xv l2))))) [] := by
  refine Met1.of (ls := #[vR (n0 + kS), vR (n0 + kE), vI (Int32.ofNat st'), vI (2 : Int32), vI xv, un, un, un]) (plainFor_of_name pn10) (fun m => by first | (simp [entryFrame, mkF, argsToLocals, Value.category]; done) | rfl) ?_
  intro p e s m below meth c T w
  refine s_iloadN (pc' := 1) w d40_0 rfl rfl ?_
  refine s_aloadN (pc' := 2) w d40_1 rfl rfl rfl ?_
  refine s_getL (pc' := 5) (host := "") w (Or.inl (t131 hw)) Via.refl (Lk.new pS) (j := 5) rfl rfl d40_2 rfl ?_
  intro T w
  refine s_iloadN (pc' := 6) w d40_5 rfl rfl ?_
  refine s_iaload (pc' := 7) (v := (.int (0 : Int32))) w (Lk.new pW) d40_6 (by decide) rfl rfl ?_
  refine s_iadd (pc' := 8) w d40_7 rfl ?_
  rw [show Int32.ofNat st' + (0 : Int32) = Int32.ofNat (st' + 0) from b_add st' 0]
  have c1 : (Int32.ofNat (st' + 0)).toNatClampNeg = st' + 0 := i_cl (by omega)
  have c2 : ¬ Int32.ofNat (st' + 0) < 0 := i_nn (by omega)
  refine s_istore (pc' := 10) (ls' := #[vR (n0 + kS), vR (n0 + kE), vI (Int32.ofNat st'), vI (2 : Int32), vI xv, vI (Int32.ofNat (st' + 0)), un, un]) w d40_8 rfl rfl ?_
  refine s_aloadN (pc' := 11) w d40_10 rfl rfl rfl ?_
  refine s_iload (pc' := 13) w d40_11 rfl rfl ?_
  refine s_laload (pc' := 14) (v := (.long kk')) w (Lk.new pE) d40_13 c2 (by rw [c1]; exact hk') rfl ?_
  refine s_aloadN (pc' := 15) w d40_14 rfl rfl rfl ?_
  refine s_getL (pc' := 18) (host := "") w (Or.inl (t135 hw)) Via.refl (Lk.new pS) (j := 7) rfl rfl d40_15 rfl ?_
  intro T w
  refine s_iloadN (pc' := 19) w d40_18 rfl rfl ?_
  refine s_laload (pc' := 20) (v := (.long m2)) w (Lk.new pM) d40_19 (by decide) rfl rfl ?_
  refine s_aloadN (pc' := 21) w d40_20 rfl rfl rfl ?_
  refine s_getL (pc' := 24) (host := "") w (Or.inl (t133 hw)) Via.refl (Lk.new pS) (j := 6) rfl rfl d40_21 rfl ?_
  intro T w
  refine s_iloadN (pc' := 25) w d40_24 rfl rfl ?_
  refine s_iaload (pc' := 26) (v := (.int x2)) w (Lk.new pX) d40_25 (by decide) rfl rfl ?_
  refine s_lshl (pc' := 27) w d40_26 rfl ?_
  refine s_ldc2 (pc' := 30) w (t248 hw) d40_27 rfl ?_
  refine s_lxor (pc' := 31) w d40_30 rfl ?_
  refine s_land (pc' := 32) w d40_31 rfl ?_
  refine s_lstore (pc' := 34) (ls' := #[vR (n0 + kS), vR (n0 + kE), vI (Int32.ofNat st'), vI (2 : Int32), vI xv, vI (Int32.ofNat (st' + 0)), vJ (kk' &&& ((m2 <<< (x2.toInt64 &&& 63)) ^^^ (-1 : Int64))), sc]) w d40_32 rfl rfl ?_
  refine s_aloadN (pc' := 35) w d40_34 rfl rfl rfl ?_
  refine s_iload (pc' := 37) w d40_35 rfl rfl ?_
  refine s_lload (pc' := 39) w d40_37 rfl rfl ?_
  refine s_iload (pc' := 41) w d40_39 rfl rfl ?_
  refine s_i2l (pc' := 42) w d40_41 rfl ?_
  refine s_aloadN (pc' := 43) w d40_42 rfl rfl rfl ?_
  refine s_getL (pc' := 46) (host := "") w (Or.inl (t129 hw)) Via.refl (Lk.new pS) (j := 4) rfl rfl d40_43 rfl ?_
  intro T w
  refine s_iloadN (pc' := 47) w d40_46 rfl rfl ?_
  refine s_iaload (pc' := 48) (v := (.int l2)) w (Lk.new pL) d40_47 (by decide) rfl rfl ?_
  refine s_i2l (pc' := 49) w d40_48 rfl ?_
  refine s_lsub (pc' := 50) w d40_49 rfl ?_
  refine s_aloadN (pc' := 51) w d40_50 rfl rfl rfl ?_
  refine s_getL (pc' := 54) (host := "") w (Or.inl (t133 hw)) Via.refl (Lk.new pS) (j := 6) rfl rfl d40_51 rfl ?_
  intro T w
  refine s_iloadN (pc' := 55) w d40_54 rfl rfl ?_
  refine s_iaload (pc' := 56) (v := (.int x2)) w (Lk.new pX) d40_55 (by decide) rfl rfl ?_
  refine s_lshl (pc' := 57) w d40_56 rfl ?_
  refine s_lor (pc' := 58) w d40_57 rfl ?_
  refine s_lastore (pc' := 59) (k := kE) w pE d40_58 c2 (by rw [c1]; exact (List.getElem?_eq_some_iff.mp hk').1) rfl ?_
  intro T w
  exact s_return w d40_59 (by decide) (by decide) ⟨rfl, by rw [c1]; rfl⟩
set_option maxRecDepth 65536 in
set_option maxHeartbeats 40000000 in
theorem c_hash2 {Z : State} {a0 : Array Value} (hw : Tw Z a0) (l : Launch) (h0 : Heap) (n0 : Nat) (a b : Addr) (n : Nat) (vs : List Value) (x0 : Int64) (x1 : Int64) (Ls : List Ob) (fv : List Value) (q : Lk Z h0 n0 Ls a (.inl ("com/example/ryazan/ryazan/statespace/StateStore", fs2, fv))) (hwp : fv[8]? = some (.int 2)) (qf : Lk Z h0 n0 Ls b (aJ (vs))) (hn : n < 1000) (hv0 : vs[n + 0]? = some (.long x0)) (hv1 : vs[n + 1]? = some (.long x1)) :
    Met1 l Z (⟨"com/example/ryazan/ryazan/statespace/StateStore", "hash", "([JI)I"⟩ : MethodName) prog_197_method_25_code 6 (some .int) ({ frames := 0, cells := 0, slots := 0, locals := 0 } : Room) #[(.ref a), (.ref b), (.int (Int32.ofNat n))] h0 n0 Ls (fun v L => v = some (.int (hfin (hfold [x0, x1]))) ∧ L = Ls) [] := by
  refine Met1.of (ls := #[vR a, vR b, vI (Int32.ofNat n), un, un, un]) (plainFor_of_name pn10) (fun m => by first | (simp [entryFrame, mkF, argsToLocals, Value.category]; done) | rfl) ?_
  intro p e s m below meth c T w
  refine s_lconst (pc' := 1) (0 : Int64) w d32_0 (by decide) rfl ?_
  refine s_lstoreN (pc' := 2) (ls' := #[vR a, vR b, vI (Int32.ofNat n), vJ (0 : Int64), sc, un]) w d32_1 rfl rfl ?_
  refine s_iloadN (pc' := 3) w d32_2 rfl rfl ?_
  refine s_istore (pc' := 5) (ls' := #[vR a, vR b, vI (Int32.ofNat n), vJ (0 : Int64), sc, vI (Int32.ofNat n)]) w d32_3 rfl rfl ?_
  change Go p e below _ T (mkF m 5 #[vR a, vR b, vI (Int32.ofNat n), vJ (0 : Int64), sc, vI (Int32.ofNat (n + 0))] [])
  refine s_iload (pc' := 7) w d32_5 rfl rfl ?_
  refine s_iloadN (pc' := 8) w d32_7 rfl rfl ?_
  refine s_aloadN (pc' := 9) w d32_8 rfl rfl rfl ?_
  refine s_getL (pc' := 12) (host := "") w (Or.inl (t179 hw)) Via.refl q (j := 8) rfl hwp d32_9 rfl ?_
  intro T w
  refine s_iadd (pc' := 13) w d32_12 rfl ?_
  rw [show Int32.ofNat n + (2 : Int32) = Int32.ofNat (n + 2) from b_add n 2]
  refine s_icmpN (pc' := 16) w d32_13 (Jvm.Free.XT.ii_ge_f (i_in hn (by decide) (by decide))) rfl ?_
  refine s_lloadN (pc' := 17) w d32_16 rfl rfl ?_
  refine s_aloadN (pc' := 18) w d32_17 rfl rfl rfl ?_
  refine s_iload (pc' := 20) w d32_18 rfl rfl ?_
  refine s_laload (pc' := 21) (v := (.long x0)) w qf d32_20 (i_nn (by omega)) (by rw [i_cl (by omega)]; exact hv0) rfl ?_
  refine s_ladd (pc' := 22) w d32_21 rfl ?_
  refine s_ldc2 (pc' := 25) w (t207 hw) d32_22 rfl ?_
  refine s_lmul (pc' := 26) w d32_25 rfl ?_
  refine s_lstoreN (pc' := 27) (ls' := #[vR a, vR b, vI (Int32.ofNat n), vJ (((0 : Int64) + x0) * (-7046029254386353131 : Int64)), sc, vI (Int32.ofNat (n + 0))]) w d32_26 rfl rfl ?_
  refine s_iinc (pc' := 30) (ls' := #[vR a, vR b, vI (Int32.ofNat n), vJ (((0 : Int64) + x0) * (-7046029254386353131 : Int64)), sc, vI ((Int32.ofNat (n + 0)) + (1 : Int32))]) (1 : Int32) w d32_27 (by decide) rfl rfl rfl ?_
  rw [show Int32.ofNat (n + 0) + (1 : Int32) = Int32.ofNat (n + 1) from b_add (n + 0) 1]
  refine s_goto (pc' := 5) w d32_30 (by decide) (by decide) ?_
  refine s_iload (pc' := 7) w d32_5 rfl rfl ?_
  refine s_iloadN (pc' := 8) w d32_7 rfl rfl ?_
  refine s_aloadN (pc' := 9) w d32_8 rfl rfl rfl ?_
  refine s_getL (pc' := 12) (host := "") w (Or.inl (t179 hw)) Via.refl q (j := 8) rfl hwp d32_9 rfl ?_
  intro T w
  refine s_iadd (pc' := 13) w d32_12 rfl ?_
  rw [show Int32.ofNat n + (2 : Int32) = Int32.ofNat (n + 2) from b_add n 2]
  refine s_icmpN (pc' := 16) w d32_13 (Jvm.Free.XT.ii_ge_f (i_in hn (by decide) (by decide))) rfl ?_
  refine s_lloadN (pc' := 17) w d32_16 rfl rfl ?_
  refine s_aloadN (pc' := 18) w d32_17 rfl rfl rfl ?_
  refine s_iload (pc' := 20) w d32_18 rfl rfl ?_
  refine s_laload (pc' := 21) (v := (.long x1)) w qf d32_20 (i_nn (by omega)) (by rw [i_cl (by omega)]; exact hv1) rfl ?_
  refine s_ladd (pc' := 22) w d32_21 rfl ?_
  refine s_ldc2 (pc' := 25) w (t207 hw) d32_22 rfl ?_
  refine s_lmul (pc' := 26) w d32_25 rfl ?_
  refine s_lstoreN (pc' := 27) (ls' := #[vR a, vR b, vI (Int32.ofNat n), vJ (((((0 : Int64) + x0) * (-7046029254386353131 : Int64)) + x1) * (-7046029254386353131 : Int64)), sc, vI (Int32.ofNat (n + 1))]) w d32_26 rfl rfl ?_
  refine s_iinc (pc' := 30) (ls' := #[vR a, vR b, vI (Int32.ofNat n), vJ (((((0 : Int64) + x0) * (-7046029254386353131 : Int64)) + x1) * (-7046029254386353131 : Int64)), sc, vI ((Int32.ofNat (n + 1)) + (1 : Int32))]) (1 : Int32) w d32_27 (by decide) rfl rfl rfl ?_
  rw [show Int32.ofNat (n + 1) + (1 : Int32) = Int32.ofNat (n + 2) from b_add (n + 1) 1]
  refine s_goto (pc' := 5) w d32_30 (by decide) (by decide) ?_
  refine s_iload (pc' := 7) w d32_5 rfl rfl ?_
  refine s_iloadN (pc' := 8) w d32_7 rfl rfl ?_
  refine s_aloadN (pc' := 9) w d32_8 rfl rfl rfl ?_
  refine s_getL (pc' := 12) (host := "") w (Or.inl (t179 hw)) Via.refl q (j := 8) rfl hwp d32_9 rfl ?_
  intro T w
  refine s_iadd (pc' := 13) w d32_12 rfl ?_
  rw [show Int32.ofNat n + (2 : Int32) = Int32.ofNat (n + 2) from b_add n 2]
  refine s_icmpY (pc' := 33) w d32_13 (Jvm.Free.XT.ii_ge_t (i_out hn (by decide))) (by decide) (by decide) ?_
  refine s_lloadN (pc' := 34) w d32_33 rfl rfl ?_
  refine s_lloadN (pc' := 35) w d32_34 rfl rfl ?_
  refine s_bipush (pc' := 37) (29 : Int32) w d32_35 (by decide) rfl ?_
  refine s_lushr (pc' := 38) w d32_37 rfl ?_
  refine s_lxor (pc' := 39) w d32_38 rfl ?_
  refine s_lstoreN (pc' := 40) (ls' := #[vR a, vR b, vI (Int32.ofNat n), vJ ((((((0 : Int64) + x0) * (-7046029254386353131 : Int64)) + x1) * (-7046029254386353131 : Int64)) ^^^ (Jvm.Free.XT.ushrL (((((0 : Int64) + x0) * (-7046029254386353131 : Int64)) + x1) * (-7046029254386353131 : Int64)) (29 : Int32))), sc, vI (Int32.ofNat (n + 2))]) w d32_39 rfl rfl ?_
  refine s_lloadN (pc' := 41) w d32_40 rfl rfl ?_
  refine s_ldc2 (pc' := 44) w (t208 hw) d32_41 rfl ?_
  refine s_lmul (pc' := 45) w d32_44 rfl ?_
  refine s_lstoreN (pc' := 46) (ls' := #[vR a, vR b, vI (Int32.ofNat n), vJ (((((((0 : Int64) + x0) * (-7046029254386353131 : Int64)) + x1) * (-7046029254386353131 : Int64)) ^^^ (Jvm.Free.XT.ushrL (((((0 : Int64) + x0) * (-7046029254386353131 : Int64)) + x1) * (-7046029254386353131 : Int64)) (29 : Int32))) * (-4658895280553007687 : Int64)), sc, vI (Int32.ofNat (n + 2))]) w d32_45 rfl rfl ?_
  refine s_lloadN (pc' := 47) w d32_46 rfl rfl ?_
  refine s_lloadN (pc' := 48) w d32_47 rfl rfl ?_
  refine s_bipush (pc' := 50) (32 : Int32) w d32_48 (by decide) rfl ?_
  refine s_lushr (pc' := 51) w d32_50 rfl ?_
  refine s_lxor (pc' := 52) w d32_51 rfl ?_
  refine s_lstoreN (pc' := 53) (ls' := #[vR a, vR b, vI (Int32.ofNat n), vJ ((((((((0 : Int64) + x0) * (-7046029254386353131 : Int64)) + x1) * (-7046029254386353131 : Int64)) ^^^ (Jvm.Free.XT.ushrL (((((0 : Int64) + x0) * (-7046029254386353131 : Int64)) + x1) * (-7046029254386353131 : Int64)) (29 : Int32))) * (-4658895280553007687 : Int64)) ^^^ (Jvm.Free.XT.ushrL (((((((0 : Int64) + x0) * (-7046029254386353131 : Int64)) + x1) * (-7046029254386353131 : Int64)) ^^^ (Jvm.Free.XT.ushrL (((((0 : Int64) + x0) * (-7046029254386353131 : Int64)) + x1) * (-7046029254386353131 : Int64)) (29 : Int32))) * (-4658895280553007687 : Int64)) (32 : Int32))), sc, vI (Int32.ofNat (n + 2))]) w d32_52 rfl rfl ?_
  refine s_lloadN (pc' := 54) w d32_53 rfl rfl ?_
  refine s_l2i (pc' := 55) w d32_54 rfl ?_
  exact s_ireturn w d32_55 (by decide) (by decide) ⟨rfl, rfl⟩
set_option maxRecDepth 65536 in
set_option maxHeartbeats 40000000 in
theorem c_place2 {Z : State} {a0 : Array Value} (hw : Tw Z a0) (l : Launch) (h0 : Heap) (n0 : Nat) (kS kP kT kH kL kW kX kM kK : Nat) (sz : Int32) (Ls : List Ob) (pS : Ls[kS]? = some (sOb n0 kP kT kH kL kW kX kM 2 kK sz)) :
    Met1 l Z (⟨"com/example/ryazan/ryazan/statespace/StateStore", "placeAgain", "()V"⟩ : MethodName) prog_197_method_9_code 1 none ({ frames := 0, cells := 0, slots := 0, locals := 0 } : Room) #[(.ref (n0 + kS))] h0 n0 Ls (fun v L => v = none ∧ L = Ls) [] := by
  refine Met1.of (ls := #[vR (n0 + kS)]) (plainFor_of_name pn10) (fun m => by first | (simp [entryFrame, mkF, argsToLocals, Value.category]; done) | rfl) ?_
  intro p e s m below meth c T w
  refine s_aloadN (pc' := 1) w d29_0 rfl rfl rfl ?_
  refine s_getL (pc' := 4) (host := "") w (Or.inl (t116 hw)) Via.refl (Lk.new pS) (j := 2) rfl rfl d29_1 rfl ?_
  intro T w
  refine s_ifnonnullY (pc' := 15) w d29_4 (by decide) (by decide) ?_
  exact s_return w d29_15 (by decide) (by decide) ⟨rfl, rfl⟩
set_option maxRecDepth 65536 in
set_option maxHeartbeats 40000000 in
theorem c_pack2 {Z : State} {a0 : Array Value} (hw : Tw Z a0) (l : Launch) (h0 : Heap) (n0 : Nat) (kS kP kT kH kL kW kX kM kK : Nat) (sz : Int32) (sa : Addr) (s0 s1 s2 l0 l1 l2 x0 x1 x2 : Int32) (y0 : Int64) (y1 : Int64) (Ls : List Ob) (pS : Ls[kS]? = some (sOb n0 kP kT kH kL kW kX kM 2 kK sz)) (pK : Ls[kK]? = some (aJ ([.long y0, .long y1]))) (pL : Ls[kL]? = some (aI ([.int l0, .int l1, .int l2]))) (pW : Ls[kW]? = some (aI ([.int 0, .int 0, .int 1]))) (pX : Ls[kX]? = some (aI ([.int x0, .int x1, .int x2]))) (qa : Lk Z h0 n0 Ls sa (aI ([.int s0, .int s1, .int s2]))) (neS : kK ≠ kS) (neL : kK ≠ kL) (neW : kK ≠ kW) (neX : kK ≠ kX) (neA : sa ≠ n0 + kK) :
    Met1 l Z (⟨"com/example/ryazan/ryazan/statespace/StateStore", "pack", "([I)V"⟩ : MethodName) prog_197_method_13_code 3 none ({ frames := 1, cells := 0, slots := 0, locals := 16 } : Room) #[(.ref (n0 + kS)), (.ref sa)] h0 n0 Ls (fun v L => v = none ∧ L = Ls.set kK (aJ ([.long (((0 : Int64) ||| (dS s0 l0 x0)) ||| (dS s1 l1 x1)), .long ((0 : Int64) ||| (dS s2 l2 x2))]))) [] := by
  refine Met1.of (ls := #[vR (n0 + kS), vR sa, un]) (plainFor_of_name pn10) (fun m => by first | (simp [entryFrame, mkF, argsToLocals, Value.category]; done) | rfl) ?_
  intro p e s m below meth c T w
  refine s_aloadN (pc' := 1) w d30_0 rfl rfl rfl ?_
  refine s_getL (pc' := 4) (host := "") w (Or.inl (t181 hw)) Via.refl (Lk.new pS) (j := 9) rfl rfl d30_1 rfl ?_
  intro T w
  refine s_lconst (pc' := 5) (0 : Int64) w d30_4 (by decide) rfl ?_
  refine s_static (pc' := 8) (rest := []) 0 [(.ref (n0 + kK)), (.long (0 : Int64))] w (c_fillJ hw l h0 n0 kK 0 [.long y0, .long y1] 2 Ls pK rfl (leB rfl)) (t199 hw) (t200 hw) (t114 hw) (t201 hw) (by decide) pd12 d30_5 (by decide) rfl rfl rfl rfl (Nat.le_of_eq rfl) rfl ?_
  intro T v L' hQ w
  obtain ⟨rfl, hL⟩ := hQ
  replace hL := hL.symm
  subst hL
  dsimp only [oS, oN, cA, nA]
  replace w : St p l e _ s m _ below meth c Z _ _ _ _ h0 n0 T (Ls.set kK (aJ ([.long (0 : Int64), .long (0 : Int64)]))) 0 0 := w
  have rS := fun o : Ob => (lk_ne (o := o) pS neS)
  have rL := fun o : Ob => (lk_ne (o := o) pL neL)
  have rW := fun o : Ob => (lk_ne (o := o) pW neW)
  have rX := fun o : Ob => (lk_ne (o := o) pX neX)
  have rA := fun o : Ob => (Lk.set (o2 := o) qa pK neA)
  have rK := fun o : Ob => (lk_set (o := o) pK)
  refine s_iconst (pc' := 9) (0 : Int32) w d30_8 (by decide) rfl ?_
  refine s_istoreN (pc' := 10) (ls' := #[vR (n0 + kS), vR sa, vI (0 : Int32)]) w d30_9 rfl rfl ?_
  refine s_iloadN (pc' := 11) w d30_10 rfl rfl ?_
  refine s_aloadN (pc' := 12) w d30_11 rfl rfl rfl ?_
  refine s_getL (pc' := 15) (host := "") w (Or.inl (t129 hw)) Via.refl (Lk.new (rS _)) (j := 4) rfl rfl d30_12 rfl ?_
  intro T w
  refine s_arraylength (pc' := 16) (3 : Int32) w (Lk.new (rL _)) d30_15 rfl rfl ?_
  refine s_icmpN (pc' := 19) w d30_16 (Jvm.Free.XT.ii_ge_f (by decide)) rfl ?_
  refine s_aloadN (pc' := 20) w d30_19 rfl rfl rfl ?_
  refine s_getL (pc' := 23) (host := "") w (Or.inl (t181 hw)) Via.refl (Lk.new (rS _)) (j := 9) rfl rfl d30_20 rfl ?_
  intro T w
  refine s_aloadN (pc' := 24) w d30_23 rfl rfl rfl ?_
  refine s_getL (pc' := 27) (host := "") w (Or.inl (t131 hw)) Via.refl (Lk.new (rS _)) (j := 5) rfl rfl d30_24 rfl ?_
  intro T w
  refine s_iloadN (pc' := 28) w d30_27 rfl rfl ?_
  refine s_iaload (pc' := 29) (v := (.int (0 : Int32))) w (Lk.new (rW _)) d30_28 (by decide) rfl rfl ?_
  refine s_dup2 (pc' := 30) w d30_29 rfl rfl rfl ?_
  refine s_laload (pc' := 31) (v := (.long (0 : Int64))) w (Lk.new (rK _)) d30_30 (by decide) rfl rfl ?_
  refine s_aloadN (pc' := 32) w d30_31 rfl rfl rfl ?_
  refine s_iloadN (pc' := 33) w d30_32 rfl rfl ?_
  refine s_iaload (pc' := 34) (v := (.int s0)) w (rA _) d30_33 (by decide) rfl rfl ?_
  refine s_i2l (pc' := 35) w d30_34 rfl ?_
  refine s_aloadN (pc' := 36) w d30_35 rfl rfl rfl ?_
  refine s_getL (pc' := 39) (host := "") w (Or.inl (t129 hw)) Via.refl (Lk.new (rS _)) (j := 4) rfl rfl d30_36 rfl ?_
  intro T w
  refine s_iloadN (pc' := 40) w d30_39 rfl rfl ?_
  refine s_iaload (pc' := 41) (v := (.int l0)) w (Lk.new (rL _)) d30_40 (by decide) rfl rfl ?_
  refine s_i2l (pc' := 42) w d30_41 rfl ?_
  refine s_lsub (pc' := 43) w d30_42 rfl ?_
  refine s_aloadN (pc' := 44) w d30_43 rfl rfl rfl ?_
  refine s_getL (pc' := 47) (host := "") w (Or.inl (t133 hw)) Via.refl (Lk.new (rS _)) (j := 6) rfl rfl d30_44 rfl ?_
  intro T w
  refine s_iloadN (pc' := 48) w d30_47 rfl rfl ?_
  refine s_iaload (pc' := 49) (v := (.int x0)) w (Lk.new (rX _)) d30_48 (by decide) rfl rfl ?_
  refine s_lshl (pc' := 50) w d30_49 rfl ?_
  refine s_lor (pc' := 51) w d30_50 rfl ?_
  refine s_lastore (pc' := 52) (k := kK) w (rK _) d30_51 (by decide) (leB rfl) rfl ?_
  intro T w
  rw [List.set_set] at w
  replace w : St p l e _ s m _ below meth c Z _ _ _ _ h0 n0 T (Ls.set kK (aJ ([.long ((0 : Int64) ||| (dS s0 l0 x0)), .long (0 : Int64)]))) 0 0 := w
  refine s_iinc (pc' := 55) (ls' := #[vR (n0 + kS), vR sa, vI ((0 : Int32) + (1 : Int32))]) (1 : Int32) w d30_52 (by decide) rfl rfl rfl ?_
  rw [show (0 : Int32) + 1 = 1 by decide]
  refine s_goto (pc' := 10) w d30_55 (by decide) (by decide) ?_
  refine s_iloadN (pc' := 11) w d30_10 rfl rfl ?_
  refine s_aloadN (pc' := 12) w d30_11 rfl rfl rfl ?_
  refine s_getL (pc' := 15) (host := "") w (Or.inl (t129 hw)) Via.refl (Lk.new (rS _)) (j := 4) rfl rfl d30_12 rfl ?_
  intro T w
  refine s_arraylength (pc' := 16) (3 : Int32) w (Lk.new (rL _)) d30_15 rfl rfl ?_
  refine s_icmpN (pc' := 19) w d30_16 (Jvm.Free.XT.ii_ge_f (by decide)) rfl ?_
  refine s_aloadN (pc' := 20) w d30_19 rfl rfl rfl ?_
  refine s_getL (pc' := 23) (host := "") w (Or.inl (t181 hw)) Via.refl (Lk.new (rS _)) (j := 9) rfl rfl d30_20 rfl ?_
  intro T w
  refine s_aloadN (pc' := 24) w d30_23 rfl rfl rfl ?_
  refine s_getL (pc' := 27) (host := "") w (Or.inl (t131 hw)) Via.refl (Lk.new (rS _)) (j := 5) rfl rfl d30_24 rfl ?_
  intro T w
  refine s_iloadN (pc' := 28) w d30_27 rfl rfl ?_
  refine s_iaload (pc' := 29) (v := (.int (0 : Int32))) w (Lk.new (rW _)) d30_28 (by decide) rfl rfl ?_
  refine s_dup2 (pc' := 30) w d30_29 rfl rfl rfl ?_
  refine s_laload (pc' := 31) (v := (.long ((0 : Int64) ||| (dS s0 l0 x0)))) w (Lk.new (rK _)) d30_30 (by decide) rfl rfl ?_
  refine s_aloadN (pc' := 32) w d30_31 rfl rfl rfl ?_
  refine s_iloadN (pc' := 33) w d30_32 rfl rfl ?_
  refine s_iaload (pc' := 34) (v := (.int s1)) w (rA _) d30_33 (by decide) rfl rfl ?_
  refine s_i2l (pc' := 35) w d30_34 rfl ?_
  refine s_aloadN (pc' := 36) w d30_35 rfl rfl rfl ?_
  refine s_getL (pc' := 39) (host := "") w (Or.inl (t129 hw)) Via.refl (Lk.new (rS _)) (j := 4) rfl rfl d30_36 rfl ?_
  intro T w
  refine s_iloadN (pc' := 40) w d30_39 rfl rfl ?_
  refine s_iaload (pc' := 41) (v := (.int l1)) w (Lk.new (rL _)) d30_40 (by decide) rfl rfl ?_
  refine s_i2l (pc' := 42) w d30_41 rfl ?_
  refine s_lsub (pc' := 43) w d30_42 rfl ?_
  refine s_aloadN (pc' := 44) w d30_43 rfl rfl rfl ?_
  refine s_getL (pc' := 47) (host := "") w (Or.inl (t133 hw)) Via.refl (Lk.new (rS _)) (j := 6) rfl rfl d30_44 rfl ?_
  intro T w
  refine s_iloadN (pc' := 48) w d30_47 rfl rfl ?_
  refine s_iaload (pc' := 49) (v := (.int x1)) w (Lk.new (rX _)) d30_48 (by decide) rfl rfl ?_
  refine s_lshl (pc' := 50) w d30_49 rfl ?_
  refine s_lor (pc' := 51) w d30_50 rfl ?_
  refine s_lastore (pc' := 52) (k := kK) w (rK _) d30_51 (by decide) (leB rfl) rfl ?_
  intro T w
  rw [List.set_set] at w
  replace w : St p l e _ s m _ below meth c Z _ _ _ _ h0 n0 T (Ls.set kK (aJ ([.long (((0 : Int64) ||| (dS s0 l0 x0)) ||| (dS s1 l1 x1)), .long (0 : Int64)]))) 0 0 := w
  refine s_iinc (pc' := 55) (ls' := #[vR (n0 + kS), vR sa, vI ((1 : Int32) + (1 : Int32))]) (1 : Int32) w d30_52 (by decide) rfl rfl rfl ?_
  rw [show (1 : Int32) + 1 = 2 by decide]
  refine s_goto (pc' := 10) w d30_55 (by decide) (by decide) ?_
  refine s_iloadN (pc' := 11) w d30_10 rfl rfl ?_
  refine s_aloadN (pc' := 12) w d30_11 rfl rfl rfl ?_
  refine s_getL (pc' := 15) (host := "") w (Or.inl (t129 hw)) Via.refl (Lk.new (rS _)) (j := 4) rfl rfl d30_12 rfl ?_
  intro T w
  refine s_arraylength (pc' := 16) (3 : Int32) w (Lk.new (rL _)) d30_15 rfl rfl ?_
  refine s_icmpN (pc' := 19) w d30_16 (Jvm.Free.XT.ii_ge_f (by decide)) rfl ?_
  refine s_aloadN (pc' := 20) w d30_19 rfl rfl rfl ?_
  refine s_getL (pc' := 23) (host := "") w (Or.inl (t181 hw)) Via.refl (Lk.new (rS _)) (j := 9) rfl rfl d30_20 rfl ?_
  intro T w
  refine s_aloadN (pc' := 24) w d30_23 rfl rfl rfl ?_
  refine s_getL (pc' := 27) (host := "") w (Or.inl (t131 hw)) Via.refl (Lk.new (rS _)) (j := 5) rfl rfl d30_24 rfl ?_
  intro T w
  refine s_iloadN (pc' := 28) w d30_27 rfl rfl ?_
  refine s_iaload (pc' := 29) (v := (.int (1 : Int32))) w (Lk.new (rW _)) d30_28 (by decide) rfl rfl ?_
  refine s_dup2 (pc' := 30) w d30_29 rfl rfl rfl ?_
  refine s_laload (pc' := 31) (v := (.long (0 : Int64))) w (Lk.new (rK _)) d30_30 (by decide) rfl rfl ?_
  refine s_aloadN (pc' := 32) w d30_31 rfl rfl rfl ?_
  refine s_iloadN (pc' := 33) w d30_32 rfl rfl ?_
  refine s_iaload (pc' := 34) (v := (.int s2)) w (rA _) d30_33 (by decide) rfl rfl ?_
  refine s_i2l (pc' := 35) w d30_34 rfl ?_
  refine s_aloadN (pc' := 36) w d30_35 rfl rfl rfl ?_
  refine s_getL (pc' := 39) (host := "") w (Or.inl (t129 hw)) Via.refl (Lk.new (rS _)) (j := 4) rfl rfl d30_36 rfl ?_
  intro T w
  refine s_iloadN (pc' := 40) w d30_39 rfl rfl ?_
  refine s_iaload (pc' := 41) (v := (.int l2)) w (Lk.new (rL _)) d30_40 (by decide) rfl rfl ?_
  refine s_i2l (pc' := 42) w d30_41 rfl ?_
  refine s_lsub (pc' := 43) w d30_42 rfl ?_
  refine s_aloadN (pc' := 44) w d30_43 rfl rfl rfl ?_
  refine s_getL (pc' := 47) (host := "") w (Or.inl (t133 hw)) Via.refl (Lk.new (rS _)) (j := 6) rfl rfl d30_44 rfl ?_
  intro T w
  refine s_iloadN (pc' := 48) w d30_47 rfl rfl ?_
  refine s_iaload (pc' := 49) (v := (.int x2)) w (Lk.new (rX _)) d30_48 (by decide) rfl rfl ?_
  refine s_lshl (pc' := 50) w d30_49 rfl ?_
  refine s_lor (pc' := 51) w d30_50 rfl ?_
  refine s_lastore (pc' := 52) (k := kK) w (rK _) d30_51 (by decide) (leB rfl) rfl ?_
  intro T w
  rw [List.set_set] at w
  replace w : St p l e _ s m _ below meth c Z _ _ _ _ h0 n0 T (Ls.set kK (aJ ([.long (((0 : Int64) ||| (dS s0 l0 x0)) ||| (dS s1 l1 x1)), .long ((0 : Int64) ||| (dS s2 l2 x2))]))) 0 0 := w
  refine s_iinc (pc' := 55) (ls' := #[vR (n0 + kS), vR sa, vI ((2 : Int32) + (1 : Int32))]) (1 : Int32) w d30_52 (by decide) rfl rfl rfl ?_
  rw [show (2 : Int32) + 1 = 3 by decide]
  refine s_goto (pc' := 10) w d30_55 (by decide) (by decide) ?_
  refine s_iloadN (pc' := 11) w d30_10 rfl rfl ?_
  refine s_aloadN (pc' := 12) w d30_11 rfl rfl rfl ?_
  refine s_getL (pc' := 15) (host := "") w (Or.inl (t129 hw)) Via.refl (Lk.new (rS _)) (j := 4) rfl rfl d30_12 rfl ?_
  intro T w
  refine s_arraylength (pc' := 16) (3 : Int32) w (Lk.new (rL _)) d30_15 rfl rfl ?_
  refine s_icmpY (pc' := 58) w d30_16 (Jvm.Free.XT.ii_ge_t (by decide)) (by decide) (by decide) ?_
  exact s_return w d30_58 (by decide) (by decide) ⟨rfl, rfl⟩
set_option maxRecDepth 65536 in
set_option maxHeartbeats 40000000 in
theorem c_entry2 {Z : State} {a0 : Array Value} (hw : Tw Z a0) (l : Launch) (h0 : Heap) (n0 : Nat) (kS kP kT kH kL kW kX kM kK : Nat) (sz : Int32) (e' hh : Int32) (Ls : List Ob) (pS : Ls[kS]? = some (sOb n0 kP kT kH kL kW kX kM 2 kK sz)) :
    Met1 l Z (⟨"com/example/ryazan/ryazan/statespace/StateStore", "entry", "(II)I"⟩ : MethodName) prog_197_method_19_code 3 (some .int) ({ frames := 0, cells := 0, slots := 0, locals := 0 } : Room) #[(.ref (n0 + kS)), (.int e'), (.int hh)] h0 n0 Ls (fun v L => v = some (.int (entF e' hh)) ∧ L = Ls) [] := by
  refine Met1.of (ls := #[vR (n0 + kS), vI e', vI hh]) (plainFor_of_name pn10) (fun m => by first | (simp [entryFrame, mkF, argsToLocals, Value.category]; done) | rfl) ?_
  intro p e s m below meth c T w
  refine s_iloadN (pc' := 1) w d38_0 rfl rfl ?_
  refine s_aloadN (pc' := 2) w d38_1 rfl rfl rfl ?_
  refine s_getL (pc' := 5) (host := "") w (Or.inl (t103 hw)) Via.refl (Lk.new pS) (j := 1) rfl rfl d38_2 rfl ?_
  intro T w
  refine s_iushr (pc' := 6) w d38_5 rfl ?_
  refine s_aloadN (pc' := 7) w d38_6 rfl rfl rfl ?_
  refine s_getL (pc' := 10) (host := "") w (Or.inl (t103 hw)) Via.refl (Lk.new pS) (j := 1) rfl rfl d38_7 rfl ?_
  intro T w
  refine s_iconst (pc' := 11) (1 : Int32) w d38_10 (by decide) rfl ?_
  refine s_isub (pc' := 12) w d38_11 rfl ?_
  refine s_ishl (pc' := 13) w d38_12 rfl ?_
  refine s_iloadN (pc' := 14) w d38_13 rfl rfl ?_
  refine s_ior (pc' := 15) w d38_14 rfl ?_
  exact s_ireturn w d38_15 (by decide) (by decide) ⟨rfl, rfl⟩
set_option maxRecDepth 65536 in
set_option maxHeartbeats 40000000 in
theorem c_num2 {Z : State} {a0 : Array Value} (hw : Tw Z a0) (l : Launch) (h0 : Heap) (n0 : Nat) (kS kP kT kH kL kW kX kM kK : Nat) (sz : Int32) (e' : Int32) (Ls : List Ob) (pS : Ls[kS]? = some (sOb n0 kP kT kH kL kW kX kM 2 kK sz)) :
    Met1 l Z (⟨"com/example/ryazan/ryazan/statespace/StateStore", "number", "(I)I"⟩ : MethodName) prog_197_method_21_code 2 (some .int) ({ frames := 0, cells := 0, slots := 0, locals := 0 } : Room) #[(.ref (n0 + kS)), (.int e')] h0 n0 Ls (fun v L => v = some (.int (numF e')) ∧ L = Ls) [] := by
  refine Met1.of (ls := #[vR (n0 + kS), vI e']) (plainFor_of_name pn10) (fun m => by first | (simp [entryFrame, mkF, argsToLocals, Value.category]; done) | rfl) ?_
  intro p e s m below meth c T w
  refine s_iloadN (pc' := 1) w d43_0 rfl rfl ?_
  refine s_iconst (pc' := 2) (1 : Int32) w d43_1 (by decide) rfl ?_
  refine s_aloadN (pc' := 3) w d43_2 rfl rfl rfl ?_
  refine s_getL (pc' := 6) (host := "") w (Or.inl (t103 hw)) Via.refl (Lk.new pS) (j := 1) rfl rfl d43_3 rfl ?_
  intro T w
  refine s_iconst (pc' := 7) (1 : Int32) w d43_6 (by decide) rfl ?_
  refine s_isub (pc' := 8) w d43_7 rfl ?_
  refine s_ishl (pc' := 9) w d43_8 rfl ?_
  refine s_iconst (pc' := 10) (1 : Int32) w d43_9 (by decide) rfl ?_
  refine s_isub (pc' := 11) w d43_10 rfl ?_
  refine s_iand (pc' := 12) w d43_11 rfl ?_
  exact s_ireturn w d43_12 (by decide) (by decide) ⟨rfl, rfl⟩
set_option maxRecDepth 65536 in
set_option maxHeartbeats 40000000 in
theorem c_shares2 {Z : State} {a0 : Array Value} (hw : Tw Z a0) (l : Launch) (h0 : Heap) (n0 : Nat) (kS kP kT kH kL kW kX kM kK : Nat) (sz : Int32) (e' hh : Int32) (Ls : List Ob) (pS : Ls[kS]? = some (sOb n0 kP kT kH kL kW kX kM 2 kK sz)) :
    Met1 l Z (⟨"com/example/ryazan/ryazan/statespace/StateStore", "sharesHash", "(II)Z"⟩ : MethodName) prog_197_method_20_code 3 (some .boolean) ({ frames := 0, cells := 0, slots := 0, locals := 0 } : Room) #[(.ref (n0 + kS)), (.int e'), (.int hh)] h0 n0 Ls (fun v L => v = some (.int (if Jvm.Free.XT.ushr e' ((10 : Int32) - (1 : Int32)) = Jvm.Free.XT.ushr hh (10 : Int32) then 1 else 0)) ∧ L = Ls) [] := by
  refine Met1.of (ls := #[vR (n0 + kS), vI e', vI hh]) (plainFor_of_name pn10) (fun m => by first | (simp [entryFrame, mkF, argsToLocals, Value.category]; done) | rfl) ?_
  intro p e s m below meth c T w
  refine s_iloadN (pc' := 1) w d42_0 rfl rfl ?_
  refine s_aloadN (pc' := 2) w d42_1 rfl rfl rfl ?_
  refine s_getL (pc' := 5) (host := "") w (Or.inl (t103 hw)) Via.refl (Lk.new pS) (j := 1) rfl rfl d42_2 rfl ?_
  intro T w
  refine s_iconst (pc' := 6) (1 : Int32) w d42_5 (by decide) rfl ?_
  refine s_isub (pc' := 7) w d42_6 rfl ?_
  refine s_iushr (pc' := 8) w d42_7 rfl ?_
  refine s_iloadN (pc' := 9) w d42_8 rfl rfl ?_
  refine s_aloadN (pc' := 10) w d42_9 rfl rfl rfl ?_
  refine s_getL (pc' := 13) (host := "") w (Or.inl (t103 hw)) Via.refl (Lk.new pS) (j := 1) rfl rfl d42_10 rfl ?_
  intro T w
  refine s_iushr (pc' := 14) w d42_13 rfl ?_
  refine Go.via (T' := T) (g' := (mkF m 22 #[vR (n0 + kS), vI e', vI hh] [(.int (if Jvm.Free.XT.ushr e' ((10 : Int32) - (1 : Int32)) = Jvm.Free.XT.ushr hh (10 : Int32) then (1 : Int32) else (0 : Int32)))])) ?_ ?_
  · intro K
    by_cases h : Jvm.Free.XT.ushr e' ((10 : Int32) - (1 : Int32)) = Jvm.Free.XT.ushr hh (10 : Int32)
    · refine s_icmpN (pc' := 17) w d42_14 (Jvm.Free.XT.ii_ne_f h) rfl ?_
      refine s_iconst (pc' := 18) (1 : Int32) w d42_17 (by decide) rfl ?_
      refine s_goto (pc' := 22) w d42_18 (by decide) (by decide) ?_
      exact Go.cast (by rw [if_pos h]) K
    · refine s_icmpY (pc' := 21) w d42_14 (Jvm.Free.XT.ii_ne_t h) (by decide) (by decide) ?_
      refine s_iconst (pc' := 22) (0 : Int32) w d42_21 (by decide) rfl ?_
      exact Go.cast (by rw [if_neg h]) K
  exact s_zreturn (by split <;> rfl) w d42_22 (by decide) (by decide) ⟨rfl, rfl⟩
set_option maxRecDepth 65536 in
set_option maxHeartbeats 40000000 in
theorem c_holds2 {Z : State} {a0 : Array Value} (hw : Tw Z a0) (l : Launch) (h0 : Heap) (n0 : Nat) (kS kP kT kH kL kW kX kM kK : Nat) (sz : Int32) (e' hh : Int32) (b : Addr) (pk fv : List Value) (p0 k0 : Int64) (p1 k1 : Int64) (Ls : List Ob) (pS : Ls[kS]? = some (sOb n0 kP kT kH kL kW kX kM 2 kK sz)) (he : numF e' = 0) (pP : Ls[kP]? = some (aJ (pk))) (qf : Lk Z h0 n0 Ls b (aJ (fv))) (hp0 : pk[0]? = some (.long p0)) (hk0 : fv[0]? = some (.long k0)) (hp1 : pk[1]? = some (.long p1)) (hk1 : fv[1]? = some (.long k1)) :
    Met1 l Z (⟨"com/example/ryazan/ryazan/statespace/StateStore", "holds", "(II[JI)Z"⟩ : MethodName) prog_197_method_18_code 7 (some .boolean) ({ frames := 1, cells := 0, slots := 0, locals := 14 } : Room) #[(.ref (n0 + kS)), (.int e'), (.int hh), (.ref b), (.int (0 : Int32))] h0 n0 Ls (fun v L => v = some (.int (if (Jvm.Free.XT.ushr e' ((10 : Int32) - (1 : Int32)) = Jvm.Free.XT.ushr hh (10 : Int32) ∧ p0 = k0 ∧ p1 = k1) then 1 else 0)) ∧ L = Ls) [] := by
  refine Met1.of (ls := #[vR (n0 + kS), vI e', vI hh, vR b, vI (0 : Int32), un, un]) (plainFor_of_name pn10) (fun m => by first | (simp [entryFrame, mkF, argsToLocals, Value.category]; done) | rfl) ?_
  intro p e s m below meth c T w
  refine s_aloadN (pc' := 1) w d41_0 rfl rfl rfl ?_
  refine s_iloadN (pc' := 2) w d41_1 rfl rfl ?_
  refine s_iloadN (pc' := 3) w d41_2 rfl rfl ?_
  refine s_private (pc' := 6) (rest := []) 0 [(.int e'), (.int hh)] w (c_shares2 hw l h0 n0 kS kP kT kH kL kW kX kM kK sz e' hh Ls pS) (Lk.new pS) (t253 hw) (t254 hw) (t189 hw) rfl (t255 hw) (t95 hw) (t256 hw) (by decide) pd13 d41_3 (by decide) rfl rfl rfl rfl (Nat.le_of_eq rfl) rfl ?_
  intro T v L' hQ w
  obtain ⟨rfl, hL⟩ := hQ
  replace hL := hL.symm
  subst hL
  dsimp only [oS, oN, cA, nA]
  by_cases h : Jvm.Free.XT.ushr e' ((10 : Int32) - (1 : Int32)) = Jvm.Free.XT.ushr hh (10 : Int32)
  · rw [if_pos h]
    refine s_ifY (pc' := 11) w d41_6 (Jvm.Free.XT.i0_ne_t (by decide)) (by decide) (by decide) ?_
    refine s_aloadN (pc' := 12) w d41_11 rfl rfl rfl ?_
    refine s_iloadN (pc' := 13) w d41_12 rfl rfl ?_
    refine s_private (pc' := 16) (rest := []) 0 [(.int e')] w (c_num2 hw l h0 n0 kS kP kT kH kL kW kX kM kK sz e' Ls pS) (Lk.new pS) (t257 hw) (t258 hw) (t189 hw) rfl (t259 hw) (t95 hw) (t260 hw) (by decide) pd7 d41_13 (by decide) rfl rfl rfl rfl (Nat.le_of_eq rfl) rfl ?_
    intro T v L' hQ w
    obtain ⟨rfl, hL⟩ := hQ
    replace hL := hL.symm
    subst hL
    dsimp only [oS, oN, cA, nA]
    rw [he]
    refine s_aloadN (pc' := 17) w d41_16 rfl rfl rfl ?_
    refine s_getL (pc' := 20) (host := "") w (Or.inl (t179 hw)) Via.refl (Lk.new pS) (j := 8) rfl rfl d41_17 rfl ?_
    intro T w
    refine s_imul (pc' := 21) w d41_20 rfl ?_
    rw [show (0 : Int32) * 2 = 0 by decide]
    refine s_istore (pc' := 23) (ls' := #[vR (n0 + kS), vI e', vI hh, vR b, vI (0 : Int32), vI (0 : Int32), un]) w d41_21 rfl rfl ?_
    refine s_iconst (pc' := 24) (0 : Int32) w d41_23 (by decide) rfl ?_
    refine s_istore (pc' := 26) (ls' := #[vR (n0 + kS), vI e', vI hh, vR b, vI (0 : Int32), vI (0 : Int32), vI (0 : Int32)]) w d41_24 rfl rfl ?_
    refine s_iload (pc' := 28) w d41_26 rfl rfl ?_
    refine s_aloadN (pc' := 29) w d41_28 rfl rfl rfl ?_
    refine s_getL (pc' := 32) (host := "") w (Or.inl (t179 hw)) Via.refl (Lk.new pS) (j := 8) rfl rfl d41_29 rfl ?_
    intro T w
    refine s_icmpN (pc' := 35) w d41_32 (Jvm.Free.XT.ii_ge_f (by decide)) rfl ?_
    refine s_aloadN (pc' := 36) w d41_35 rfl rfl rfl ?_
    refine s_getL (pc' := 39) (host := "") w (Or.inl (t101 hw)) Via.refl (Lk.new pS) (j := 0) rfl rfl d41_36 rfl ?_
    intro T w
    refine s_iload (pc' := 41) w d41_39 rfl rfl ?_
    refine s_iload (pc' := 43) w d41_41 rfl rfl ?_
    refine s_iadd (pc' := 44) w d41_43 rfl ?_
    refine s_laload (pc' := 45) (v := (.long p0)) w (Lk.new pP) d41_44 (by decide) hp0 rfl ?_
    refine s_aloadN (pc' := 46) w d41_45 rfl rfl rfl ?_
    refine s_iload (pc' := 48) w d41_46 rfl rfl ?_
    refine s_iload (pc' := 50) w d41_48 rfl rfl ?_
    refine s_iadd (pc' := 51) w d41_50 rfl ?_
    refine s_laload (pc' := 52) (v := (.long k0)) w qf d41_51 (by decide) hk0 rfl ?_
    refine s_lcmp (pc' := 53) w d41_52 rfl ?_
    by_cases g0 : p0 = k0
    · refine s_ifY (pc' := 58) w d41_53 (Jvm.Free.XT.ll_eq_t g0) (by decide) (by decide) ?_
      refine s_iinc (pc' := 61) (ls' := #[vR (n0 + kS), vI e', vI hh, vR b, vI (0 : Int32), vI (0 : Int32), vI ((0 : Int32) + (1 : Int32))]) (1 : Int32) w d41_58 (by decide) rfl rfl rfl ?_
      rw [show (0 : Int32) + 1 = 1 by decide]
      refine s_goto (pc' := 26) w d41_61 (by decide) (by decide) ?_
      refine s_iload (pc' := 28) w d41_26 rfl rfl ?_
      refine s_aloadN (pc' := 29) w d41_28 rfl rfl rfl ?_
      refine s_getL (pc' := 32) (host := "") w (Or.inl (t179 hw)) Via.refl (Lk.new pS) (j := 8) rfl rfl d41_29 rfl ?_
      intro T w
      refine s_icmpN (pc' := 35) w d41_32 (Jvm.Free.XT.ii_ge_f (by decide)) rfl ?_
      refine s_aloadN (pc' := 36) w d41_35 rfl rfl rfl ?_
      refine s_getL (pc' := 39) (host := "") w (Or.inl (t101 hw)) Via.refl (Lk.new pS) (j := 0) rfl rfl d41_36 rfl ?_
      intro T w
      refine s_iload (pc' := 41) w d41_39 rfl rfl ?_
      refine s_iload (pc' := 43) w d41_41 rfl rfl ?_
      refine s_iadd (pc' := 44) w d41_43 rfl ?_
      refine s_laload (pc' := 45) (v := (.long p1)) w (Lk.new pP) d41_44 (by decide) hp1 rfl ?_
      refine s_aloadN (pc' := 46) w d41_45 rfl rfl rfl ?_
      refine s_iload (pc' := 48) w d41_46 rfl rfl ?_
      refine s_iload (pc' := 50) w d41_48 rfl rfl ?_
      refine s_iadd (pc' := 51) w d41_50 rfl ?_
      refine s_laload (pc' := 52) (v := (.long k1)) w qf d41_51 (by decide) hk1 rfl ?_
      refine s_lcmp (pc' := 53) w d41_52 rfl ?_
      by_cases g1 : p1 = k1
      · refine s_ifY (pc' := 58) w d41_53 (Jvm.Free.XT.ll_eq_t g1) (by decide) (by decide) ?_
        refine s_iinc (pc' := 61) (ls' := #[vR (n0 + kS), vI e', vI hh, vR b, vI (0 : Int32), vI (0 : Int32), vI ((1 : Int32) + (1 : Int32))]) (1 : Int32) w d41_58 (by decide) rfl rfl rfl ?_
        rw [show (1 : Int32) + 1 = 2 by decide]
        refine s_goto (pc' := 26) w d41_61 (by decide) (by decide) ?_
        refine s_iload (pc' := 28) w d41_26 rfl rfl ?_
        refine s_aloadN (pc' := 29) w d41_28 rfl rfl rfl ?_
        refine s_getL (pc' := 32) (host := "") w (Or.inl (t179 hw)) Via.refl (Lk.new pS) (j := 8) rfl rfl d41_29 rfl ?_
        intro T w
        refine s_icmpY (pc' := 64) w d41_32 (Jvm.Free.XT.ii_ge_t (by decide)) (by decide) (by decide) ?_
        refine s_iconst (pc' := 65) (1 : Int32) w d41_64 (by decide) rfl ?_
        exact s_zreturn rfl w d41_65 (by decide) (by decide) ⟨by rw [if_pos ⟨h, g0, g1⟩], rfl⟩
      · refine s_ifN (pc' := 56) w d41_53 (Jvm.Free.XT.ll_eq_f g1) rfl ?_
        refine s_iconst (pc' := 57) (0 : Int32) w d41_56 (by decide) rfl ?_
        exact s_zreturn rfl w d41_57 (by decide) (by decide) ⟨by rw [if_neg (fun z => g1 z.2.2)], rfl⟩
    · refine s_ifN (pc' := 56) w d41_53 (Jvm.Free.XT.ll_eq_f g0) rfl ?_
      refine s_iconst (pc' := 57) (0 : Int32) w d41_56 (by decide) rfl ?_
      exact s_zreturn rfl w d41_57 (by decide) (by decide) ⟨by rw [if_neg (fun z => g0 z.2.1)], rfl⟩
  · rw [if_neg h]
    refine s_ifN (pc' := 9) w d41_6 (Jvm.Free.XT.i0_ne_f rfl) rfl ?_
    refine s_iconst (pc' := 10) (0 : Int32) w d41_9 (by decide) rfl ?_
    exact s_zreturn rfl w d41_10 (by decide) (by decide) ⟨by rw [if_neg (fun z => h z.1)], rfl⟩
set_option maxRecDepth 65536 in
set_option maxHeartbeats 40000000 in
theorem c_slotE2 {Z : State} {a0 : Array Value} (hw : Tw Z a0) (l : Launch) (h0 : Heap) (n0 : Nat) (kS kP kT kH kL kW kX kM kK : Nat) (sz : Int32) (b : Addr) (hh : Int32) (Ls : List Ob) (pS : Ls[kS]? = some (sOb n0 kP kT kH kL kW kX kM 2 kK sz)) (pT : Ls[kT]? = some (aI (List.replicate 1024 (Value.int (-1))))) :
    Met1 l Z (⟨"com/example/ryazan/ryazan/statespace/StateStore", "slot", "([JII)I"⟩ : MethodName) prog_197_method_17_code 6 (some .int) ({ frames := 0, cells := 0, slots := 0, locals := 0 } : Room) #[(.ref (n0 + kS)), (.ref b), (.int (0 : Int32)), (.int hh)] h0 n0 Ls (fun v L => v = some (.int (hh &&& 1023)) ∧ L = Ls) [] := by
  refine Met1.of (ls := #[vR (n0 + kS), vR b, vI (0 : Int32), vI hh, un, un]) (plainFor_of_name pn10) (fun m => by first | (simp [entryFrame, mkF, argsToLocals, Value.category]; done) | rfl) ?_
  intro p e s m below meth c T w
  refine s_aloadN (pc' := 1) w d34_0 rfl rfl rfl ?_
  refine s_getL (pc' := 4) (host := "") w (Or.inl (t116 hw)) Via.refl (Lk.new pS) (j := 2) rfl rfl d34_1 rfl ?_
  intro T w
  refine s_arraylength (pc' := 5) (1024 : Int32) w (Lk.new pT) d34_4 (by rw [List.length_replicate]; decide) rfl ?_
  refine s_iconst (pc' := 6) (1 : Int32) w d34_5 (by decide) rfl ?_
  refine s_isub (pc' := 7) w d34_6 rfl ?_
  rw [show (1024 : Int32) - 1 = 1023 by decide]
  refine s_istore (pc' := 9) (ls' := #[vR (n0 + kS), vR b, vI (0 : Int32), vI hh, vI (1023 : Int32), un]) w d34_7 rfl rfl ?_
  refine s_iloadN (pc' := 10) w d34_9 rfl rfl ?_
  refine s_iload (pc' := 12) w d34_10 rfl rfl ?_
  refine s_iand (pc' := 13) w d34_12 rfl ?_
  refine s_istore (pc' := 15) (ls' := #[vR (n0 + kS), vR b, vI (0 : Int32), vI hh, vI (1023 : Int32), vI (hh &&& (1023 : Int32))]) w d34_13 rfl rfl ?_
  obtain ⟨t1, t2⟩ := tab_in hh
  refine s_aloadN (pc' := 16) w d34_15 rfl rfl rfl ?_
  refine s_getL (pc' := 19) (host := "") w (Or.inl (t116 hw)) Via.refl (Lk.new pS) (j := 2) rfl rfl d34_16 rfl ?_
  intro T w
  refine s_iload (pc' := 21) w d34_19 rfl rfl ?_
  refine s_iaload (pc' := 22) (v := (.int (-1 : Int32))) w (Lk.new pT) d34_21 t1 (List.getElem?_replicate_of_lt t2) rfl ?_
  refine s_iconst (pc' := 23) (-1 : Int32) w d34_22 (by decide) rfl ?_
  refine s_icmpY (pc' := 55) w d34_23 (Jvm.Free.XT.ii_eq_t rfl) (by decide) (by decide) ?_
  refine s_iload (pc' := 57) w d34_55 rfl rfl ?_
  exact s_ireturn w d34_57 (by decide) (by decide) ⟨rfl, rfl⟩
set_option maxRecDepth 65536 in
set_option maxHeartbeats 40000000 in
theorem c_slotF2 {Z : State} {a0 : Array Value} (hw : Tw Z a0) (l : Launch) (h0 : Heap) (n0 : Nat) (kS kP kT kH kL kW kX kM kK : Nat) (sz : Int32) (b : Addr) (h1 hh : Int32) (pk fv : List Value) (p0 k0 : Int64) (p1 k1 : Int64) (Ls : List Ob) (pS : Ls[kS]? = some (sOb n0 kP kT kH kL kW kX kM 2 kK sz)) (pT : Ls[kT]? = some (aI ((List.replicate 1024 (Value.int (-1))).set (h1 &&& (1023 : Int32)).toNatClampNeg (.int (entF 0 h1))))) (pP : Ls[kP]? = some (aJ (pk))) (qf : Lk Z h0 n0 Ls b (aJ (fv))) (hp0 : pk[0]? = some (.long p0)) (hk0 : fv[0]? = some (.long k0)) (hp1 : pk[1]? = some (.long p1)) (hk1 : fv[1]? = some (.long k1)) :
    Met1 l Z (⟨"com/example/ryazan/ryazan/statespace/StateStore", "slot", "([JII)I"⟩ : MethodName) prog_197_method_17_code 6 (some .int) ({ frames := 2, cells := 0, slots := 0, locals := 32 } : Room) #[(.ref (n0 + kS)), (.ref b), (.int (0 : Int32)), (.int hh)] h0 n0 Ls (fun v L => ∃ z : Int32, v = some (.int z) ∧ L = Ls ∧ ¬ z < 0 ∧ z.toNatClampNeg < 1024 ∧ ((z = h1 &&& 1023 ∧ (p0 = k0 ∧ p1 = k1)) ∨ ((List.replicate 1024 (Value.int (-1))).set (h1 &&& (1023 : Int32)).toNatClampNeg (.int (entF 0 h1)))[z.toNatClampNeg]? = some (.int (-1)))) [] := by
  refine Met1.of (ls := #[vR (n0 + kS), vR b, vI (0 : Int32), vI hh, un, un]) (plainFor_of_name pn10) (fun m => by first | (simp [entryFrame, mkF, argsToLocals, Value.category]; done) | rfl) ?_
  intro p e s m below meth c T w
  refine s_aloadN (pc' := 1) w d34_0 rfl rfl rfl ?_
  refine s_getL (pc' := 4) (host := "") w (Or.inl (t116 hw)) Via.refl (Lk.new pS) (j := 2) rfl rfl d34_1 rfl ?_
  intro T w
  refine s_arraylength (pc' := 5) (1024 : Int32) w (Lk.new pT) d34_4 (by rw [List.length_set, List.length_replicate]; decide) rfl ?_
  refine s_iconst (pc' := 6) (1 : Int32) w d34_5 (by decide) rfl ?_
  refine s_isub (pc' := 7) w d34_6 rfl ?_
  rw [show (1024 : Int32) - 1 = 1023 by decide]
  refine s_istore (pc' := 9) (ls' := #[vR (n0 + kS), vR b, vI (0 : Int32), vI hh, vI (1023 : Int32), un]) w d34_7 rfl rfl ?_
  refine s_iloadN (pc' := 10) w d34_9 rfl rfl ?_
  refine s_iload (pc' := 12) w d34_10 rfl rfl ?_
  refine s_iand (pc' := 13) w d34_12 rfl ?_
  refine s_istore (pc' := 15) (ls' := #[vR (n0 + kS), vR b, vI (0 : Int32), vI hh, vI (1023 : Int32), vI (hh &&& (1023 : Int32))]) w d34_13 rfl rfl ?_
  obtain ⟨t1, t2⟩ := tab_in hh
  obtain ⟨f1, f2⟩ := tab_in h1
  refine s_aloadN (pc' := 16) w d34_15 rfl rfl rfl ?_
  refine s_getL (pc' := 19) (host := "") w (Or.inl (t116 hw)) Via.refl (Lk.new pS) (j := 2) rfl rfl d34_16 rfl ?_
  intro T w
  refine s_iload (pc' := 21) w d34_19 rfl rfl ?_
  by_cases hq : (hh &&& (1023 : Int32)) = (h1 &&& (1023 : Int32))
  · have hh2 := tab_hit (e := entF 0 h1) f2
    rw [hq]
    refine s_iaload (pc' := 22) (v := (.int (entF 0 h1))) w (Lk.new pT) d34_21 f1 hh2 rfl ?_
    refine s_iconst (pc' := 23) (-1 : Int32) w d34_22 (by decide) rfl ?_
    refine s_icmpN (pc' := 26) w d34_23 (Jvm.Free.XT.ii_eq_f (ent_ne h1)) rfl ?_
    refine s_aloadN (pc' := 27) w d34_26 rfl rfl rfl ?_
    refine s_aloadN (pc' := 28) w d34_27 rfl rfl rfl ?_
    refine s_getL (pc' := 31) (host := "") w (Or.inl (t116 hw)) Via.refl (Lk.new pS) (j := 2) rfl rfl d34_28 rfl ?_
    intro T w
    refine s_iload (pc' := 33) w d34_31 rfl rfl ?_
    refine s_iaload (pc' := 34) (v := (.int (entF 0 h1))) w (Lk.new pT) d34_33 f1 hh2 rfl ?_
    refine s_iloadN (pc' := 35) w d34_34 rfl rfl ?_
    refine s_aloadN (pc' := 36) w d34_35 rfl rfl rfl ?_
    refine s_iloadN (pc' := 37) w d34_36 rfl rfl ?_
    refine s_private (pc' := 40) (rest := []) 0 [(.int (entF 0 h1)), (.int hh), (.ref b), (.int (0 : Int32))] w (c_holds2 hw l h0 n0 kS kP kT kH kL kW kX kM kK sz (entF 0 h1) hh b pk fv p0 k0 p1 k1 Ls pS (ent_num h1) pP qf hp0 hk0 hp1 hk1) (Lk.new pS) (t249 hw) (t250 hw) (t189 hw) rfl (t251 hw) (t95 hw) (t252 hw) (by decide) pd14 d34_37 (by decide) rfl rfl rfl rfl (Nat.le_of_eq rfl) rfl ?_
    intro T v L' hQ w
    obtain ⟨rfl, hL⟩ := hQ
    replace hL := hL.symm
    subst hL
    dsimp only [oS, oN, cA, nA]
    by_cases hf : (Jvm.Free.XT.ushr (entF 0 h1) ((10 : Int32) - (1 : Int32)) = Jvm.Free.XT.ushr hh (10 : Int32) ∧ p0 = k0 ∧ p1 = k1)
    · rw [if_pos hf]
      refine s_ifY (pc' := 55) w d34_40 (Jvm.Free.XT.i0_ne_t (by decide)) (by decide) (by decide) ?_
      refine s_iload (pc' := 57) w d34_55 rfl rfl ?_
      exact s_ireturn w d34_57 (by decide) (by decide) ⟨_, rfl, rfl, f1, f2, Or.inl ⟨rfl, hf.2⟩⟩
    · rw [if_neg hf]
      refine s_ifN (pc' := 43) w d34_40 (Jvm.Free.XT.i0_ne_f rfl) rfl ?_
      refine s_iload (pc' := 45) w d34_43 rfl rfl ?_
      refine s_iconst (pc' := 46) (1 : Int32) w d34_45 (by decide) rfl ?_
      refine s_iadd (pc' := 47) w d34_46 rfl ?_
      refine s_iload (pc' := 49) w d34_47 rfl rfl ?_
      refine s_iand (pc' := 50) w d34_49 rfl ?_
      refine s_istore (pc' := 52) (ls' := #[vR (n0 + kS), vR b, vI (0 : Int32), vI hh, vI (1023 : Int32), vI (((h1 &&& (1023 : Int32)) + (1 : Int32)) &&& (1023 : Int32))]) w d34_50 rfl rfl ?_
      refine s_goto (pc' := 15) w d34_52 (by decide) (by decide) ?_
      obtain ⟨v1, v2⟩ := tab_in ((h1 &&& (1023 : Int32)) + (1 : Int32))
      have hm := tab_miss (e := entF 0 h1) v1 f1 v2 (tab_next h1)
      refine s_aloadN (pc' := 16) w d34_15 rfl rfl rfl ?_
      refine s_getL (pc' := 19) (host := "") w (Or.inl (t116 hw)) Via.refl (Lk.new pS) (j := 2) rfl rfl d34_16 rfl ?_
      intro T w
      refine s_iload (pc' := 21) w d34_19 rfl rfl ?_
      refine s_iaload (pc' := 22) (v := (.int (-1 : Int32))) w (Lk.new pT) d34_21 v1 hm rfl ?_
      refine s_iconst (pc' := 23) (-1 : Int32) w d34_22 (by decide) rfl ?_
      refine s_icmpY (pc' := 55) w d34_23 (Jvm.Free.XT.ii_eq_t rfl) (by decide) (by decide) ?_
      refine s_iload (pc' := 57) w d34_55 rfl rfl ?_
      exact s_ireturn w d34_57 (by decide) (by decide) ⟨_, rfl, rfl, v1, v2, Or.inr hm⟩
  · have hm := tab_miss (e := entF 0 h1) t1 f1 t2 hq
    refine s_iaload (pc' := 22) (v := (.int (-1 : Int32))) w (Lk.new pT) d34_21 t1 hm rfl ?_
    refine s_iconst (pc' := 23) (-1 : Int32) w d34_22 (by decide) rfl ?_
    refine s_icmpY (pc' := 55) w d34_23 (Jvm.Free.XT.ii_eq_t rfl) (by decide) (by decide) ?_
    refine s_iload (pc' := 57) w d34_55 rfl rfl ?_
    exact s_ireturn w d34_57 (by decide) (by decide) ⟨_, rfl, rfl, t1, t2, Or.inr hm⟩
set_option maxRecDepth 65536 in
set_option maxHeartbeats 40000000 in
theorem c_addE2 {Z : State} {a0 : Array Value} (hw : Tw Z a0) (l : Launch) (h0 : Heap) (n0 : Nat) (kS kP kT kH kL kW kX kM kK : Nat) (hh : Int32) (k0 : Int64) (k1 : Int64) (Ls : List Ob) (pS : Ls[kS]? = some (sOb n0 kP kT kH kL kW kX kM 2 kK 0)) (pT : Ls[kT]? = some (aI (List.replicate 1024 (Value.int (-1))))) (pP : Ls[kP]? = some (aJ ([]))) (pK : Ls[kK]? = some (aJ ([.long k0, .long k1]))) (neT : kT ≠ kS) (neK : kS ≠ kK) (neTK : kT ≠ kK) :
    Met1 l Z (⟨"com/example/ryazan/ryazan/statespace/StateStore", "add", "([JII)I"⟩ : MethodName) prog_197_method_16_code 7 (some .int) ({ frames := 3, cells := 1, slots := 1024, locals := 49 } : Room) #[(.ref (n0 + kS)), (.ref (n0 + kK)), (.int (0 : Int32)), (.int hh)] h0 n0 Ls (fun v L => v = some (.int 0) ∧ L = ((Ls.set kT (aI ((List.replicate 1024 (Value.int (-1))).set (hh &&& (1023 : Int32)).toNatClampNeg (.int (entF 0 hh))))).set kS (sOb n0 Ls.length kT kH kL kW kX kM 2 kK 1) ++ [aJ ([.long k0, .long k1] ++ List.replicate 1022 (.long 0))])) [] := by
  refine Met1.of (ls := #[vR (n0 + kS), vR (n0 + kK), vI (0 : Int32), vI hh, un, un, un]) (plainFor_of_name pn10) (fun m => by first | (simp [entryFrame, mkF, argsToLocals, Value.category]; done) | rfl) ?_
  intro p e s m below meth c T w
  refine s_aloadN (pc' := 1) w d33_0 rfl rfl rfl ?_
  refine s_aloadN (pc' := 2) w d33_1 rfl rfl rfl ?_
  refine s_iloadN (pc' := 3) w d33_2 rfl rfl ?_
  refine s_iloadN (pc' := 4) w d33_3 rfl rfl ?_
  refine s_private (pc' := 7) (rest := []) 0 [(.ref (n0 + kK)), (.int (0 : Int32)), (.int hh)] w (c_slotE2 hw l h0 n0 kS kP kT kH kL kW kX kM kK 0 (n0 + kK) hh Ls pS pT) (Lk.new pS) (t213 hw) (t214 hw) (t189 hw) rfl (t215 hw) (t95 hw) (t216 hw) (by decide) pd15 d33_4 (by decide) rfl rfl rfl rfl (Nat.le_of_eq rfl) rfl ?_
  intro T v L' hQ w
  obtain ⟨rfl, hL⟩ := hQ
  replace hL := hL.symm
  subst hL
  dsimp only [oS, oN, cA, nA]
  obtain ⟨t1, t2⟩ := tab_in hh
  refine s_istore (pc' := 9) (ls' := #[vR (n0 + kS), vR (n0 + kK), vI (0 : Int32), vI hh, vI (hh &&& (1023 : Int32)), un, un]) w d33_7 rfl rfl ?_
  refine s_aloadN (pc' := 10) w d33_9 rfl rfl rfl ?_
  refine s_getL (pc' := 13) (host := "") w (Or.inl (t116 hw)) Via.refl (Lk.new pS) (j := 2) rfl rfl d33_10 rfl ?_
  intro T w
  refine s_iload (pc' := 15) w d33_13 rfl rfl ?_
  refine s_iaload (pc' := 16) (v := (.int (-1 : Int32))) w (Lk.new pT) d33_15 t1 (List.getElem?_replicate_of_lt t2) rfl ?_
  refine s_iconst (pc' := 17) (-1 : Int32) w d33_16 (by decide) rfl ?_
  refine s_icmpY (pc' := 32) w d33_17 (Jvm.Free.XT.ii_eq_t rfl) (by decide) (by decide) ?_
  refine s_aloadN (pc' := 33) w d33_32 rfl rfl rfl ?_
  refine s_getL (pc' := 36) (host := "") w (Or.inl (t217 hw)) Via.refl (Lk.new pS) (j := 10) rfl rfl d33_33 rfl ?_
  intro T w
  refine s_iconst (pc' := 37) (1 : Int32) w d33_36 (by decide) rfl ?_
  refine s_iadd (pc' := 38) w d33_37 rfl ?_
  refine s_aloadN (pc' := 39) w d33_38 rfl rfl rfl ?_
  rw [show (0 : Int32) + 1 = 1 by decide]
  refine s_getL (pc' := 42) (host := "") w (Or.inl (t179 hw)) Via.refl (Lk.new pS) (j := 8) rfl rfl d33_39 rfl ?_
  intro T w
  refine s_static (pc' := 45) (rest := []) 0 [(.int (1 : Int32)), (.int (2 : Int32))] w (c_mule hw l h0 n0 1 2 Ls (by decide)) (t219 hw) (t220 hw) (t88 hw) (t221 hw) (by decide) pd1 d33_42 (by decide) rfl rfl rfl rfl (Nat.le_of_eq rfl) rfl ?_
  intro T v L' hQ w
  obtain ⟨rfl, hL⟩ := hQ
  replace hL := hL.symm
  subst hL
  dsimp only [oS, oN, cA, nA]
  rw [show ((1 : Int32).toInt64 * (2 : Int32).toInt64).toInt32 = 2 by decide]
  refine s_istore (pc' := 47) (ls' := #[vR (n0 + kS), vR (n0 + kK), vI (0 : Int32), vI hh, vI (hh &&& (1023 : Int32)), vI (2 : Int32), un]) w d33_45 rfl rfl ?_
  refine s_iload (pc' := 49) w d33_47 rfl rfl ?_
  refine s_aloadN (pc' := 50) w d33_49 rfl rfl rfl ?_
  refine s_getL (pc' := 53) (host := "") w (Or.inl (t101 hw)) Via.refl (Lk.new pS) (j := 0) rfl rfl d33_50 rfl ?_
  intro T w
  refine s_arraylength (pc' := 54) (0 : Int32) w (Lk.new pP) d33_53 rfl rfl ?_
  refine s_icmpN (pc' := 57) w d33_54 (Jvm.Free.XT.ii_le_f (by decide)) rfl ?_
  refine s_sipush (pc' := 60) (1024 : Int32) w d33_57 (by decide) rfl ?_
  refine s_aloadN (pc' := 61) w d33_60 rfl rfl rfl ?_
  refine s_getL (pc' := 64) (host := "") w (Or.inl (t101 hw)) Via.refl (Lk.new pS) (j := 0) rfl rfl d33_61 rfl ?_
  intro T w
  refine s_arraylength (pc' := 65) (0 : Int32) w (Lk.new pP) d33_64 rfl rfl ?_
  refine s_iconst (pc' := 66) (2 : Int32) w d33_65 (by decide) rfl ?_
  refine s_static (pc' := 69) (rest := [(.int (1024 : Int32))]) 1 [(.int (0 : Int32)), (.int (2 : Int32))] w (c_mule hw l h0 n0 0 2 Ls (by decide)) (t219 hw) (t220 hw) (t88 hw) (t221 hw) (by decide) pd1 d33_66 (by decide) rfl rfl rfl rfl (Nat.le_of_eq rfl) rfl ?_
  intro T v L' hQ w
  obtain ⟨rfl, hL⟩ := hQ
  replace hL := hL.symm
  subst hL
  dsimp only [oS, oN, cA, nA]
  rw [show ((0 : Int32).toInt64 * (2 : Int32).toInt64).toInt32 = 0 by decide]
  refine s_static (pc' := 72) (rest := []) 0 [(.int (1024 : Int32)), (.int (0 : Int32))] w (c_max hw l h0 n0 1024 0 Ls) (t222 hw) (t87 hw) (t88 hw) (t89 hw) (by decide) pd1 d33_69 (by decide) rfl rfl rfl rfl (Nat.le_of_eq rfl) rfl ?_
  intro T v L' hQ w
  obtain ⟨rfl, hL⟩ := hQ
  replace hL := hL.symm
  subst hL
  dsimp only [oS, oN, cA, nA]
  rw [show (if (1024 : Int32) < 0 then (0 : Int32) else 1024) = 1024 by decide]
  refine s_istore (pc' := 74) (ls' := #[vR (n0 + kS), vR (n0 + kK), vI (0 : Int32), vI hh, vI (hh &&& (1023 : Int32)), vI (2 : Int32), vI (1024 : Int32)]) w d33_72 rfl rfl ?_
  refine s_aloadN (pc' := 75) w d33_74 rfl rfl rfl ?_
  refine s_aloadN (pc' := 76) w d33_75 rfl rfl rfl ?_
  refine s_getL (pc' := 79) (host := "") w (Or.inl (t101 hw)) Via.refl (Lk.new pS) (j := 0) rfl rfl d33_76 rfl ?_
  intro T w
  refine s_iload (pc' := 81) w d33_79 rfl rfl ?_
  refine s_iload (pc' := 83) w d33_81 rfl rfl ?_
  refine s_static (pc' := 86) (rest := [(.ref (n0 + kP)), (.ref (n0 + kS))]) 2 [(.int (2 : Int32)), (.int (1024 : Int32))] w (c_max hw l h0 n0 2 1024 Ls) (t222 hw) (t87 hw) (t88 hw) (t89 hw) (by decide) pd1 d33_83 (by decide) rfl rfl rfl rfl (Nat.le_of_eq rfl) rfl ?_
  intro T v L' hQ w
  obtain ⟨rfl, hL⟩ := hQ
  replace hL := hL.symm
  subst hL
  dsimp only [oS, oN, cA, nA]
  rw [show (if (2 : Int32) < 1024 then (1024 : Int32) else 2) = 1024 by decide]
  refine s_static (pc' := 89) (rest := [(.ref (n0 + kS))]) 1 [(.ref (n0 + kP)), (.int (1024 : Int32))] w (c_copy hw l h0 n0 kP Ls pP) (t223 hw) (t224 hw) (t114 hw) (t225 hw) (by decide) pd16 d33_86 (by decide) rfl rfl rfl rfl (Nat.le_of_eq rfl) rfl ?_
  intro T v L' hQ w
  obtain ⟨rfl, hL⟩ := hQ
  replace hL := hL.symm
  subst hL
  dsimp only [oS, oN, cA, nA]
  refine s_put (pc' := 92) (host := "") (k := kS) w (Or.inl (t101 hw)) Via.refl (cls2 hw) (lk_app pS) (j := 0) rfl (leB rfl) (Or.inl (t102 hw)) (ty := (.array .long)) (by decide +kernel) rfl rfl d33_89 rfl ?_
  intro T w
  rw [set_app pS] at w
  replace w : St p l e _ s m _ below meth c Z _ _ _ _ h0 n0 T (Ls.set kS (sOb n0 Ls.length kT kH kL kW kX kM 2 kK 0) ++ [aJ (List.replicate 1024 (.long 0))]) 1 1024 := w
  have hlen : (Ls.set kS (sOb n0 Ls.length kT kH kL kW kX kM 2 kK 0)).length = Ls.length := List.length_set ..
  have qS := lk_app (M := [aJ (List.replicate 1024 (.long 0))]) (lk_set (o := sOb n0 Ls.length kT kH kL kW kX kM 2 kK 0) pS)
  have qK := lk_app (M := [aJ (List.replicate 1024 (.long 0))]) (lk_ne (o := sOb n0 Ls.length kT kH kL kW kX kM 2 kK 0) pK neK)
  have qP := lk_lastN (o := aJ (List.replicate 1024 (.long 0))) hlen
  refine s_aloadN (pc' := 93) w d33_92 rfl rfl rfl ?_
  refine s_iloadN (pc' := 94) w d33_93 rfl rfl ?_
  refine s_aloadN (pc' := 95) w d33_94 rfl rfl rfl ?_
  refine s_getL (pc' := 98) (host := "") w (Or.inl (t101 hw)) Via.refl (Lk.new qS) (j := 0) rfl rfl d33_95 rfl ?_
  intro T w
  refine s_aloadN (pc' := 99) w d33_98 rfl rfl rfl ?_
  refine s_getL (pc' := 102) (host := "") w (Or.inl (t217 hw)) Via.refl (Lk.new qS) (j := 10) rfl rfl d33_99 rfl ?_
  intro T w
  refine s_aloadN (pc' := 103) w d33_102 rfl rfl rfl ?_
  refine s_getL (pc' := 106) (host := "") w (Or.inl (t179 hw)) Via.refl (Lk.new qS) (j := 8) rfl rfl d33_103 rfl ?_
  intro T w
  refine s_imul (pc' := 107) w d33_106 rfl ?_
  refine s_aloadN (pc' := 108) w d33_107 rfl rfl rfl ?_
  rw [show (0 : Int32) * 2 = 0 by decide]
  refine s_getL (pc' := 111) (host := "") w (Or.inl (t179 hw)) Via.refl (Lk.new qS) (j := 8) rfl rfl d33_108 rfl ?_
  intro T w
  refine s_arraycopy (pc' := 114) (k := Ls.length) 0 w (Lk.new qK) qP rfl (t233 hw) (t232 hw) (t230 hw) (t231 hw) (by decide) (by decide) (by decide) (leB rfl) (by rw [List.length_replicate]; decide) d33_111 rfl (by decide) (Nat.le_of_eq rfl) (by decide) rfl ?_
  intro T w
  rw [show (List.set (Ls.set kS (sOb n0 Ls.length kT kH kL kW kX kM 2 kK 0) ++ [aJ (List.replicate 1024 (.long 0))]) Ls.length (aJ (List.take (0 : Int32).toNatClampNeg (List.replicate 1024 (.long 0)) ++ List.take (2 : Int32).toNatClampNeg (List.drop (0 : Int32).toNatClampNeg [.long k0, .long k1]) ++ List.drop ((0 : Int32).toNatClampNeg + (2 : Int32).toNatClampNeg) (List.replicate 1024 (.long 0))))) = (Ls.set kS (sOb n0 Ls.length kT kH kL kW kX kM 2 kK 0) ++ [aJ ([.long k0, .long k1] ++ List.replicate 1022 (.long 0))]) by rw [copy_at2, set_lastN hlen]] at w
  have qS := lk_app (M := [aJ ([.long k0, .long k1] ++ List.replicate 1022 (.long 0))]) (lk_set (o := sOb n0 Ls.length kT kH kL kW kX kM 2 kK 0) pS)
  have qT := lk_app (M := [aJ ([.long k0, .long k1] ++ List.replicate 1022 (.long 0))]) (lk_ne (o := sOb n0 Ls.length kT kH kL kW kX kM 2 kK 0) pT neT.symm)
  refine s_aloadN (pc' := 115) w d33_114 rfl rfl rfl ?_
  refine s_getL (pc' := 118) (host := "") w (Or.inl (t116 hw)) Via.refl (Lk.new qS) (j := 2) rfl rfl d33_115 rfl ?_
  intro T w
  refine s_iload (pc' := 120) w d33_118 rfl rfl ?_
  refine s_aloadN (pc' := 121) w d33_120 rfl rfl rfl ?_
  refine s_aloadN (pc' := 122) w d33_121 rfl rfl rfl ?_
  refine s_getL (pc' := 125) (host := "") w (Or.inl (t217 hw)) Via.refl (Lk.new qS) (j := 10) rfl rfl d33_122 rfl ?_
  intro T w
  refine s_iloadN (pc' := 126) w d33_125 rfl rfl ?_
  refine s_private (pc' := 129) (rest := [(.int (hh &&& (1023 : Int32))), (.ref (n0 + kT))]) 2 [(.int (0 : Int32)), (.int hh)] w (c_entry2 hw l h0 n0 kS Ls.length kT kH kL kW kX kM kK 0 0 hh (Ls.set kS (sOb n0 Ls.length kT kH kL kW kX kM 2 kK 0) ++ [aJ ([.long k0, .long k1] ++ List.replicate 1022 (.long 0))]) qS) (Lk.new qS) (t234 hw) (t235 hw) (t189 hw) rfl (t236 hw) (t95 hw) (t237 hw) (by decide) pd1 d33_126 (by decide) rfl rfl rfl rfl (Nat.le_of_eq rfl) rfl ?_
  intro T v L' hQ w
  obtain ⟨rfl, hL⟩ := hQ
  replace hL := hL.symm
  subst hL
  dsimp only [oS, oN, cA, nA]
  refine s_iastore (pc' := 130) (k := kT) w qT d33_129 t1 (by rw [List.length_replicate]; exact t2) rfl ?_
  intro T w
  have qS := lk_ne (o := aI ((List.replicate 1024 (Value.int (-1))).set (hh &&& (1023 : Int32)).toNatClampNeg (.int (entF 0 hh)))) qS neT
  refine s_aloadN (pc' := 131) w d33_130 rfl rfl rfl ?_
  refine s_dup (pc' := 132) w d33_131 rfl rfl ?_
  refine s_getL (pc' := 135) (host := "") w (Or.inl (t217 hw)) Via.refl (Lk.new qS) (j := 10) rfl rfl d33_132 rfl ?_
  intro T w
  refine s_iconst (pc' := 136) (1 : Int32) w d33_135 (by decide) rfl ?_
  refine s_iadd (pc' := 137) w d33_136 rfl ?_
  rw [show (0 : Int32) + 1 = 1 by decide]
  refine s_put (pc' := 140) (host := "") (k := kS) w (Or.inl (t217 hw)) Via.refl (cls2 hw) qS (j := 10) rfl (leB rfl) (Or.inl (t218 hw)) (ty := .int) (by decide +kernel) rfl rfl d33_137 rfl ?_
  intro T w
  have qT2 := lk_set (o := aI ((List.replicate 1024 (Value.int (-1))).set (hh &&& (1023 : Int32)).toNatClampNeg (.int (entF 0 hh)))) qT
  have qS2 := lk_set (o := sOb n0 Ls.length kT kH kL kW kX kM 2 kK 1) qS
  have qT3 := lk_ne (o := sOb n0 Ls.length kT kH kL kW kX kM 2 kK 1) qT2 neT.symm
  replace w : St p l e _ s m _ below meth c Z _ _ _ _ h0 n0 T ((List.set (Ls.set kS (sOb n0 Ls.length kT kH kL kW kX kM 2 kK 0) ++ [aJ ([.long k0, .long k1] ++ List.replicate 1022 (.long 0))]) kT (aI ((List.replicate 1024 (Value.int (-1))).set (hh &&& (1023 : Int32)).toNatClampNeg (.int (entF 0 hh))))).set kS (sOb n0 Ls.length kT kH kL kW kX kM 2 kK 1)) 1 1024 := w
  refine s_iconst (pc' := 141) (2 : Int32) w d33_140 (by decide) rfl ?_
  refine s_aloadN (pc' := 142) w d33_141 rfl rfl rfl ?_
  refine s_getL (pc' := 145) (host := "") w (Or.inl (t217 hw)) Via.refl (Lk.new qS2) (j := 10) rfl rfl d33_142 rfl ?_
  intro T w
  refine s_imul (pc' := 146) w d33_145 rfl ?_
  refine s_aloadN (pc' := 147) w d33_146 rfl rfl rfl ?_
  refine s_getL (pc' := 150) (host := "") w (Or.inl (t116 hw)) Via.refl (Lk.new qS2) (j := 2) rfl rfl d33_147 rfl ?_
  intro T w
  refine s_arraylength (pc' := 151) (1024 : Int32) w (Lk.new qT3) d33_150 (by rw [List.length_set, List.length_replicate]; decide) rfl ?_
  refine s_icmpY (pc' := 158) w d33_151 (Jvm.Free.XT.ii_lt_t (by decide)) (by decide) (by decide) ?_
  refine s_aloadN (pc' := 159) w d33_158 rfl rfl rfl ?_
  refine s_getL (pc' := 162) (host := "") w (Or.inl (t217 hw)) Via.refl (Lk.new qS2) (j := 10) rfl rfl d33_159 rfl ?_
  intro T w
  refine s_iconst (pc' := 163) (1 : Int32) w d33_162 (by decide) rfl ?_
  refine s_isub (pc' := 164) w d33_163 rfl ?_
  rw [show (1 : Int32) - 1 = 0 by decide]
  exact s_ireturn w d33_164 (by decide) (by decide) ⟨rfl, by rw [set_app (lk_ne pT neT.symm), set_app (lk_ne (lk_set pS) neT), List.set_comm _ _ neT.symm, List.set_set, List.set_comm _ _ neT] <;> rfl⟩
set_option maxRecDepth 65536 in
set_option maxHeartbeats 40000000 in
theorem c_addF2 {Z : State} {a0 : Array Value} (hw : Tw Z a0) (l : Launch) (h0 : Heap) (n0 : Nat) (kS kP kT kH kL kW kX kM kK : Nat) (h1 hh : Int32) (p0 k0 : Int64) (p1 k1 : Int64) (Ls : List Ob) (pS : Ls[kS]? = some (sOb n0 kP kT kH kL kW kX kM 2 kK 1)) (pT : Ls[kT]? = some (aI ((List.replicate 1024 (Value.int (-1))).set (h1 &&& (1023 : Int32)).toNatClampNeg (.int (entF 0 h1))))) (pP : Ls[kP]? = some (aJ ([.long p0, .long p1] ++ List.replicate 1022 (.long 0)))) (pK : Ls[kK]? = some (aJ ([.long k0, .long k1]))) (neT : kT ≠ kS) (neP : kP ≠ kS) (neTP : kP ≠ kT) :
    Met1 l Z (⟨"com/example/ryazan/ryazan/statespace/StateStore", "add", "([JII)I"⟩ : MethodName) prog_197_method_16_code 7 (some .int) ({ frames := 3, cells := 0, slots := 0, locals := 49 } : Room) #[(.ref (n0 + kS)), (.ref (n0 + kK)), (.int (0 : Int32)), (.int hh)] h0 n0 Ls (fun v L => (v = some (.int 0) ∧ L = Ls ∧ (p0 = k0 ∧ p1 = k1)) ∨ (v = some (.int 1) ∧ ∃ tb : List Value, L = ((Ls.set kP (aJ ([.long p0, .long p1, .long k0, .long k1] ++ List.replicate 1020 (.long 0)))).set kT (aI (tb))).set kS (sOb n0 kP kT kH kL kW kX kM 2 kK 2))) [] := by
  refine Met1.of (ls := #[vR (n0 + kS), vR (n0 + kK), vI (0 : Int32), vI hh, un, un, un]) (plainFor_of_name pn10) (fun m => by first | (simp [entryFrame, mkF, argsToLocals, Value.category]; done) | rfl) ?_
  intro p e s m below meth c T w
  refine s_aloadN (pc' := 1) w d33_0 rfl rfl rfl ?_
  refine s_aloadN (pc' := 2) w d33_1 rfl rfl rfl ?_
  refine s_iloadN (pc' := 3) w d33_2 rfl rfl ?_
  refine s_iloadN (pc' := 4) w d33_3 rfl rfl ?_
  refine s_private (pc' := 7) (rest := []) 0 [(.ref (n0 + kK)), (.int (0 : Int32)), (.int hh)] w (c_slotF2 hw l h0 n0 kS kP kT kH kL kW kX kM kK 1 (n0 + kK) h1 hh ([.long p0, .long p1] ++ List.replicate 1022 (.long 0)) [.long k0, .long k1] p0 k0 p1 k1 Ls pS pT pP (Lk.new pK) rfl rfl rfl rfl) (Lk.new pS) (t213 hw) (t214 hw) (t189 hw) rfl (t215 hw) (t95 hw) (t216 hw) (by decide) pd15 d33_4 (by decide) rfl rfl rfl rfl (Nat.le_of_eq rfl) rfl ?_
  intro T v L' hQ w
  obtain ⟨z, rfl, hL, z1, z2, hz⟩ := hQ
  replace hL := hL.symm
  subst hL
  dsimp only [oS, oN, cA, nA]
  refine s_istore (pc' := 9) (ls' := #[vR (n0 + kS), vR (n0 + kK), vI (0 : Int32), vI hh, vI z, un, un]) w d33_7 rfl rfl ?_
  refine s_aloadN (pc' := 10) w d33_9 rfl rfl rfl ?_
  refine s_getL (pc' := 13) (host := "") w (Or.inl (t116 hw)) Via.refl (Lk.new pS) (j := 2) rfl rfl d33_10 rfl ?_
  intro T w
  refine s_iload (pc' := 15) w d33_13 rfl rfl ?_
  rcases hz with ⟨rfl, hz⟩ | hz
  · have hh2 := tab_hit (e := entF 0 h1) z2
    refine s_iaload (pc' := 16) (v := (.int (entF 0 h1))) w (Lk.new pT) d33_15 z1 hh2 rfl ?_
    refine s_iconst (pc' := 17) (-1 : Int32) w d33_16 (by decide) rfl ?_
    refine s_icmpN (pc' := 20) w d33_17 (Jvm.Free.XT.ii_eq_f (ent_ne h1)) rfl ?_
    refine s_aloadN (pc' := 21) w d33_20 rfl rfl rfl ?_
    refine s_aloadN (pc' := 22) w d33_21 rfl rfl rfl ?_
    refine s_getL (pc' := 25) (host := "") w (Or.inl (t116 hw)) Via.refl (Lk.new pS) (j := 2) rfl rfl d33_22 rfl ?_
    intro T w
    refine s_iload (pc' := 27) w d33_25 rfl rfl ?_
    refine s_iaload (pc' := 28) (v := (.int (entF 0 h1))) w (Lk.new pT) d33_27 z1 hh2 rfl ?_
    refine s_private (pc' := 31) (rest := []) 0 [(.int (entF 0 h1))] w (c_num2 hw l h0 n0 kS kP kT kH kL kW kX kM kK 1 (entF 0 h1) Ls pS) (Lk.new pS) (t257 hw) (t258 hw) (t189 hw) rfl (t259 hw) (t95 hw) (t260 hw) (by decide) pd7 d33_28 (by decide) rfl rfl rfl rfl (Nat.le_of_eq rfl) rfl ?_
    intro T v L' hQ w
    obtain ⟨rfl, hL⟩ := hQ
    replace hL := hL.symm
    subst hL
    dsimp only [oS, oN, cA, nA]
    rw [ent_num]
    exact s_ireturn w d33_31 (by decide) (by decide) (Or.inl ⟨rfl, rfl, hz⟩)
  · refine s_iaload (pc' := 16) (v := (.int (-1 : Int32))) w (Lk.new pT) d33_15 z1 hz rfl ?_
    refine s_iconst (pc' := 17) (-1 : Int32) w d33_16 (by decide) rfl ?_
    refine s_icmpY (pc' := 32) w d33_17 (Jvm.Free.XT.ii_eq_t rfl) (by decide) (by decide) ?_
    refine s_aloadN (pc' := 33) w d33_32 rfl rfl rfl ?_
    refine s_getL (pc' := 36) (host := "") w (Or.inl (t217 hw)) Via.refl (Lk.new pS) (j := 10) rfl rfl d33_33 rfl ?_
    intro T w
    refine s_iconst (pc' := 37) (1 : Int32) w d33_36 (by decide) rfl ?_
    refine s_iadd (pc' := 38) w d33_37 rfl ?_
    refine s_aloadN (pc' := 39) w d33_38 rfl rfl rfl ?_
    rw [show (1 : Int32) + 1 = 2 by decide]
    refine s_getL (pc' := 42) (host := "") w (Or.inl (t179 hw)) Via.refl (Lk.new pS) (j := 8) rfl rfl d33_39 rfl ?_
    intro T w
    refine s_static (pc' := 45) (rest := []) 0 [(.int (2 : Int32)), (.int (2 : Int32))] w (c_mule hw l h0 n0 2 2 Ls (by decide)) (t219 hw) (t220 hw) (t88 hw) (t221 hw) (by decide) pd1 d33_42 (by decide) rfl rfl rfl rfl (Nat.le_of_eq rfl) rfl ?_
    intro T v L' hQ w
    obtain ⟨rfl, hL⟩ := hQ
    replace hL := hL.symm
    subst hL
    dsimp only [oS, oN, cA, nA]
    rw [show ((2 : Int32).toInt64 * (2 : Int32).toInt64).toInt32 = 4 by decide]
    refine s_istore (pc' := 47) (ls' := #[vR (n0 + kS), vR (n0 + kK), vI (0 : Int32), vI hh, vI z, vI (4 : Int32), un]) w d33_45 rfl rfl ?_
    refine s_iload (pc' := 49) w d33_47 rfl rfl ?_
    refine s_aloadN (pc' := 50) w d33_49 rfl rfl rfl ?_
    refine s_getL (pc' := 53) (host := "") w (Or.inl (t101 hw)) Via.refl (Lk.new pS) (j := 0) rfl rfl d33_50 rfl ?_
    intro T w
    refine s_arraylength (pc' := 54) (1024 : Int32) w (Lk.new pP) d33_53 (by rw [List.length_append, List.length_replicate]; rfl) rfl ?_
    refine s_icmpY (pc' := 92) w d33_54 (Jvm.Free.XT.ii_le_t (by decide)) (by decide) (by decide) ?_
    refine s_aloadN (pc' := 93) w d33_92 rfl rfl rfl ?_
    refine s_iloadN (pc' := 94) w d33_93 rfl rfl ?_
    refine s_aloadN (pc' := 95) w d33_94 rfl rfl rfl ?_
    refine s_getL (pc' := 98) (host := "") w (Or.inl (t101 hw)) Via.refl (Lk.new pS) (j := 0) rfl rfl d33_95 rfl ?_
    intro T w
    refine s_aloadN (pc' := 99) w d33_98 rfl rfl rfl ?_
    refine s_getL (pc' := 102) (host := "") w (Or.inl (t217 hw)) Via.refl (Lk.new pS) (j := 10) rfl rfl d33_99 rfl ?_
    intro T w
    refine s_aloadN (pc' := 103) w d33_102 rfl rfl rfl ?_
    refine s_getL (pc' := 106) (host := "") w (Or.inl (t179 hw)) Via.refl (Lk.new pS) (j := 8) rfl rfl d33_103 rfl ?_
    intro T w
    refine s_imul (pc' := 107) w d33_106 rfl ?_
    refine s_aloadN (pc' := 108) w d33_107 rfl rfl rfl ?_
    rw [show (1 : Int32) * 2 = 2 by decide]
    refine s_getL (pc' := 111) (host := "") w (Or.inl (t179 hw)) Via.refl (Lk.new pS) (j := 8) rfl rfl d33_108 rfl ?_
    intro T w
    refine s_arraycopy (pc' := 114) (k := kP) 0 w (Lk.new pK) pP rfl (t233 hw) (t232 hw) (t230 hw) (t231 hw) (by decide) (by decide) (by decide) (leB rfl) (by rw [List.length_append, List.length_replicate]; exact Nat.le_of_ble_eq_true rfl) d33_111 rfl (by decide) (Nat.le_of_eq rfl) (by decide) rfl ?_
    intro T w
    rw [copy_two2] at w
    have qS := lk_ne (o := aJ ([.long p0, .long p1, .long k0, .long k1] ++ List.replicate 1020 (.long 0))) pS neP
    have qT := lk_ne (o := aJ ([.long p0, .long p1, .long k0, .long k1] ++ List.replicate 1020 (.long 0))) pT neTP
    refine s_aloadN (pc' := 115) w d33_114 rfl rfl rfl ?_
    refine s_getL (pc' := 118) (host := "") w (Or.inl (t116 hw)) Via.refl (Lk.new qS) (j := 2) rfl rfl d33_115 rfl ?_
    intro T w
    refine s_iload (pc' := 120) w d33_118 rfl rfl ?_
    refine s_aloadN (pc' := 121) w d33_120 rfl rfl rfl ?_
    refine s_aloadN (pc' := 122) w d33_121 rfl rfl rfl ?_
    refine s_getL (pc' := 125) (host := "") w (Or.inl (t217 hw)) Via.refl (Lk.new qS) (j := 10) rfl rfl d33_122 rfl ?_
    intro T w
    refine s_iloadN (pc' := 126) w d33_125 rfl rfl ?_
    refine s_private (pc' := 129) (rest := [(.int z), (.ref (n0 + kT))]) 2 [(.int (1 : Int32)), (.int hh)] w (c_entry2 hw l h0 n0 kS kP kT kH kL kW kX kM kK 1 1 hh (Ls.set kP (aJ ([.long p0, .long p1, .long k0, .long k1] ++ List.replicate 1020 (.long 0)))) qS) (Lk.new qS) (t234 hw) (t235 hw) (t189 hw) rfl (t236 hw) (t95 hw) (t237 hw) (by decide) pd1 d33_126 (by decide) rfl rfl rfl rfl (Nat.le_of_eq rfl) rfl ?_
    intro T v L' hQ w
    obtain ⟨rfl, hL⟩ := hQ
    replace hL := hL.symm
    subst hL
    dsimp only [oS, oN, cA, nA]
    refine s_iastore (pc' := 130) (k := kT) w qT d33_129 z1 (by rw [List.length_set, List.length_replicate]; exact z2) rfl ?_
    intro T w
    have qS := lk_ne (o := aI (((List.replicate 1024 (Value.int (-1))).set (h1 &&& (1023 : Int32)).toNatClampNeg (.int (entF 0 h1))).set z.toNatClampNeg (.int (entF 1 hh)))) qS neT
    refine s_aloadN (pc' := 131) w d33_130 rfl rfl rfl ?_
    refine s_dup (pc' := 132) w d33_131 rfl rfl ?_
    refine s_getL (pc' := 135) (host := "") w (Or.inl (t217 hw)) Via.refl (Lk.new qS) (j := 10) rfl rfl d33_132 rfl ?_
    intro T w
    refine s_iconst (pc' := 136) (1 : Int32) w d33_135 (by decide) rfl ?_
    refine s_iadd (pc' := 137) w d33_136 rfl ?_
    rw [show (1 : Int32) + 1 = 2 by decide]
    refine s_put (pc' := 140) (host := "") (k := kS) w (Or.inl (t217 hw)) Via.refl (cls2 hw) qS (j := 10) rfl (leB rfl) (Or.inl (t218 hw)) (ty := .int) (by decide +kernel) rfl rfl d33_137 rfl ?_
    intro T w
    have qT2 := lk_set (o := aI (((List.replicate 1024 (Value.int (-1))).set (h1 &&& (1023 : Int32)).toNatClampNeg (.int (entF 0 h1))).set z.toNatClampNeg (.int (entF 1 hh)))) qT
    have qS2 := lk_set (o := sOb n0 kP kT kH kL kW kX kM 2 kK 2) qS
    have qT3 := lk_ne (o := sOb n0 kP kT kH kL kW kX kM 2 kK 2) qT2 neT.symm
    replace w : St p l e _ s m _ below meth c Z _ _ _ _ h0 n0 T (((Ls.set kP (aJ ([.long p0, .long p1, .long k0, .long k1] ++ List.replicate 1020 (.long 0)))).set kT (aI (((List.replicate 1024 (Value.int (-1))).set (h1 &&& (1023 : Int32)).toNatClampNeg (.int (entF 0 h1))).set z.toNatClampNeg (.int (entF 1 hh))))).set kS (sOb n0 kP kT kH kL kW kX kM 2 kK 2)) 0 0 := w
    refine s_iconst (pc' := 141) (2 : Int32) w d33_140 (by decide) rfl ?_
    refine s_aloadN (pc' := 142) w d33_141 rfl rfl rfl ?_
    refine s_getL (pc' := 145) (host := "") w (Or.inl (t217 hw)) Via.refl (Lk.new qS2) (j := 10) rfl rfl d33_142 rfl ?_
    intro T w
    refine s_imul (pc' := 146) w d33_145 rfl ?_
    refine s_aloadN (pc' := 147) w d33_146 rfl rfl rfl ?_
    refine s_getL (pc' := 150) (host := "") w (Or.inl (t116 hw)) Via.refl (Lk.new qS2) (j := 2) rfl rfl d33_147 rfl ?_
    intro T w
    refine s_arraylength (pc' := 151) (1024 : Int32) w (Lk.new qT3) d33_150 (by rw [List.length_set, List.length_set, List.length_replicate]; decide) rfl ?_
    refine s_icmpY (pc' := 158) w d33_151 (Jvm.Free.XT.ii_lt_t (by decide)) (by decide) (by decide) ?_
    refine s_aloadN (pc' := 159) w d33_158 rfl rfl rfl ?_
    refine s_getL (pc' := 162) (host := "") w (Or.inl (t217 hw)) Via.refl (Lk.new qS2) (j := 10) rfl rfl d33_159 rfl ?_
    intro T w
    refine s_iconst (pc' := 163) (1 : Int32) w d33_162 (by decide) rfl ?_
    refine s_isub (pc' := 164) w d33_163 rfl ?_
    rw [show (2 : Int32) - 1 = 1 by decide]
    exact s_ireturn w d33_164 (by decide) (by decide) (Or.inr ⟨rfl, _, rfl⟩)
set_option maxRecDepth 65536 in
set_option maxHeartbeats 40000000 in
theorem c_addOne2 {Z : State} {a0 : Array Value} (hw : Tw Z a0) (l : Launch) (h0 : Heap) (n0 : Nat) (kS kP kT kH kL kW kX kM kK : Nat) (sa : Addr) (s0 s1 s2 l0 l1 l2 x0 x1 x2 : Int32) (y0 : Int64) (y1 : Int64) (Ls : List Ob) (pS : Ls[kS]? = some (sOb n0 kP kT kH kL kW kX kM 2 kK 0)) (pT : Ls[kT]? = some (aI (List.replicate 1024 (Value.int (-1))))) (pP : Ls[kP]? = some (aJ ([]))) (pK : Ls[kK]? = some (aJ ([.long y0, .long y1]))) (pL : Ls[kL]? = some (aI ([.int l0, .int l1, .int l2]))) (pW : Ls[kW]? = some (aI ([.int 0, .int 0, .int 1]))) (pX : Ls[kX]? = some (aI ([.int x0, .int x1, .int x2]))) (qa : Lk Z h0 n0 Ls sa (aI ([.int s0, .int s1, .int s2]))) (neS : kK ≠ kS) (neL : kK ≠ kL) (neW : kK ≠ kW) (neX : kK ≠ kX) (neA : sa ≠ n0 + kK) (neT : kT ≠ kS) (neTK : kT ≠ kK) (nePK : kP ≠ kK) :
    Met1 l Z (⟨"com/example/ryazan/ryazan/statespace/StateStore", "add", "([I)I"⟩ : MethodName) prog_197_method_5_code 2 (some .int) ({ frames := 4, cells := 1, slots := 1024, locals := 67 } : Room) #[(.ref (n0 + kS)), (.ref sa)] h0 n0 Ls (fun v L => v = some (.int 0) ∧ L = (((Ls.set kK (aJ ([.long (((0 : Int64) ||| (dS s0 l0 x0)) ||| (dS s1 l1 x1)), .long ((0 : Int64) ||| (dS s2 l2 x2))]))).set kT (aI ((List.replicate 1024 (Value.int (-1))).set ((hfin (hfold [(((0 : Int64) ||| (dS s0 l0 x0)) ||| (dS s1 l1 x1)), ((0 : Int64) ||| (dS s2 l2 x2))])) &&& (1023 : Int32)).toNatClampNeg (.int (entF 0 (hfin (hfold [(((0 : Int64) ||| (dS s0 l0 x0)) ||| (dS s1 l1 x1)), ((0 : Int64) ||| (dS s2 l2 x2))]))))))).set kS (sOb n0 Ls.length kT kH kL kW kX kM 2 kK 1) ++ [aJ ([.long (((0 : Int64) ||| (dS s0 l0 x0)) ||| (dS s1 l1 x1)), .long ((0 : Int64) ||| (dS s2 l2 x2))] ++ List.replicate 1022 (.long 0))])) [] := by
  refine Met1.of (ls := #[vR (n0 + kS), vR sa]) (plainFor_of_name pn10) (fun m => by first | (simp [entryFrame, mkF, argsToLocals, Value.category]; done) | rfl) ?_
  intro p e s m below meth c T w
  refine s_aloadN (pc' := 1) w d28_0 rfl rfl rfl ?_
  refine s_private (pc' := 4) (rest := []) 0 [] w (c_place2 hw l h0 n0 kS kP kT kH kL kW kX kM kK 0 Ls pS) (Lk.new pS) (t191 hw) (t192 hw) (t189 hw) rfl (t193 hw) (t95 hw) (t194 hw) (by decide) pd0 d28_1 (by decide) rfl rfl rfl rfl (Nat.le_of_eq rfl) rfl ?_
  intro T v L' hQ w
  obtain ⟨rfl, hL⟩ := hQ
  replace hL := hL.symm
  subst hL
  dsimp only [oS, oN, cA, nA]
  refine s_aloadN (pc' := 5) w d28_4 rfl rfl rfl ?_
  refine s_aloadN (pc' := 6) w d28_5 rfl rfl rfl ?_
  refine s_private (pc' := 9) (rest := []) 0 [(.ref sa)] w (c_pack2 hw l h0 n0 kS kP kT kH kL kW kX kM kK 0 sa s0 s1 s2 l0 l1 l2 x0 x1 x2 y0 y1 Ls pS pK pL pW pX qa neS neL neW neX neA) (Lk.new pS) (t195 hw) (t196 hw) (t189 hw) rfl (t197 hw) (t95 hw) (t198 hw) (by decide) pd17 d28_6 (by decide) rfl rfl rfl rfl (Nat.le_of_eq rfl) rfl ?_
  intro T v L' hQ w
  obtain ⟨rfl, hL⟩ := hQ
  replace hL := hL.symm
  subst hL
  dsimp only [oS, oN, cA, nA]
  have qS := lk_ne (o := aJ ([.long (((0 : Int64) ||| (dS s0 l0 x0)) ||| (dS s1 l1 x1)), .long ((0 : Int64) ||| (dS s2 l2 x2))])) pS neS
  have qK := lk_set (o := aJ ([.long (((0 : Int64) ||| (dS s0 l0 x0)) ||| (dS s1 l1 x1)), .long ((0 : Int64) ||| (dS s2 l2 x2))])) pK
  have qT := lk_ne (o := aJ ([.long (((0 : Int64) ||| (dS s0 l0 x0)) ||| (dS s1 l1 x1)), .long ((0 : Int64) ||| (dS s2 l2 x2))])) pT neTK.symm
  have qP := lk_ne (o := aJ ([.long (((0 : Int64) ||| (dS s0 l0 x0)) ||| (dS s1 l1 x1)), .long ((0 : Int64) ||| (dS s2 l2 x2))])) pP nePK.symm
  refine s_aloadN (pc' := 10) w d28_9 rfl rfl rfl ?_
  refine s_aloadN (pc' := 11) w d28_10 rfl rfl rfl ?_
  refine s_getL (pc' := 14) (host := "") w (Or.inl (t181 hw)) Via.refl (Lk.new qS) (j := 9) rfl rfl d28_11 rfl ?_
  intro T w
  refine s_iconst (pc' := 15) (0 : Int32) w d28_14 (by decide) rfl ?_
  refine s_aloadN (pc' := 16) w d28_15 rfl rfl rfl ?_
  refine s_aloadN (pc' := 17) w d28_16 rfl rfl rfl ?_
  refine s_getL (pc' := 20) (host := "") w (Or.inl (t181 hw)) Via.refl (Lk.new qS) (j := 9) rfl rfl d28_17 rfl ?_
  intro T w
  refine s_iconst (pc' := 21) (0 : Int32) w d28_20 (by decide) rfl ?_
  refine s_virtual (pc' := 24) (rest := [(.int (0 : Int32)), (.ref (n0 + kK)), (.ref (n0 + kS))]) 3 [(.ref (n0 + kK)), (.int (0 : Int32))] w (c_hash2 hw l h0 n0 (n0 + kS) (n0 + kK) 0 _ (((0 : Int64) ||| (dS s0 l0 x0)) ||| (dS s1 l1 x1)) ((0 : Int64) ||| (dS s2 l2 x2)) (Ls.set kK (aJ ([.long (((0 : Int64) ||| (dS s0 l0 x0)) ||| (dS s1 l1 x1)), .long ((0 : Int64) ||| (dS s2 l2 x2))]))) _ (Lk.new qS) rfl (Lk.new qK) (by decide) rfl rfl) (Lk.new qS) (t202 hw) (t203 hw) (w.notFace (t205 hw)) (t205 hw) (t204 hw) (t95 hw) (t206 hw) (by decide) pd18 d28_21 (by decide) rfl rfl rfl rfl (Nat.le_of_eq rfl) rfl ?_
  intro T v L' hQ w
  obtain ⟨rfl, hL⟩ := hQ
  replace hL := hL.symm
  subst hL
  dsimp only [oS, oN, cA, nA]
  refine s_private (pc' := 27) (rest := []) 0 [(.ref (n0 + kK)), (.int (0 : Int32)), (.int (hfin (hfold [(((0 : Int64) ||| (dS s0 l0 x0)) ||| (dS s1 l1 x1)), ((0 : Int64) ||| (dS s2 l2 x2))])))] w (c_addE2 hw l h0 n0 kS kP kT kH kL kW kX kM kK (hfin (hfold [(((0 : Int64) ||| (dS s0 l0 x0)) ||| (dS s1 l1 x1)), ((0 : Int64) ||| (dS s2 l2 x2))])) (((0 : Int64) ||| (dS s0 l0 x0)) ||| (dS s1 l1 x1)) ((0 : Int64) ||| (dS s2 l2 x2)) (Ls.set kK (aJ ([.long (((0 : Int64) ||| (dS s0 l0 x0)) ||| (dS s1 l1 x1)), .long ((0 : Int64) ||| (dS s2 l2 x2))]))) qS qT qP qK neT neS.symm neTK) (Lk.new qS) (t209 hw) (t210 hw) (t189 hw) rfl (t211 hw) (t95 hw) (t212 hw) (by decide) pd15 d28_24 (by decide) rfl rfl rfl rfl (Nat.le_of_eq rfl) rfl ?_
  intro T v L' hQ w
  obtain ⟨rfl, hL⟩ := hQ
  replace hL := hL.symm
  subst hL
  dsimp only [oS, oN, cA, nA]
  exact s_ireturn w d28_27 (by decide) (by decide) ⟨rfl, by rw [List.length_set] <;> rfl⟩
set_option maxRecDepth 65536 in
set_option maxHeartbeats 40000000 in
theorem c_addTwo2 {Z : State} {a0 : Array Value} (hw : Tw Z a0) (l : Launch) (h0 : Heap) (n0 : Nat) (kS kP kT kH kL kW kX kM kK : Nat) (sa : Addr) (s0 s1 s2 l0 l1 l2 x0 x1 x2 : Int32) (y0 : Int64) (y1 : Int64) (h1 : Int32) (p0 : Int64) (p1 : Int64) (Ls : List Ob) (pS : Ls[kS]? = some (sOb n0 kP kT kH kL kW kX kM 2 kK 1)) (pT : Ls[kT]? = some (aI ((List.replicate 1024 (Value.int (-1))).set (h1 &&& (1023 : Int32)).toNatClampNeg (.int (entF 0 h1))))) (pP : Ls[kP]? = some (aJ ([.long p0, .long p1] ++ List.replicate 1022 (.long 0)))) (pK : Ls[kK]? = some (aJ ([.long y0, .long y1]))) (pL : Ls[kL]? = some (aI ([.int l0, .int l1, .int l2]))) (pW : Ls[kW]? = some (aI ([.int 0, .int 0, .int 1]))) (pX : Ls[kX]? = some (aI ([.int x0, .int x1, .int x2]))) (qa : Lk Z h0 n0 Ls sa (aI ([.int s0, .int s1, .int s2]))) (neS : kK ≠ kS) (neL : kK ≠ kL) (neW : kK ≠ kW) (neX : kK ≠ kX) (neA : sa ≠ n0 + kK) (neT : kT ≠ kS) (neTK : kT ≠ kK) (nePK : kP ≠ kK) (neP : kP ≠ kS) (neTP : kP ≠ kT) :
    Met1 l Z (⟨"com/example/ryazan/ryazan/statespace/StateStore", "add", "([I)I"⟩ : MethodName) prog_197_method_5_code 2 (some .int) ({ frames := 4, cells := 0, slots := 0, locals := 67 } : Room) #[(.ref (n0 + kS)), (.ref sa)] h0 n0 Ls (fun v L => (v = some (.int 0) ∧ L = Ls.set kK (aJ ([.long (((0 : Int64) ||| (dS s0 l0 x0)) ||| (dS s1 l1 x1)), .long ((0 : Int64) ||| (dS s2 l2 x2))])) ∧ (p0 = (((0 : Int64) ||| (dS s0 l0 x0)) ||| (dS s1 l1 x1)) ∧ p1 = ((0 : Int64) ||| (dS s2 l2 x2)))) ∨ (v = some (.int 1) ∧ ∃ tb : List Value, L = (((Ls.set kK (aJ ([.long (((0 : Int64) ||| (dS s0 l0 x0)) ||| (dS s1 l1 x1)), .long ((0 : Int64) ||| (dS s2 l2 x2))]))).set kP (aJ ([.long p0, .long p1, .long (((0 : Int64) ||| (dS s0 l0 x0)) ||| (dS s1 l1 x1)), .long ((0 : Int64) ||| (dS s2 l2 x2))] ++ List.replicate 1020 (.long 0)))).set kT (aI (tb))).set kS (sOb n0 kP kT kH kL kW kX kM 2 kK 2))) [] := by
  refine Met1.of (ls := #[vR (n0 + kS), vR sa]) (plainFor_of_name pn10) (fun m => by first | (simp [entryFrame, mkF, argsToLocals, Value.category]; done) | rfl) ?_
  intro p e s m below meth c T w
  refine s_aloadN (pc' := 1) w d28_0 rfl rfl rfl ?_
  refine s_private (pc' := 4) (rest := []) 0 [] w (c_place2 hw l h0 n0 kS kP kT kH kL kW kX kM kK 1 Ls pS) (Lk.new pS) (t191 hw) (t192 hw) (t189 hw) rfl (t193 hw) (t95 hw) (t194 hw) (by decide) pd0 d28_1 (by decide) rfl rfl rfl rfl (Nat.le_of_eq rfl) rfl ?_
  intro T v L' hQ w
  obtain ⟨rfl, hL⟩ := hQ
  replace hL := hL.symm
  subst hL
  dsimp only [oS, oN, cA, nA]
  refine s_aloadN (pc' := 5) w d28_4 rfl rfl rfl ?_
  refine s_aloadN (pc' := 6) w d28_5 rfl rfl rfl ?_
  refine s_private (pc' := 9) (rest := []) 0 [(.ref sa)] w (c_pack2 hw l h0 n0 kS kP kT kH kL kW kX kM kK 1 sa s0 s1 s2 l0 l1 l2 x0 x1 x2 y0 y1 Ls pS pK pL pW pX qa neS neL neW neX neA) (Lk.new pS) (t195 hw) (t196 hw) (t189 hw) rfl (t197 hw) (t95 hw) (t198 hw) (by decide) pd17 d28_6 (by decide) rfl rfl rfl rfl (Nat.le_of_eq rfl) rfl ?_
  intro T v L' hQ w
  obtain ⟨rfl, hL⟩ := hQ
  replace hL := hL.symm
  subst hL
  dsimp only [oS, oN, cA, nA]
  have qS := lk_ne (o := aJ ([.long (((0 : Int64) ||| (dS s0 l0 x0)) ||| (dS s1 l1 x1)), .long ((0 : Int64) ||| (dS s2 l2 x2))])) pS neS
  have qK := lk_set (o := aJ ([.long (((0 : Int64) ||| (dS s0 l0 x0)) ||| (dS s1 l1 x1)), .long ((0 : Int64) ||| (dS s2 l2 x2))])) pK
  have qT := lk_ne (o := aJ ([.long (((0 : Int64) ||| (dS s0 l0 x0)) ||| (dS s1 l1 x1)), .long ((0 : Int64) ||| (dS s2 l2 x2))])) pT neTK.symm
  have qP := lk_ne (o := aJ ([.long (((0 : Int64) ||| (dS s0 l0 x0)) ||| (dS s1 l1 x1)), .long ((0 : Int64) ||| (dS s2 l2 x2))])) pP nePK.symm
  refine s_aloadN (pc' := 10) w d28_9 rfl rfl rfl ?_
  refine s_aloadN (pc' := 11) w d28_10 rfl rfl rfl ?_
  refine s_getL (pc' := 14) (host := "") w (Or.inl (t181 hw)) Via.refl (Lk.new qS) (j := 9) rfl rfl d28_11 rfl ?_
  intro T w
  refine s_iconst (pc' := 15) (0 : Int32) w d28_14 (by decide) rfl ?_
  refine s_aloadN (pc' := 16) w d28_15 rfl rfl rfl ?_
  refine s_aloadN (pc' := 17) w d28_16 rfl rfl rfl ?_
  refine s_getL (pc' := 20) (host := "") w (Or.inl (t181 hw)) Via.refl (Lk.new qS) (j := 9) rfl rfl d28_17 rfl ?_
  intro T w
  refine s_iconst (pc' := 21) (0 : Int32) w d28_20 (by decide) rfl ?_
  refine s_virtual (pc' := 24) (rest := [(.int (0 : Int32)), (.ref (n0 + kK)), (.ref (n0 + kS))]) 3 [(.ref (n0 + kK)), (.int (0 : Int32))] w (c_hash2 hw l h0 n0 (n0 + kS) (n0 + kK) 0 _ (((0 : Int64) ||| (dS s0 l0 x0)) ||| (dS s1 l1 x1)) ((0 : Int64) ||| (dS s2 l2 x2)) (Ls.set kK (aJ ([.long (((0 : Int64) ||| (dS s0 l0 x0)) ||| (dS s1 l1 x1)), .long ((0 : Int64) ||| (dS s2 l2 x2))]))) _ (Lk.new qS) rfl (Lk.new qK) (by decide) rfl rfl) (Lk.new qS) (t202 hw) (t203 hw) (w.notFace (t205 hw)) (t205 hw) (t204 hw) (t95 hw) (t206 hw) (by decide) pd18 d28_21 (by decide) rfl rfl rfl rfl (Nat.le_of_eq rfl) rfl ?_
  intro T v L' hQ w
  obtain ⟨rfl, hL⟩ := hQ
  replace hL := hL.symm
  subst hL
  dsimp only [oS, oN, cA, nA]
  refine s_private (pc' := 27) (rest := []) 0 [(.ref (n0 + kK)), (.int (0 : Int32)), (.int (hfin (hfold [(((0 : Int64) ||| (dS s0 l0 x0)) ||| (dS s1 l1 x1)), ((0 : Int64) ||| (dS s2 l2 x2))])))] w (c_addF2 hw l h0 n0 kS kP kT kH kL kW kX kM kK h1 (hfin (hfold [(((0 : Int64) ||| (dS s0 l0 x0)) ||| (dS s1 l1 x1)), ((0 : Int64) ||| (dS s2 l2 x2))])) p0 (((0 : Int64) ||| (dS s0 l0 x0)) ||| (dS s1 l1 x1)) p1 ((0 : Int64) ||| (dS s2 l2 x2)) (Ls.set kK (aJ ([.long (((0 : Int64) ||| (dS s0 l0 x0)) ||| (dS s1 l1 x1)), .long ((0 : Int64) ||| (dS s2 l2 x2))]))) qS qT qP qK neT neP neTP) (Lk.new qS) (t209 hw) (t210 hw) (t189 hw) rfl (t211 hw) (t95 hw) (t212 hw) (by decide) pd15 d28_24 (by decide) rfl rfl rfl rfl (Nat.le_of_eq rfl) rfl ?_
  intro T v L' hQ w
  rcases hQ with ⟨rfl, hL, hz⟩ | ⟨rfl, tb, hL⟩
  · replace hL := hL.symm
    subst hL
    change Go p e below _ T (mkF m 27 #[vR (n0 + kS), vR sa] [(.int (0 : Int32))])
    exact s_ireturn w d28_27 (by decide) (by decide) (Or.inl ⟨rfl, rfl, hz⟩)
  · replace hL := hL.symm
    subst hL
    change Go p e below _ T (mkF m 27 #[vR (n0 + kS), vR sa] [(.int (1 : Int32))])
    exact s_ireturn w d28_27 (by decide) (by decide) (Or.inr ⟨rfl, tb, rfl⟩)
set_option maxRecDepth 65536 in
set_option maxHeartbeats 40000000 in
theorem c_key2 {Z : State} {a0 : Array Value} (hw : Tw Z a0) (l : Launch) (h0 : Heap) (n0 : Nat) (kS kP kT kH kL kW kX kM kK : Nat) (sz : Int32) (kE m' st' : Nat) (pk vs : List Value) (Ls : List Ob) (pS : Ls[kS]? = some (sOb n0 kP kT kH kL kW kX kM 2 kK sz)) (pP : Ls[kP]? = some (aJ (pk))) (pE : Ls[kE]? = some (aJ (vs))) (hm : m' < 100) (hst : st' < 100) (h4 : m' * 2 + 2 ≤ pk.length) (h5 : st' + 2 ≤ vs.length) :
    Met1 l Z (⟨"com/example/ryazan/ryazan/statespace/StateStore", "key", "(I[JI)V"⟩ : MethodName) prog_197_method_11_code 4 none ({ frames := 1, cells := 0, slots := 0, locals := 18 } : Room) #[(.ref (n0 + kS)), (.int (Int32.ofNat m')), (.ref (n0 + kE)), (.int (Int32.ofNat st'))] h0 n0 Ls (fun v L => v = none ∧ L = Ls.set kE (aJ (vs.take st' ++ (pk.drop (m' * 2)).take 2 ++ vs.drop (st' + 2)))) [] := by
  refine Met1.of (ls := #[vR (n0 + kS), vI (Int32.ofNat m'), vR (n0 + kE), vI (Int32.ofNat st')]) (plainFor_of_name pn10) (fun m => by first | (simp [entryFrame, mkF, argsToLocals, Value.category]; done) | rfl) ?_
  intro p e s m below meth c T w
  refine s_aloadN (pc' := 1) w d39_0 rfl rfl rfl ?_
  refine s_getL (pc' := 4) (host := "") w (Or.inl (t101 hw)) Via.refl (Lk.new pS) (j := 0) rfl rfl d39_1 rfl ?_
  intro T w
  refine s_iloadN (pc' := 5) w d39_4 rfl rfl ?_
  refine s_aloadN (pc' := 6) w d39_5 rfl rfl rfl ?_
  refine s_getL (pc' := 9) (host := "") w (Or.inl (t179 hw)) Via.refl (Lk.new pS) (j := 8) rfl rfl d39_6 rfl ?_
  intro T w
  refine s_imul (pc' := 10) w d39_9 rfl ?_
  rw [show Int32.ofNat m' * (2 : Int32) = Int32.ofNat (m' * 2) from (Int32.ofNat_mul m' 2).symm]
  refine s_aloadN (pc' := 11) w d39_10 rfl rfl rfl ?_
  refine s_iloadN (pc' := 12) w d39_11 rfl rfl ?_
  refine s_aloadN (pc' := 13) w d39_12 rfl rfl rfl ?_
  refine s_getL (pc' := 16) (host := "") w (Or.inl (t179 hw)) Via.refl (Lk.new pS) (j := 8) rfl rfl d39_13 rfl ?_
  intro T w
  have c1 : (Int32.ofNat (m' * 2)).toNatClampNeg = m' * 2 := i_cl (by omega)
  have c2 : (Int32.ofNat st').toNatClampNeg = st' := i_cl (by omega)
  have c3 : (2 : Int32).toNatClampNeg = 2 := rfl
  refine s_arraycopy (pc' := 19) (k := kE) 0 w (Lk.new pP) pE rfl (t233 hw) (t232 hw) (t230 hw) (t231 hw) (i_nn (by omega)) (i_nn (by omega)) (by decide) (by rw [c1, c3]; exact h4) (by rw [c2, c3]; exact h5) d39_16 rfl (by decide) (Nat.le_of_eq rfl) (by decide) rfl ?_
  intro T w
  exact s_return w d39_19 (by decide) (by decide) ⟨rfl, by rw [c1, c2, c3]⟩
set_option maxRecDepth 65536 in
set_option maxHeartbeats 40000000 in
theorem c_set2_0 {Z : State} {a0 : Array Value} (hw : Tw Z a0) (l : Launch) (h0 : Heap) (n0 : Nat) (kS kP kT kH kL kW kX kM kK : Nat) (sz : Int32) (kE st' : Nat) (xv l0 l1 l2 x0 x1 x2 : Int32) (m0 m1 m2 kk' : Int64) (vs : List Value) (Ls : List Ob) (pS : Ls[kS]? = some (sOb n0 kP kT kH kL kW kX kM 2 kK sz)) (pL : Ls[kL]? = some (aI ([.int l0, .int l1, .int l2]))) (pW : Ls[kW]? = some (aI ([.int 0, .int 0, .int 1]))) (pX : Ls[kX]? = some (aI ([.int x0, .int x1, .int x2]))) (pM : Ls[kM]? = some (aJ ([.long m0, .long m1, .long m2]))) (pE : Ls[kE]? = some (aJ (vs))) (hst : st' < 100) (hk' : vs[st' + 0]? = some (.long kk')) :
    Met1 l Z (⟨"com/example/ryazan/ryazan/statespace/StateStore", "set", "([JIII)V"⟩ : MethodName) prog_197_method_12_code 8 none ({ frames := 0, cells := 0, slots := 0, locals := 0 } : Room) #[(.ref (n0 + kS)), (.ref (n0 + kE)), (.int (Int32.ofNat st')), (.int (0 : Int32)), (.int xv)] h0 n0 Ls (fun v L => v = none ∧ L = Ls.set kE (aJ (vs.set (st' + 0) (.long (setF kk' m0 x0 xv l0))))) [] := by
  refine Met1.of (ls := #[vR (n0 + kS), vR (n0 + kE), vI (Int32.ofNat st'), vI (0 : Int32), vI xv, un, un, un]) (plainFor_of_name pn10) (fun m => by first | (simp [entryFrame, mkF, argsToLocals, Value.category]; done) | rfl) ?_
  intro p e s m below meth c T w
  refine s_iloadN (pc' := 1) w d40_0 rfl rfl ?_
  refine s_aloadN (pc' := 2) w d40_1 rfl rfl rfl ?_
  refine s_getL (pc' := 5) (host := "") w (Or.inl (t131 hw)) Via.refl (Lk.new pS) (j := 5) rfl rfl d40_2 rfl ?_
  intro T w
  refine s_iloadN (pc' := 6) w d40_5 rfl rfl ?_
  refine s_iaload (pc' := 7) (v := (.int (0 : Int32))) w (Lk.new pW) d40_6 (by decide) rfl rfl ?_
  refine s_iadd (pc' := 8) w d40_7 rfl ?_
  rw [show Int32.ofNat st' + (0 : Int32) = Int32.ofNat (st' + 0) from b_add st' 0]
  have c1 : (Int32.ofNat (st' + 0)).toNatClampNeg = st' + 0 := i_cl (by omega)
  have c2 : ¬ Int32.ofNat (st' + 0) < 0 := i_nn (by omega)
  refine s_istore (pc' := 10) (ls' := #[vR (n0 + kS), vR (n0 + kE), vI (Int32.ofNat st'), vI (0 : Int32), vI xv, vI (Int32.ofNat (st' + 0)), un, un]) w d40_8 rfl rfl ?_
  refine s_aloadN (pc' := 11) w d40_10 rfl rfl rfl ?_
  refine s_iload (pc' := 13) w d40_11 rfl rfl ?_
  refine s_laload (pc' := 14) (v := (.long kk')) w (Lk.new pE) d40_13 c2 (by rw [c1]; exact hk') rfl ?_
  refine s_aloadN (pc' := 15) w d40_14 rfl rfl rfl ?_
  refine s_getL (pc' := 18) (host := "") w (Or.inl (t135 hw)) Via.refl (Lk.new pS) (j := 7) rfl rfl d40_15 rfl ?_
  intro T w
  refine s_iloadN (pc' := 19) w d40_18 rfl rfl ?_
  refine s_laload (pc' := 20) (v := (.long m0)) w (Lk.new pM) d40_19 (by decide) rfl rfl ?_
  refine s_aloadN (pc' := 21) w d40_20 rfl rfl rfl ?_
  refine s_getL (pc' := 24) (host := "") w (Or.inl (t133 hw)) Via.refl (Lk.new pS) (j := 6) rfl rfl d40_21 rfl ?_
  intro T w
  refine s_iloadN (pc' := 25) w d40_24 rfl rfl ?_
  refine s_iaload (pc' := 26) (v := (.int x0)) w (Lk.new pX) d40_25 (by decide) rfl rfl ?_
  refine s_lshl (pc' := 27) w d40_26 rfl ?_
  refine s_ldc2 (pc' := 30) w (t248 hw) d40_27 rfl ?_
  refine s_lxor (pc' := 31) w d40_30 rfl ?_
  refine s_land (pc' := 32) w d40_31 rfl ?_
  refine s_lstore (pc' := 34) (ls' := #[vR (n0 + kS), vR (n0 + kE), vI (Int32.ofNat st'), vI (0 : Int32), vI xv, vI (Int32.ofNat (st' + 0)), vJ (kk' &&& ((m0 <<< (x0.toInt64 &&& 63)) ^^^ (-1 : Int64))), sc]) w d40_32 rfl rfl ?_
  refine s_aloadN (pc' := 35) w d40_34 rfl rfl rfl ?_
  refine s_iload (pc' := 37) w d40_35 rfl rfl ?_
  refine s_lload (pc' := 39) w d40_37 rfl rfl ?_
  refine s_iload (pc' := 41) w d40_39 rfl rfl ?_
  refine s_i2l (pc' := 42) w d40_41 rfl ?_
  refine s_aloadN (pc' := 43) w d40_42 rfl rfl rfl ?_
  refine s_getL (pc' := 46) (host := "") w (Or.inl (t129 hw)) Via.refl (Lk.new pS) (j := 4) rfl rfl d40_43 rfl ?_
  intro T w
  refine s_iloadN (pc' := 47) w d40_46 rfl rfl ?_
  refine s_iaload (pc' := 48) (v := (.int l0)) w (Lk.new pL) d40_47 (by decide) rfl rfl ?_
  refine s_i2l (pc' := 49) w d40_48 rfl ?_
  refine s_lsub (pc' := 50) w d40_49 rfl ?_
  refine s_aloadN (pc' := 51) w d40_50 rfl rfl rfl ?_
  refine s_getL (pc' := 54) (host := "") w (Or.inl (t133 hw)) Via.refl (Lk.new pS) (j := 6) rfl rfl d40_51 rfl ?_
  intro T w
  refine s_iloadN (pc' := 55) w d40_54 rfl rfl ?_
  refine s_iaload (pc' := 56) (v := (.int x0)) w (Lk.new pX) d40_55 (by decide) rfl rfl ?_
  refine s_lshl (pc' := 57) w d40_56 rfl ?_
  refine s_lor (pc' := 58) w d40_57 rfl ?_
  refine s_lastore (pc' := 59) (k := kE) w pE d40_58 c2 (by rw [c1]; exact (List.getElem?_eq_some_iff.mp hk').1) rfl ?_
  intro T w
  exact s_return w d40_59 (by decide) (by decide) ⟨rfl, by rw [c1]; rfl⟩
set_option maxRecDepth 65536 in
set_option maxHeartbeats 40000000 in
theorem c_set2_1 {Z : State} {a0 : Array Value} (hw : Tw Z a0) (l : Launch) (h0 : Heap) (n0 : Nat) (kS kP kT kH kL kW kX kM kK : Nat) (sz : Int32) (kE st' : Nat) (xv l0 l1 l2 x0 x1 x2 : Int32) (m0 m1 m2 kk' : Int64) (vs : List Value) (Ls : List Ob) (pS : Ls[kS]? = some (sOb n0 kP kT kH kL kW kX kM 2 kK sz)) (pL : Ls[kL]? = some (aI ([.int l0, .int l1, .int l2]))) (pW : Ls[kW]? = some (aI ([.int 0, .int 0, .int 1]))) (pX : Ls[kX]? = some (aI ([.int x0, .int x1, .int x2]))) (pM : Ls[kM]? = some (aJ ([.long m0, .long m1, .long m2]))) (pE : Ls[kE]? = some (aJ (vs))) (hst : st' < 100) (hk' : vs[st' + 0]? = some (.long kk')) :
    Met1 l Z (⟨"com/example/ryazan/ryazan/statespace/StateStore", "set", "([JIII)V"⟩ : MethodName) prog_197_method_12_code 8 none ({ frames := 0, cells := 0, slots := 0, locals := 0 } : Room) #[(.ref (n0 + kS)), (.ref (n0 + kE)), (.int (Int32.ofNat st')), (.int (1 : Int32)), (.int xv)] h0 n0 Ls (fun v L => v = none ∧ L = Ls.set kE (aJ (vs.set (st' + 0) (.long (setF kk' m1 x1 xv l1))))) [] := by
  refine Met1.of (ls := #[vR (n0 + kS), vR (n0 + kE), vI (Int32.ofNat st'), vI (1 : Int32), vI xv, un, un, un]) (plainFor_of_name pn10) (fun m => by first | (simp [entryFrame, mkF, argsToLocals, Value.category]; done) | rfl) ?_
  intro p e s m below meth c T w
  refine s_iloadN (pc' := 1) w d40_0 rfl rfl ?_
  refine s_aloadN (pc' := 2) w d40_1 rfl rfl rfl ?_
  refine s_getL (pc' := 5) (host := "") w (Or.inl (t131 hw)) Via.refl (Lk.new pS) (j := 5) rfl rfl d40_2 rfl ?_
  intro T w
  refine s_iloadN (pc' := 6) w d40_5 rfl rfl ?_
  refine s_iaload (pc' := 7) (v := (.int (0 : Int32))) w (Lk.new pW) d40_6 (by decide) rfl rfl ?_
  refine s_iadd (pc' := 8) w d40_7 rfl ?_
  rw [show Int32.ofNat st' + (0 : Int32) = Int32.ofNat (st' + 0) from b_add st' 0]
  have c1 : (Int32.ofNat (st' + 0)).toNatClampNeg = st' + 0 := i_cl (by omega)
  have c2 : ¬ Int32.ofNat (st' + 0) < 0 := i_nn (by omega)
  refine s_istore (pc' := 10) (ls' := #[vR (n0 + kS), vR (n0 + kE), vI (Int32.ofNat st'), vI (1 : Int32), vI xv, vI (Int32.ofNat (st' + 0)), un, un]) w d40_8 rfl rfl ?_
  refine s_aloadN (pc' := 11) w d40_10 rfl rfl rfl ?_
  refine s_iload (pc' := 13) w d40_11 rfl rfl ?_
  refine s_laload (pc' := 14) (v := (.long kk')) w (Lk.new pE) d40_13 c2 (by rw [c1]; exact hk') rfl ?_
  refine s_aloadN (pc' := 15) w d40_14 rfl rfl rfl ?_
  refine s_getL (pc' := 18) (host := "") w (Or.inl (t135 hw)) Via.refl (Lk.new pS) (j := 7) rfl rfl d40_15 rfl ?_
  intro T w
  refine s_iloadN (pc' := 19) w d40_18 rfl rfl ?_
  refine s_laload (pc' := 20) (v := (.long m1)) w (Lk.new pM) d40_19 (by decide) rfl rfl ?_
  refine s_aloadN (pc' := 21) w d40_20 rfl rfl rfl ?_
  refine s_getL (pc' := 24) (host := "") w (Or.inl (t133 hw)) Via.refl (Lk.new pS) (j := 6) rfl rfl d40_21 rfl ?_
  intro T w
  refine s_iloadN (pc' := 25) w d40_24 rfl rfl ?_
  refine s_iaload (pc' := 26) (v := (.int x1)) w (Lk.new pX) d40_25 (by decide) rfl rfl ?_
  refine s_lshl (pc' := 27) w d40_26 rfl ?_
  refine s_ldc2 (pc' := 30) w (t248 hw) d40_27 rfl ?_
  refine s_lxor (pc' := 31) w d40_30 rfl ?_
  refine s_land (pc' := 32) w d40_31 rfl ?_
  refine s_lstore (pc' := 34) (ls' := #[vR (n0 + kS), vR (n0 + kE), vI (Int32.ofNat st'), vI (1 : Int32), vI xv, vI (Int32.ofNat (st' + 0)), vJ (kk' &&& ((m1 <<< (x1.toInt64 &&& 63)) ^^^ (-1 : Int64))), sc]) w d40_32 rfl rfl ?_
  refine s_aloadN (pc' := 35) w d40_34 rfl rfl rfl ?_
  refine s_iload (pc' := 37) w d40_35 rfl rfl ?_
  refine s_lload (pc' := 39) w d40_37 rfl rfl ?_
  refine s_iload (pc' := 41) w d40_39 rfl rfl ?_
  refine s_i2l (pc' := 42) w d40_41 rfl ?_
  refine s_aloadN (pc' := 43) w d40_42 rfl rfl rfl ?_
  refine s_getL (pc' := 46) (host := "") w (Or.inl (t129 hw)) Via.refl (Lk.new pS) (j := 4) rfl rfl d40_43 rfl ?_
  intro T w
  refine s_iloadN (pc' := 47) w d40_46 rfl rfl ?_
  refine s_iaload (pc' := 48) (v := (.int l1)) w (Lk.new pL) d40_47 (by decide) rfl rfl ?_
  refine s_i2l (pc' := 49) w d40_48 rfl ?_
  refine s_lsub (pc' := 50) w d40_49 rfl ?_
  refine s_aloadN (pc' := 51) w d40_50 rfl rfl rfl ?_
  refine s_getL (pc' := 54) (host := "") w (Or.inl (t133 hw)) Via.refl (Lk.new pS) (j := 6) rfl rfl d40_51 rfl ?_
  intro T w
  refine s_iloadN (pc' := 55) w d40_54 rfl rfl ?_
  refine s_iaload (pc' := 56) (v := (.int x1)) w (Lk.new pX) d40_55 (by decide) rfl rfl ?_
  refine s_lshl (pc' := 57) w d40_56 rfl ?_
  refine s_lor (pc' := 58) w d40_57 rfl ?_
  refine s_lastore (pc' := 59) (k := kE) w pE d40_58 c2 (by rw [c1]; exact (List.getElem?_eq_some_iff.mp hk').1) rfl ?_
  intro T w
  exact s_return w d40_59 (by decide) (by decide) ⟨rfl, by rw [c1]; rfl⟩
set_option maxRecDepth 65536 in
set_option maxHeartbeats 40000000 in
theorem c_set2_2 {Z : State} {a0 : Array Value} (hw : Tw Z a0) (l : Launch) (h0 : Heap) (n0 : Nat) (kS kP kT kH kL kW kX kM kK : Nat) (sz : Int32) (kE st' : Nat) (xv l0 l1 l2 x0 x1 x2 : Int32) (m0 m1 m2 kk' : Int64) (vs : List Value) (Ls : List Ob) (pS : Ls[kS]? = some (sOb n0 kP kT kH kL kW kX kM 2 kK sz)) (pL : Ls[kL]? = some (aI ([.int l0, .int l1, .int l2]))) (pW : Ls[kW]? = some (aI ([.int 0, .int 0, .int 1]))) (pX : Ls[kX]? = some (aI ([.int x0, .int x1, .int x2]))) (pM : Ls[kM]? = some (aJ ([.long m0, .long m1, .long m2]))) (pE : Ls[kE]? = some (aJ (vs))) (hst : st' < 100) (hk' : vs[st' + 1]? = some (.long kk')) :
    Met1 l Z (⟨"com/example/ryazan/ryazan/statespace/StateStore", "set", "([JIII)V"⟩ : MethodName) prog_197_method_12_code 8 none ({ frames := 0, cells := 0, slots := 0, locals := 0 } : Room) #[(.ref (n0 + kS)), (.ref (n0 + kE)), (.int (Int32.ofNat st')), (.int (2 : Int32)), (.int xv)] h0 n0 Ls (fun v L => v = none ∧ L = Ls.set kE (aJ (vs.set (st' + 1) (.long (setF kk' m2 x2 xv l2))))) [] := by
  refine Met1.of (ls := #[vR (n0 + kS), vR (n0 + kE), vI (Int32.ofNat st'), vI (2 : Int32), vI xv, un, un, un]) (plainFor_of_name pn10) (fun m => by first | (simp [entryFrame, mkF, argsToLocals, Value.category]; done) | rfl) ?_
  intro p e s m below meth c T w
  refine s_iloadN (pc' := 1) w d40_0 rfl rfl ?_
  refine s_aloadN (pc' := 2) w d40_1 rfl rfl rfl ?_
  refine s_getL (pc' := 5) (host := "") w (Or.inl (t131 hw)) Via.refl (Lk.new pS) (j := 5) rfl rfl d40_2 rfl ?_
  intro T w
  refine s_iloadN (pc' := 6) w d40_5 rfl rfl ?_
  refine s_iaload (pc' := 7) (v := (.int (1 : Int32))) w (Lk.new pW) d40_6 (by decide) rfl rfl ?_
  refine s_iadd (pc' := 8) w d40_7 rfl ?_
  rw [show Int32.ofNat st' + (1 : Int32) = Int32.ofNat (st' + 1) from b_add st' 1]
  have c1 : (Int32.ofNat (st' + 1)).toNatClampNeg = st' + 1 := i_cl (by omega)
  have c2 : ¬ Int32.ofNat (st' + 1) < 0 := i_nn (by omega)
  refine s_istore (pc' := 10) (ls' := #[vR (n0 + kS), vR (n0 + kE), vI (Int32.ofNat st'), vI (2 : Int32), vI xv, vI (Int32.ofNat (st' + 1)), un, un]) w d40_8 rfl rfl ?_
  refine s_aloadN (pc' := 11) w d40_10 rfl rfl rfl ?_
  refine s_iload (pc' := 13) w d40_11 rfl rfl ?_
  refine s_laload (pc' := 14) (v := (.long kk')) w (Lk.new pE) d40_13 c2 (by rw [c1]; exact hk') rfl ?_
  refine s_aloadN (pc' := 15) w d40_14 rfl rfl rfl ?_
  refine s_getL (pc' := 18) (host := "") w (Or.inl (t135 hw)) Via.refl (Lk.new pS) (j := 7) rfl rfl d40_15 rfl ?_
  intro T w
  refine s_iloadN (pc' := 19) w d40_18 rfl rfl ?_
  refine s_laload (pc' := 20) (v := (.long m2)) w (Lk.new pM) d40_19 (by decide) rfl rfl ?_
  refine s_aloadN (pc' := 21) w d40_20 rfl rfl rfl ?_
  refine s_getL (pc' := 24) (host := "") w (Or.inl (t133 hw)) Via.refl (Lk.new pS) (j := 6) rfl rfl d40_21 rfl ?_
  intro T w
  refine s_iloadN (pc' := 25) w d40_24 rfl rfl ?_
  refine s_iaload (pc' := 26) (v := (.int x2)) w (Lk.new pX) d40_25 (by decide) rfl rfl ?_
  refine s_lshl (pc' := 27) w d40_26 rfl ?_
  refine s_ldc2 (pc' := 30) w (t248 hw) d40_27 rfl ?_
  refine s_lxor (pc' := 31) w d40_30 rfl ?_
  refine s_land (pc' := 32) w d40_31 rfl ?_
  refine s_lstore (pc' := 34) (ls' := #[vR (n0 + kS), vR (n0 + kE), vI (Int32.ofNat st'), vI (2 : Int32), vI xv, vI (Int32.ofNat (st' + 1)), vJ (kk' &&& ((m2 <<< (x2.toInt64 &&& 63)) ^^^ (-1 : Int64))), sc]) w d40_32 rfl rfl ?_
  refine s_aloadN (pc' := 35) w d40_34 rfl rfl rfl ?_
  refine s_iload (pc' := 37) w d40_35 rfl rfl ?_
  refine s_lload (pc' := 39) w d40_37 rfl rfl ?_
  refine s_iload (pc' := 41) w d40_39 rfl rfl ?_
  refine s_i2l (pc' := 42) w d40_41 rfl ?_
  refine s_aloadN (pc' := 43) w d40_42 rfl rfl rfl ?_
  refine s_getL (pc' := 46) (host := "") w (Or.inl (t129 hw)) Via.refl (Lk.new pS) (j := 4) rfl rfl d40_43 rfl ?_
  intro T w
  refine s_iloadN (pc' := 47) w d40_46 rfl rfl ?_
  refine s_iaload (pc' := 48) (v := (.int l2)) w (Lk.new pL) d40_47 (by decide) rfl rfl ?_
  refine s_i2l (pc' := 49) w d40_48 rfl ?_
  refine s_lsub (pc' := 50) w d40_49 rfl ?_
  refine s_aloadN (pc' := 51) w d40_50 rfl rfl rfl ?_
  refine s_getL (pc' := 54) (host := "") w (Or.inl (t133 hw)) Via.refl (Lk.new pS) (j := 6) rfl rfl d40_51 rfl ?_
  intro T w
  refine s_iloadN (pc' := 55) w d40_54 rfl rfl ?_
  refine s_iaload (pc' := 56) (v := (.int x2)) w (Lk.new pX) d40_55 (by decide) rfl rfl ?_
  refine s_lshl (pc' := 57) w d40_56 rfl ?_
  refine s_lor (pc' := 58) w d40_57 rfl ?_
  refine s_lastore (pc' := 59) (k := kE) w pE d40_58 c2 (by rw [c1]; exact (List.getElem?_eq_some_iff.mp hk').1) rfl ?_
  intro T w
  exact s_return w d40_59 (by decide) (by decide) ⟨rfl, by rw [c1]; rfl⟩
set_option maxRecDepth 65536 in
set_option maxHeartbeats 40000000 in
theorem c_lawlow {Z : State} {a0 : Array Value} (hw : Tw Z a0) (l : Launch) (h0 : Heap) (n0 : Nat) (r : Int64) (Ls : List Ob) :
    Met1 l Z (⟨"com/example/ryazan/ryazan/statespace/StateStoreSetPinLaw", "low", "(J)I"⟩ : MethodName) method_2_code 2 (some .int) ({ frames := 0, cells := 0, slots := 0, locals := 0 } : Room) #[(.long r)] h0 n0 Ls (fun v L => v = some (.int (loF r)) ∧ L = Ls) [] := by
  refine Met1.of (ls := #[vJ r, sc]) (plainFor_of_name pn11) (fun m => by first | (simp [entryFrame, mkF, argsToLocals, Value.category]; done) | rfl) ?_
  intro p e s m below meth c T w
  refine s_lloadN (pc' := 1) w d1_0 rfl rfl ?_
  refine s_bipush (pc' := 3) (32 : Int32) w d1_1 (by decide) rfl ?_
  refine s_lshr (pc' := 4) w d1_3 rfl ?_
  refine s_l2i (pc' := 5) w d1_4 rfl ?_
  exact s_ireturn w d1_5 (by decide) (by decide) ⟨rfl, rfl⟩
set_option maxRecDepth 65536 in
set_option maxHeartbeats 40000000 in
theorem c_lawhigh {Z : State} {a0 : Array Value} (hw : Tw Z a0) (l : Launch) (h0 : Heap) (n0 : Nat) (r : Int64) (Ls : List Ob) :
    Met1 l Z (⟨"com/example/ryazan/ryazan/statespace/StateStoreSetPinLaw", "high", "(J)I"⟩ : MethodName) method_3_code 8 (some .int) ({ frames := 0, cells := 0, slots := 0, locals := 0 } : Room) #[(.long r)] h0 n0 Ls (fun v L => v = some (.int (hiF r)) ∧ L = Ls) [] := by
  refine Met1.of (ls := #[vJ r, sc, un, un, un, un, un, un]) (plainFor_of_name pn11) (fun m => by first | (simp [entryFrame, mkF, argsToLocals, Value.category]; done) | rfl) ?_
  intro p e s m below meth c T w
  refine s_lloadN (pc' := 1) w d2_0 rfl rfl ?_
  refine s_bipush (pc' := 3) (32 : Int32) w d2_1 (by decide) rfl ?_
  refine s_lshr (pc' := 4) w d2_3 rfl ?_
  refine s_l2i (pc' := 5) w d2_4 rfl ?_
  refine s_i2l (pc' := 6) w d2_5 rfl ?_
  refine s_lstoreN (pc' := 7) (ls' := #[vJ r, sc, vJ ((r >>> ((32 : Int32).toInt64 &&& 63)).toInt32.toInt64), sc, un, un, un, un]) w d2_6 rfl rfl ?_
  refine s_ldc2 (pc' := 10) w (t7 hw) d2_7 rfl ?_
  refine s_lloadN (pc' := 11) w d2_10 rfl rfl ?_
  refine s_lsub (pc' := 12) w d2_11 rfl ?_
  refine s_lstore (pc' := 14) (ls' := #[vJ r, sc, vJ ((r >>> ((32 : Int32).toInt64 &&& 63)).toInt32.toInt64), sc, vJ ((2147483647 : Int64) - (r >>> ((32 : Int32).toInt64 &&& 63)).toInt32.toInt64), sc, un, un]) w d2_12 rfl rfl ?_
  refine s_lloadN (pc' := 15) w d2_14 rfl rfl ?_
  refine s_ldc2 (pc' := 18) w (t8 hw) d2_15 rfl ?_
  refine s_land (pc' := 19) w d2_18 rfl ?_
  refine s_lload (pc' := 21) w d2_19 rfl rfl ?_
  refine s_lconst (pc' := 22) (1 : Int64) w d2_21 (by decide) rfl ?_
  refine s_ladd (pc' := 23) w d2_22 rfl ?_
  refine s_lrem (pc' := 24) w d2_23 (high_nz r) rfl ?_
  refine s_lstore (pc' := 26) (ls' := #[vJ r, sc, vJ ((r >>> ((32 : Int32).toInt64 &&& 63)).toInt32.toInt64), sc, vJ ((2147483647 : Int64) - (r >>> ((32 : Int32).toInt64 &&& 63)).toInt32.toInt64), sc, vJ ((r &&& (4294967295 : Int64)) - ((r &&& (4294967295 : Int64)) / (((2147483647 : Int64) - (r >>> ((32 : Int32).toInt64 &&& 63)).toInt32.toInt64) + (1 : Int64))) * (((2147483647 : Int64) - (r >>> ((32 : Int32).toInt64 &&& 63)).toInt32.toInt64) + (1 : Int64))), sc]) w d2_24 rfl rfl ?_
  refine s_lloadN (pc' := 27) w d2_26 rfl rfl ?_
  refine s_lload (pc' := 29) w d2_27 rfl rfl ?_
  refine s_ladd (pc' := 30) w d2_29 rfl ?_
  refine s_l2i (pc' := 31) w d2_30 rfl ?_
  exact s_ireturn w d2_31 (by decide) (by decide) ⟨rfl, rfl⟩
set_option maxRecDepth 65536 in
set_option maxHeartbeats 40000000 in
theorem c_pick {Z : State} {a0 : Array Value} (hw : Tw Z a0) (l : Launch) (h0 : Heap) (n0 : Nat) (lo hi : Int32) (v1 : Int64) (Ls : List Ob) (hlh : ¬ hi < lo) :
    Met1 l Z (⟨"com/example/ryazan/ryazan/statespace/StateStoreSetPinLaw", "within", "(IIJ)I"⟩ : MethodName) method_4_code 6 (some .int) ({ frames := 0, cells := 0, slots := 0, locals := 0 } : Room) #[(.int lo), (.int hi), (.long v1)] h0 n0 Ls (fun v L => ∃ s' : Int32, v = some (.int s') ∧ ¬ s' < lo ∧ ¬ hi < s' ∧ L = Ls) [] := by
  refine Met1.of (ls := #[vI lo, vI hi, vJ v1, sc, un, un]) (plainFor_of_name pn11) (fun m => by first | (simp [entryFrame, mkF, argsToLocals, Value.category]; done) | rfl) ?_
  intro p e s m below meth c T w
  refine s_iloadN (pc' := 1) w d27_0 rfl rfl ?_
  refine s_i2l (pc' := 2) w d27_1 rfl ?_
  refine s_iloadN (pc' := 3) w d27_2 rfl rfl ?_
  refine s_i2l (pc' := 4) w d27_3 rfl ?_
  refine s_lsub (pc' := 5) w d27_4 rfl ?_
  refine s_lstore (pc' := 7) (ls' := #[vI lo, vI hi, vJ v1, sc, vJ (hi.toInt64 - lo.toInt64), sc]) w d27_5 rfl rfl ?_
  refine s_iloadN (pc' := 8) w d27_7 rfl rfl ?_
  refine s_i2l (pc' := 9) w d27_8 rfl ?_
  refine s_lloadN (pc' := 10) w d27_9 rfl rfl ?_
  refine s_ldc2 (pc' := 13) w (t8 hw) d27_10 rfl ?_
  refine s_land (pc' := 14) w d27_13 rfl ?_
  refine s_lload (pc' := 16) w d27_14 rfl rfl ?_
  refine s_lconst (pc' := 17) (1 : Int64) w d27_16 (by decide) rfl ?_
  refine s_ladd (pc' := 18) w d27_17 rfl ?_
  refine s_lrem (pc' := 19) w d27_18 (pick_nz hlh) rfl ?_
  refine s_ladd (pc' := 20) w d27_19 rfl ?_
  refine s_l2i (pc' := 21) w d27_20 rfl ?_
  exact s_ireturn w d27_21 (by decide) (by decide) ⟨_, rfl, pick_lo hlh, pick_hi hlh, rfl⟩
set_option maxRecDepth 65536 in
set_option maxHeartbeats 40000000 in
theorem c_law {Z : State} {a0 : Array Value} (hw : Tw Z a0) (l : Launch) (h0 : Heap) (n0 : Nat) (r0 r1 r2 q1 q2 : Int64) (sel : Int32) (de : Addr) (dcl : Cell) (ti : Addr) (SD : Sta Z h0 "java/util/ArrayList" "DEFAULTCAPACITY_EMPTY_ELEMENTDATA" "[Ljava/lang/Object;" (.ref de)) (AD : Arr Z h0 de dcl (.object "java/lang/Object")) (hdcl : dcl.slots.size = 0) (SI : Sta Z h0 "com/example/ryazan/ryazan/lang/Type" "INT" "Lcom/example/ryazan/ryazan/lang/Type;" (.ref ti)) :
    Met1 l Z x code maxLocals ret room_1 #[(.long r0), (.long r1), (.long r2), (.long q1), (.long q2), (.int sel)] h0 n0 [] (fun v _ => v = some (.int 1)) tables_1 := by
  refine Met1.of (ls := #[vJ r0, sc, vJ r1, sc, vJ r2, sc, vJ q1, sc, vJ q2, sc, vI sel, un, un, un, un, un, un, un, un, un, un, un, un, un, un, un, un, un, un, un, un, un, un]) (plainFor_of_name pn11) (fun m => by first | (simp [entryFrame, mkF, argsToLocals, Value.category, maxLocals]; done) | rfl) ?_
  intro p e s m below meth c T w
  refine s_lloadN (pc' := 1) w at_0 rfl rfl ?_
  refine s_static (pc' := 4) (rest := []) 0 [(.long r0)] w (c_lawlow hw l h0 n0 r0 []) (t0 hw) (t1 hw) (t2 hw) (t3 hw) (by decide) pd8 at_1 (by decide) rfl rfl rfl rfl (Nat.le_of_eq rfl) rfl ?_
  intro T v L' hQ w
  obtain ⟨rfl, hL⟩ := hQ
  replace hL := hL.symm
  subst hL
  dsimp only [oS, oN, cA, nA]
  refine s_istore (pc' := 6) (ls' := #[vJ r0, sc, vJ r1, sc, vJ r2, sc, vJ q1, sc, vJ q2, sc, vI sel, vI (loF r0), un, un, un, un, un, un, un, un, un, un, un, un, un, un, un, un, un, un, un, un, un]) w at_4 rfl rfl ?_
  refine s_lloadN (pc' := 7) w at_6 rfl rfl ?_
  refine s_static (pc' := 10) (rest := []) 0 [(.long r0)] w (c_lawhigh hw l h0 n0 r0 []) (t4 hw) (t5 hw) (t2 hw) (t6 hw) (by decide) pd8 at_7 (by decide) rfl rfl rfl rfl (Nat.le_of_eq rfl) rfl ?_
  intro T v L' hQ w
  obtain ⟨rfl, hL⟩ := hQ
  replace hL := hL.symm
  subst hL
  dsimp only [oS, oN, cA, nA]
  have hl0 := lohi r0
  generalize loF r0 = l0 at *
  generalize hiF r0 = u0 at *
  refine s_istore (pc' := 12) (ls' := #[vJ r0, sc, vJ r1, sc, vJ r2, sc, vJ q1, sc, vJ q2, sc, vI sel, vI l0, vI u0, un, un, un, un, un, un, un, un, un, un, un, un, un, un, un, un, un, un, un, un]) w at_10 rfl rfl ?_
  refine s_lloadN (pc' := 13) w at_12 rfl rfl ?_
  refine s_static (pc' := 16) (rest := []) 0 [(.long r1)] w (c_lawlow hw l h0 n0 r1 []) (t0 hw) (t1 hw) (t2 hw) (t3 hw) (by decide) pd8 at_13 (by decide) rfl rfl rfl rfl (Nat.le_of_eq rfl) rfl ?_
  intro T v L' hQ w
  obtain ⟨rfl, hL⟩ := hQ
  replace hL := hL.symm
  subst hL
  dsimp only [oS, oN, cA, nA]
  refine s_istore (pc' := 18) (ls' := #[vJ r0, sc, vJ r1, sc, vJ r2, sc, vJ q1, sc, vJ q2, sc, vI sel, vI l0, vI u0, vI (loF r1), un, un, un, un, un, un, un, un, un, un, un, un, un, un, un, un, un, un, un]) w at_16 rfl rfl ?_
  refine s_lloadN (pc' := 19) w at_18 rfl rfl ?_
  refine s_static (pc' := 22) (rest := []) 0 [(.long r1)] w (c_lawhigh hw l h0 n0 r1 []) (t4 hw) (t5 hw) (t2 hw) (t6 hw) (by decide) pd8 at_19 (by decide) rfl rfl rfl rfl (Nat.le_of_eq rfl) rfl ?_
  intro T v L' hQ w
  obtain ⟨rfl, hL⟩ := hQ
  replace hL := hL.symm
  subst hL
  dsimp only [oS, oN, cA, nA]
  have hl1 := lohi r1
  generalize loF r1 = l1 at *
  generalize hiF r1 = u1 at *
  refine s_istore (pc' := 24) (ls' := #[vJ r0, sc, vJ r1, sc, vJ r2, sc, vJ q1, sc, vJ q2, sc, vI sel, vI l0, vI u0, vI l1, vI u1, un, un, un, un, un, un, un, un, un, un, un, un, un, un, un, un, un, un]) w at_22 rfl rfl ?_
  refine s_lload (pc' := 26) w at_24 rfl rfl ?_
  refine s_static (pc' := 29) (rest := []) 0 [(.long r2)] w (c_lawlow hw l h0 n0 r2 []) (t0 hw) (t1 hw) (t2 hw) (t3 hw) (by decide) pd8 at_26 (by decide) rfl rfl rfl rfl (Nat.le_of_eq rfl) rfl ?_
  intro T v L' hQ w
  obtain ⟨rfl, hL⟩ := hQ
  replace hL := hL.symm
  subst hL
  dsimp only [oS, oN, cA, nA]
  refine s_istore (pc' := 31) (ls' := #[vJ r0, sc, vJ r1, sc, vJ r2, sc, vJ q1, sc, vJ q2, sc, vI sel, vI l0, vI u0, vI l1, vI u1, vI (loF r2), un, un, un, un, un, un, un, un, un, un, un, un, un, un, un, un, un]) w at_29 rfl rfl ?_
  refine s_lload (pc' := 33) w at_31 rfl rfl ?_
  refine s_static (pc' := 36) (rest := []) 0 [(.long r2)] w (c_lawhigh hw l h0 n0 r2 []) (t4 hw) (t5 hw) (t2 hw) (t6 hw) (by decide) pd8 at_33 (by decide) rfl rfl rfl rfl (Nat.le_of_eq rfl) rfl ?_
  intro T v L' hQ w
  obtain ⟨rfl, hL⟩ := hQ
  replace hL := hL.symm
  subst hL
  dsimp only [oS, oN, cA, nA]
  have hl2 := lohi r2
  generalize loF r2 = l2 at *
  generalize hiF r2 = u2 at *
  refine s_istore (pc' := 38) (ls' := #[vJ r0, sc, vJ r1, sc, vJ r2, sc, vJ q1, sc, vJ q2, sc, vI sel, vI l0, vI u0, vI l1, vI u1, vI l2, vI u2, un, un, un, un, un, un, un, un, un, un, un, un, un, un, un, un]) w at_36 rfl rfl ?_
  refine s_new (pc' := 41) [(.int 0), .null, (.int 0)] w (t9 hw) (t11 hw) (cls0 hw) at_38 ?_ (by decide) (by decide) 0 rfl rfl ?_
  · intro j f v h1 h2
    match j, h1, h2 with
    | 0, h1, h2 => cases (Option.some.inj h1); cases (Option.some.inj h2); exact ⟨.int, by decide +kernel, rfl⟩
    | 1, h1, h2 => cases (Option.some.inj h1); cases (Option.some.inj h2); exact ⟨(.array (.object "java/lang/Object")), by decide +kernel, rfl⟩
    | 2, h1, h2 => cases (Option.some.inj h1); cases (Option.some.inj h2); exact ⟨.int, by decide +kernel, rfl⟩
    | (i + 3), h1, _ => exact absurd h1 (by simp [fs0])
  intro T w
  replace w : St p l e _ s m _ below meth c Z _ _ _ _ h0 n0 T [o0 (.int 0) .null (.int 0)] 1 3 := w
  refine s_dup (pc' := 42) w at_41 rfl rfl ?_
  refine s_special (pc' := 45) (rest := [(.ref (n0 + 0))]) 1 [] w (c_alinit hw l h0 n0 0 (.int 0) .null (.int 0) de _ rfl SD) rfl (t12 hw) (t13 hw) (t11 hw) (t14 hw) (by decide) pd0 at_42 (by decide) rfl rfl rfl rfl (Nat.le_of_eq rfl) rfl ?_
  intro T v L' hQ w
  obtain ⟨rfl, hL⟩ := hQ
  replace hL := hL.symm
  subst hL
  dsimp only [oS, oN, cA, nA]
  replace w : St p l e _ s m _ below meth c Z _ _ _ _ h0 n0 T [o0 (.int 0) (.ref de) (.int 0)] 1 3 := w
  refine s_astore (pc' := 47) (ls' := #[vJ r0, sc, vJ r1, sc, vJ r2, sc, vJ q1, sc, vJ q2, sc, vI sel, vI l0, vI u0, vI l1, vI u1, vI l2, vI u2, vR (n0 + 0), un, un, un, un, un, un, un, un, un, un, un, un, un, un, un]) w at_45 rfl rfl rfl ?_
  refine s_aload (pc' := 49) w at_47 rfl rfl rfl ?_
  refine s_new (pc' := 52) [.null, .null, (.int 0), (.int 0), (.int 0), .null] w (t35 hw) (t37 hw) (cls1 hw) at_49 ?_ (by decide) (by decide) 1 rfl rfl ?_
  · intro j f v h1 h2
    match j, h1, h2 with
    | 0, h1, h2 => cases (Option.some.inj h1); cases (Option.some.inj h2); exact ⟨(.object "java/lang/String"), by decide +kernel, rfl⟩
    | 1, h1, h2 => cases (Option.some.inj h1); cases (Option.some.inj h2); exact ⟨(.object "com/example/ryazan/ryazan/lang/Type"), by decide +kernel, rfl⟩
    | 2, h1, h2 => cases (Option.some.inj h1); cases (Option.some.inj h2); exact ⟨.int, by decide +kernel, rfl⟩
    | 3, h1, h2 => cases (Option.some.inj h1); cases (Option.some.inj h2); exact ⟨.int, by decide +kernel, rfl⟩
    | 4, h1, h2 => cases (Option.some.inj h1); cases (Option.some.inj h2); exact ⟨.int, by decide +kernel, rfl⟩
    | 5, h1, h2 => cases (Option.some.inj h1); cases (Option.some.inj h2); exact ⟨(.object "com/example/ryazan/ryazan/lang/SourcePosition"), by decide +kernel, rfl⟩
    | (i + 6), h1, _ => exact absurd h1 (by simp [fs1])
  intro T w
  replace w : St p l e _ s m _ below meth c Z _ _ _ _ h0 n0 T [o0 (.int 0) (.ref de) (.int 0), o1 .null .null (.int 0) (.int 0) (.int 0) .null] 2 9 := w
  refine s_dup (pc' := 53) w at_52 rfl rfl ?_
  refine s_aconst_null (pc' := 54) w at_53 rfl ?_
  refine s_getS (pc' := 57) (host := "") w (Or.inl (t38 hw)) Via.refl SI at_54 rfl ?_
  intro T w
  refine s_iload (pc' := 59) w at_57 rfl rfl ?_
  refine s_iload (pc' := 61) w at_59 rfl rfl ?_
  refine s_iload (pc' := 63) w at_61 rfl rfl ?_
  refine s_aconst_null (pc' := 64) w at_63 rfl ?_
  refine s_special (pc' := 67) (rest := [(.ref (n0 + 1)), (.ref (n0 + 0))]) 2 [.null, (.ref ti), (.int l0), (.int u0), (.int l0), .null] w (c_var hw l h0 n0 1 .null (.ref ti) l0 u0 l0 _ rfl rfl rfl) rfl (t41 hw) (t42 hw) (t37 hw) (t43 hw) (by decide) pd19 at_64 (by decide) rfl rfl rfl rfl (Nat.le_of_eq rfl) rfl ?_
  intro T v L' hQ w
  obtain ⟨rfl, hL⟩ := hQ
  replace hL := hL.symm
  subst hL
  dsimp only [oS, oN, cA, nA]
  replace w : St p l e _ s m _ below meth c Z _ _ _ _ h0 n0 T [o0 (.int 0) (.ref de) (.int 0), o1 .null (.ref ti) (.int l0) (.int u0) (.int l0) .null] 2 9 := w
  refine s_virtual (pc' := 70) (rest := []) 0 [(.ref (n0 + 1))] w (c_addg hw l h0 n0 0 0 de dcl (n0 + 1) _ _ _ _ rfl SD AD hdcl (Lk.new rfl) (Or.inr (t92 hw)) (ad_ne (by decide))) (Lk.new rfl) (t62 hw) (t63 hw) (w.notFace (t65 hw)) (t65 hw) (t64 hw) (t11 hw) (t66 hw) (by decide) pd20 at_67 (by decide) rfl rfl rfl rfl (Nat.le_of_eq rfl) rfl ?_
  intro T v L' hQ w
  obtain ⟨rfl, hL⟩ := hQ
  replace hL := hL.symm
  subst hL
  dsimp only [oS, oN, cA, nA]
  replace w : St p l e _ s m _ below meth c Z _ _ _ _ h0 n0 T [o0 (.int 1) (.ref (n0 + 2)) (.int 1), o1 .null (.ref ti) (.int l0) (.int u0) (.int l0) .null, aO ([.ref (n0 + 1), .null, .null, .null, .null, .null, .null, .null, .null, .null])] 3 19 := w
  refine s_pop (pc' := 71) w at_70 rfl rfl ?_
  refine s_aload (pc' := 73) w at_71 rfl rfl rfl ?_
  refine s_new (pc' := 76) [.null, .null, (.int 0), (.int 0), (.int 0), .null] w (t35 hw) (t37 hw) (cls1 hw) at_73 ?_ (by decide) (by decide) 3 rfl rfl ?_
  · intro j f v h1 h2
    match j, h1, h2 with
    | 0, h1, h2 => cases (Option.some.inj h1); cases (Option.some.inj h2); exact ⟨(.object "java/lang/String"), by decide +kernel, rfl⟩
    | 1, h1, h2 => cases (Option.some.inj h1); cases (Option.some.inj h2); exact ⟨(.object "com/example/ryazan/ryazan/lang/Type"), by decide +kernel, rfl⟩
    | 2, h1, h2 => cases (Option.some.inj h1); cases (Option.some.inj h2); exact ⟨.int, by decide +kernel, rfl⟩
    | 3, h1, h2 => cases (Option.some.inj h1); cases (Option.some.inj h2); exact ⟨.int, by decide +kernel, rfl⟩
    | 4, h1, h2 => cases (Option.some.inj h1); cases (Option.some.inj h2); exact ⟨.int, by decide +kernel, rfl⟩
    | 5, h1, h2 => cases (Option.some.inj h1); cases (Option.some.inj h2); exact ⟨(.object "com/example/ryazan/ryazan/lang/SourcePosition"), by decide +kernel, rfl⟩
    | (i + 6), h1, _ => exact absurd h1 (by simp [fs1])
  intro T w
  replace w : St p l e _ s m _ below meth c Z _ _ _ _ h0 n0 T [o0 (.int 1) (.ref (n0 + 2)) (.int 1), o1 .null (.ref ti) (.int l0) (.int u0) (.int l0) .null, aO ([.ref (n0 + 1), .null, .null, .null, .null, .null, .null, .null, .null, .null]), o1 .null .null (.int 0) (.int 0) (.int 0) .null] 4 25 := w
  refine s_dup (pc' := 77) w at_76 rfl rfl ?_
  refine s_aconst_null (pc' := 78) w at_77 rfl ?_
  refine s_getS (pc' := 81) (host := "") w (Or.inl (t38 hw)) Via.refl SI at_78 rfl ?_
  intro T w
  refine s_iload (pc' := 83) w at_81 rfl rfl ?_
  refine s_iload (pc' := 85) w at_83 rfl rfl ?_
  refine s_iload (pc' := 87) w at_85 rfl rfl ?_
  refine s_aconst_null (pc' := 88) w at_87 rfl ?_
  refine s_special (pc' := 91) (rest := [(.ref (n0 + 3)), (.ref (n0 + 0))]) 2 [.null, (.ref ti), (.int l1), (.int u1), (.int l1), .null] w (c_var hw l h0 n0 3 .null (.ref ti) l1 u1 l1 _ rfl rfl rfl) rfl (t41 hw) (t42 hw) (t37 hw) (t43 hw) (by decide) pd19 at_88 (by decide) rfl rfl rfl rfl (Nat.le_of_eq rfl) rfl ?_
  intro T v L' hQ w
  obtain ⟨rfl, hL⟩ := hQ
  replace hL := hL.symm
  subst hL
  dsimp only [oS, oN, cA, nA]
  replace w : St p l e _ s m _ below meth c Z _ _ _ _ h0 n0 T [o0 (.int 1) (.ref (n0 + 2)) (.int 1), o1 .null (.ref ti) (.int l0) (.int u0) (.int l0) .null, aO ([.ref (n0 + 1), .null, .null, .null, .null, .null, .null, .null, .null, .null]), o1 .null (.ref ti) (.int l1) (.int u1) (.int l1) .null] 4 25 := w
  refine s_virtual (pc' := 94) (rest := []) 0 [(.ref (n0 + 3))] w (c_addn hw l h0 n0 0 2 1 1 [.ref (n0 + 1), .null, .null, .null, .null, .null, .null, .null, .null, .null] 10 (n0 + 3) _ _ _ _ rfl rfl rfl (by decide) (by decide) (leB rfl) (by decide) (Lk.new rfl) (Or.inr (t92 hw)) (ad_ne (by decide))) (Lk.new rfl) (t62 hw) (t63 hw) (w.notFace (t65 hw)) (t65 hw) (t64 hw) (t11 hw) (t66 hw) (by decide) pd20 at_91 (by decide) rfl rfl rfl rfl (Nat.le_of_eq rfl) rfl ?_
  intro T v L' hQ w
  obtain ⟨rfl, hL⟩ := hQ
  replace hL := hL.symm
  subst hL
  dsimp only [oS, oN, cA, nA]
  replace w : St p l e _ s m _ below meth c Z _ _ _ _ h0 n0 T [o0 (.int 2) (.ref (n0 + 2)) (.int 2), o1 .null (.ref ti) (.int l0) (.int u0) (.int l0) .null, aO ([.ref (n0 + 1), .ref (n0 + 3), .null, .null, .null, .null, .null, .null, .null, .null]), o1 .null (.ref ti) (.int l1) (.int u1) (.int l1) .null] 4 25 := w
  refine s_pop (pc' := 95) w at_94 rfl rfl ?_
  refine s_aload (pc' := 97) w at_95 rfl rfl rfl ?_
  refine s_new (pc' := 100) [.null, .null, (.int 0), (.int 0), (.int 0), .null] w (t35 hw) (t37 hw) (cls1 hw) at_97 ?_ (by decide) (by decide) 4 rfl rfl ?_
  · intro j f v h1 h2
    match j, h1, h2 with
    | 0, h1, h2 => cases (Option.some.inj h1); cases (Option.some.inj h2); exact ⟨(.object "java/lang/String"), by decide +kernel, rfl⟩
    | 1, h1, h2 => cases (Option.some.inj h1); cases (Option.some.inj h2); exact ⟨(.object "com/example/ryazan/ryazan/lang/Type"), by decide +kernel, rfl⟩
    | 2, h1, h2 => cases (Option.some.inj h1); cases (Option.some.inj h2); exact ⟨.int, by decide +kernel, rfl⟩
    | 3, h1, h2 => cases (Option.some.inj h1); cases (Option.some.inj h2); exact ⟨.int, by decide +kernel, rfl⟩
    | 4, h1, h2 => cases (Option.some.inj h1); cases (Option.some.inj h2); exact ⟨.int, by decide +kernel, rfl⟩
    | 5, h1, h2 => cases (Option.some.inj h1); cases (Option.some.inj h2); exact ⟨(.object "com/example/ryazan/ryazan/lang/SourcePosition"), by decide +kernel, rfl⟩
    | (i + 6), h1, _ => exact absurd h1 (by simp [fs1])
  intro T w
  replace w : St p l e _ s m _ below meth c Z _ _ _ _ h0 n0 T [o0 (.int 2) (.ref (n0 + 2)) (.int 2), o1 .null (.ref ti) (.int l0) (.int u0) (.int l0) .null, aO ([.ref (n0 + 1), .ref (n0 + 3), .null, .null, .null, .null, .null, .null, .null, .null]), o1 .null (.ref ti) (.int l1) (.int u1) (.int l1) .null, o1 .null .null (.int 0) (.int 0) (.int 0) .null] 5 31 := w
  refine s_dup (pc' := 101) w at_100 rfl rfl ?_
  refine s_aconst_null (pc' := 102) w at_101 rfl ?_
  refine s_getS (pc' := 105) (host := "") w (Or.inl (t38 hw)) Via.refl SI at_102 rfl ?_
  intro T w
  refine s_iload (pc' := 107) w at_105 rfl rfl ?_
  refine s_iload (pc' := 109) w at_107 rfl rfl ?_
  refine s_iload (pc' := 111) w at_109 rfl rfl ?_
  refine s_aconst_null (pc' := 112) w at_111 rfl ?_
  refine s_special (pc' := 115) (rest := [(.ref (n0 + 4)), (.ref (n0 + 0))]) 2 [.null, (.ref ti), (.int l2), (.int u2), (.int l2), .null] w (c_var hw l h0 n0 4 .null (.ref ti) l2 u2 l2 _ rfl rfl rfl) rfl (t41 hw) (t42 hw) (t37 hw) (t43 hw) (by decide) pd19 at_112 (by decide) rfl rfl rfl rfl (Nat.le_of_eq rfl) rfl ?_
  intro T v L' hQ w
  obtain ⟨rfl, hL⟩ := hQ
  replace hL := hL.symm
  subst hL
  dsimp only [oS, oN, cA, nA]
  replace w : St p l e _ s m _ below meth c Z _ _ _ _ h0 n0 T [o0 (.int 2) (.ref (n0 + 2)) (.int 2), o1 .null (.ref ti) (.int l0) (.int u0) (.int l0) .null, aO ([.ref (n0 + 1), .ref (n0 + 3), .null, .null, .null, .null, .null, .null, .null, .null]), o1 .null (.ref ti) (.int l1) (.int u1) (.int l1) .null, o1 .null (.ref ti) (.int l2) (.int u2) (.int l2) .null] 5 31 := w
  refine s_virtual (pc' := 118) (rest := []) 0 [(.ref (n0 + 4))] w (c_addn hw l h0 n0 0 2 2 2 [.ref (n0 + 1), .ref (n0 + 3), .null, .null, .null, .null, .null, .null, .null, .null] 10 (n0 + 4) _ _ _ _ rfl rfl rfl (by decide) (by decide) (leB rfl) (by decide) (Lk.new rfl) (Or.inr (t92 hw)) (ad_ne (by decide))) (Lk.new rfl) (t62 hw) (t63 hw) (w.notFace (t65 hw)) (t65 hw) (t64 hw) (t11 hw) (t66 hw) (by decide) pd20 at_115 (by decide) rfl rfl rfl rfl (Nat.le_of_eq rfl) rfl ?_
  intro T v L' hQ w
  obtain ⟨rfl, hL⟩ := hQ
  replace hL := hL.symm
  subst hL
  dsimp only [oS, oN, cA, nA]
  replace w : St p l e _ s m _ below meth c Z _ _ _ _ h0 n0 T [o0 (.int 3) (.ref (n0 + 2)) (.int 3), o1 .null (.ref ti) (.int l0) (.int u0) (.int l0) .null, aO ([.ref (n0 + 1), .ref (n0 + 3), .ref (n0 + 4), .null, .null, .null, .null, .null, .null, .null]), o1 .null (.ref ti) (.int l1) (.int u1) (.int l1) .null, o1 .null (.ref ti) (.int l2) (.int u2) (.int l2) .null] 5 31 := w
  refine s_pop (pc' := 119) w at_118 rfl rfl ?_
  refine s_new (pc' := 122) [.null, (.int 0), .null, .null, .null, .null, .null, .null, (.int 0), .null, (.int 0)] w (t93 hw) (t95 hw) (cls2 hw) at_119 ?_ (by decide) (by decide) 5 rfl rfl ?_
  · intro j f v h1 h2
    match j, h1, h2 with
    | 0, h1, h2 => cases (Option.some.inj h1); cases (Option.some.inj h2); exact ⟨(.array .long), by decide +kernel, rfl⟩
    | 1, h1, h2 => cases (Option.some.inj h1); cases (Option.some.inj h2); exact ⟨.int, by decide +kernel, rfl⟩
    | 2, h1, h2 => cases (Option.some.inj h1); cases (Option.some.inj h2); exact ⟨(.array .int), by decide +kernel, rfl⟩
    | 3, h1, h2 => cases (Option.some.inj h1); cases (Option.some.inj h2); exact ⟨(.array .int), by decide +kernel, rfl⟩
    | 4, h1, h2 => cases (Option.some.inj h1); cases (Option.some.inj h2); exact ⟨(.array .int), by decide +kernel, rfl⟩
    | 5, h1, h2 => cases (Option.some.inj h1); cases (Option.some.inj h2); exact ⟨(.array .int), by decide +kernel, rfl⟩
    | 6, h1, h2 => cases (Option.some.inj h1); cases (Option.some.inj h2); exact ⟨(.array .int), by decide +kernel, rfl⟩
    | 7, h1, h2 => cases (Option.some.inj h1); cases (Option.some.inj h2); exact ⟨(.array .long), by decide +kernel, rfl⟩
    | 8, h1, h2 => cases (Option.some.inj h1); cases (Option.some.inj h2); exact ⟨.int, by decide +kernel, rfl⟩
    | 9, h1, h2 => cases (Option.some.inj h1); cases (Option.some.inj h2); exact ⟨(.array .long), by decide +kernel, rfl⟩
    | 10, h1, h2 => cases (Option.some.inj h1); cases (Option.some.inj h2); exact ⟨.int, by decide +kernel, rfl⟩
    | (i + 11), h1, _ => exact absurd h1 (by simp [fs2])
  intro T w
  replace w : St p l e _ s m _ below meth c Z _ _ _ _ h0 n0 T [o0 (.int 3) (.ref (n0 + 2)) (.int 3), o1 .null (.ref ti) (.int l0) (.int u0) (.int l0) .null, aO ([.ref (n0 + 1), .ref (n0 + 3), .ref (n0 + 4), .null, .null, .null, .null, .null, .null, .null]), o1 .null (.ref ti) (.int l1) (.int u1) (.int l1) .null, o1 .null (.ref ti) (.int l2) (.int u2) (.int l2) .null, o2 .null (.int 0) .null .null .null .null .null .null (.int 0) .null (.int 0)] 6 43 := w
  refine s_dup (pc' := 123) w at_122 rfl rfl ?_
  refine s_aload (pc' := 125) w at_123 rfl rfl rfl ?_
  refine s_special (pc' := 128) (rest := [(.ref (n0 + 5))]) 1 [(.ref (n0 + 0))] w (c_store hw l h0 n0 [o0 (.int 3) (.ref (n0 + 2)) (.int 3), o1 .null (.ref ti) (.int l0) (.int u0) (.int l0) .null, aO ([.ref (n0 + 1), .ref (n0 + 3), .ref (n0 + 4), .null, .null, .null, .null, .null, .null, .null]), o1 .null (.ref ti) (.int l1) (.int u1) (.int l1) .null, o1 .null (.ref ti) (.int l2) (.int u2) (.int l2) .null] 5 0 2 (.int 3) [.ref (n0 + 1), .ref (n0 + 3), .ref (n0 + 4), .null, .null, .null, .null, .null, .null, .null] 1 l0 u0 .null (.ref ti) (.int l0) .null 3 l1 u1 .null (.ref ti) (.int l1) .null 4 l2 u2 .null (.ref ti) (.int l2) .null rfl rfl rfl rfl rfl (span_lt hl0) rfl rfl (span_lt hl1) rfl rfl (span_lt hl2)) rfl (t96 hw) (t97 hw) (t95 hw) (t98 hw) (by decide) pd21 at_125 (by decide) rfl rfl rfl rfl (Nat.le_of_eq rfl) rfl ?_
  intro T v L' hQ w
  obtain ⟨rfl, b0, b1, b2, ⟨hb0, hb1, hb2, hx0, hx1, hx2⟩, ⟨hsum, hL⟩ | ⟨hsum, hL⟩⟩ := hQ
  · replace hL := hL.symm
    subst hL
    replace w : St p l e _ s m _ below meth c Z _ _ _ _ h0 n0 T [o0 (.int 3) (.ref (n0 + 2)) (.int 3), o1 .null (.ref ti) (.int l0) (.int u0) (.int l0) .null, aO ([.ref (n0 + 1), .ref (n0 + 3), .ref (n0 + 4), .null, .null, .null, .null, .null, .null, .null]), o1 .null (.ref ti) (.int l1) (.int u1) (.int l1) .null, o1 .null (.ref ti) (.int l2) (.int u2) (.int l2) .null, sOb n0 6 7 8 9 10 11 12 1 13 0, aJ ([]), aI (List.replicate 1024 (Value.int (-1))), aI ([]), aI ([.int l0, .int l1, .int l2]), aI ([.int 0, .int 0, .int 0]), aI ([.int (Int32.ofNat 0), .int (Int32.ofNat b0), .int (Int32.ofNat (b0 + b1))]), aJ ([.long (mkM b0), .long (mkM b1), .long (mkM b2)]), aJ ([.long 0])] 14 1081 := w
    change Go p e below _ T (mkF m 128 #[vJ r0, sc, vJ r1, sc, vJ r2, sc, vJ q1, sc, vJ q2, sc, vI sel, vI l0, vI u0, vI l1, vI u1, vI l2, vI u2, vR (n0 + 0), un, un, un, un, un, un, un, un, un, un, un, un, un, un, un] [(.ref (n0 + 5))])
    refine s_astore (pc' := 130) (ls' := #[vJ r0, sc, vJ r1, sc, vJ r2, sc, vJ q1, sc, vJ q2, sc, vI sel, vI l0, vI u0, vI l1, vI u1, vI l2, vI u2, vR (n0 + 0), vR (n0 + 5), un, un, un, un, un, un, un, un, un, un, un, un, un, un]) w at_128 rfl rfl rfl ?_
    refine s_iload (pc' := 132) w at_130 rfl rfl ?_
    refine s_iload (pc' := 134) w at_132 rfl rfl ?_
    refine s_lload (pc' := 136) w at_134 rfl rfl ?_
    refine s_static (pc' := 139) (rest := []) 0 [(.int l0), (.int u0), (.long q1)] w (c_pick hw l h0 n0 l0 u0 q1 _ hl0) (t183 hw) (t184 hw) (t2 hw) (t185 hw) (by decide) pd22 at_136 (by decide) rfl rfl rfl rfl (Nat.le_of_eq rfl) rfl ?_
    intro T v L' hQ w
    obtain ⟨s0, rfl, los0, his0, hL⟩ := hQ
    replace hL := hL.symm
    subst hL
    dsimp only [oS, oN, cA, nA]
    refine s_istore (pc' := 141) (ls' := #[vJ r0, sc, vJ r1, sc, vJ r2, sc, vJ q1, sc, vJ q2, sc, vI sel, vI l0, vI u0, vI l1, vI u1, vI l2, vI u2, vR (n0 + 0), vR (n0 + 5), vI s0, un, un, un, un, un, un, un, un, un, un, un, un, un]) w at_139 rfl rfl ?_
    refine s_iload (pc' := 143) w at_141 rfl rfl ?_
    refine s_iload (pc' := 145) w at_143 rfl rfl ?_
    refine s_lload (pc' := 147) w at_145 rfl rfl ?_
    refine s_bipush (pc' := 149) (32 : Int32) w at_147 (by decide) rfl ?_
    refine s_lushr (pc' := 150) w at_149 rfl ?_
    refine s_static (pc' := 153) (rest := []) 0 [(.int l1), (.int u1), (.long (Jvm.Free.XT.ushrL q1 (32 : Int32)))] w (c_pick hw l h0 n0 l1 u1 (Jvm.Free.XT.ushrL q1 (32 : Int32)) _ hl1) (t183 hw) (t184 hw) (t2 hw) (t185 hw) (by decide) pd22 at_150 (by decide) rfl rfl rfl rfl (Nat.le_of_eq rfl) rfl ?_
    intro T v L' hQ w
    obtain ⟨s1, rfl, los1, his1, hL⟩ := hQ
    replace hL := hL.symm
    subst hL
    dsimp only [oS, oN, cA, nA]
    refine s_istore (pc' := 155) (ls' := #[vJ r0, sc, vJ r1, sc, vJ r2, sc, vJ q1, sc, vJ q2, sc, vI sel, vI l0, vI u0, vI l1, vI u1, vI l2, vI u2, vR (n0 + 0), vR (n0 + 5), vI s0, vI s1, un, un, un, un, un, un, un, un, un, un, un, un]) w at_153 rfl rfl ?_
    refine s_iload (pc' := 157) w at_155 rfl rfl ?_
    refine s_iload (pc' := 159) w at_157 rfl rfl ?_
    refine s_lload (pc' := 161) w at_159 rfl rfl ?_
    refine s_static (pc' := 164) (rest := []) 0 [(.int l2), (.int u2), (.long q2)] w (c_pick hw l h0 n0 l2 u2 q2 _ hl2) (t183 hw) (t184 hw) (t2 hw) (t185 hw) (by decide) pd22 at_161 (by decide) rfl rfl rfl rfl (Nat.le_of_eq rfl) rfl ?_
    intro T v L' hQ w
    obtain ⟨s2, rfl, los2, his2, hL⟩ := hQ
    replace hL := hL.symm
    subst hL
    dsimp only [oS, oN, cA, nA]
    refine s_istore (pc' := 166) (ls' := #[vJ r0, sc, vJ r1, sc, vJ r2, sc, vJ q1, sc, vJ q2, sc, vI sel, vI l0, vI u0, vI l1, vI u1, vI l2, vI u2, vR (n0 + 0), vR (n0 + 5), vI s0, vI s1, vI s2, un, un, un, un, un, un, un, un, un, un, un]) w at_164 rfl rfl ?_
    refine s_iload (pc' := 168) w at_166 rfl rfl ?_
    refine s_sipush (pc' := 171) (255 : Int32) w at_168 (by decide) rfl ?_
    refine s_iand (pc' := 172) w at_171 rfl ?_
    refine s_iconst (pc' := 173) (3 : Int32) w at_172 (by decide) rfl ?_
    refine s_irem (pc' := 174) w at_173 (by decide) rfl ?_
    obtain ⟨v', hv', ev'⟩ := rem3 sel
    rw [ev']
    refine s_istore (pc' := 176) (ls' := #[vJ r0, sc, vJ r1, sc, vJ r2, sc, vJ q1, sc, vJ q2, sc, vI sel, vI l0, vI u0, vI l1, vI u1, vI l2, vI u2, vR (n0 + 0), vR (n0 + 5), vI s0, vI s1, vI s2, vI (Int32.ofNat v'), un, un, un, un, un, un, un, un, un, un]) w at_174 rfl rfl ?_
    refine s_iload (pc' := 178) w at_176 rfl rfl ?_
    refine s_bipush (pc' := 180) (8 : Int32) w at_178 (by decide) rfl ?_
    refine s_iushr (pc' := 181) w at_180 rfl ?_
    refine s_sipush (pc' := 184) (255 : Int32) w at_181 (by decide) rfl ?_
    refine s_iand (pc' := 185) w at_184 rfl ?_
    refine s_iconst (pc' := 186) (3 : Int32) w at_185 (by decide) rfl ?_
    refine s_irem (pc' := 187) w at_186 (by decide) rfl ?_
    obtain ⟨st', hst', est'⟩ := rem3 (Jvm.Free.XT.ushr sel (8 : Int32))
    rw [est']
    refine s_istore (pc' := 189) (ls' := #[vJ r0, sc, vJ r1, sc, vJ r2, sc, vJ q1, sc, vJ q2, sc, vI sel, vI l0, vI u0, vI l1, vI u1, vI l2, vI u2, vR (n0 + 0), vR (n0 + 5), vI s0, vI s1, vI s2, vI (Int32.ofNat v'), vI (Int32.ofNat st'), un, un, un, un, un, un, un, un, un]) w at_187 rfl rfl ?_
    refine s_iload (pc' := 191) w at_189 rfl rfl ?_
    have hv3 : v' = 0 ∨ v' = 1 ∨ v' = 2 := by omega
    rcases hv3 with rfl | rfl | rfl
    · change Go p e below _ T (mkF m 191 #[vJ r0, sc, vJ r1, sc, vJ r2, sc, vJ q1, sc, vJ q2, sc, vI sel, vI l0, vI u0, vI l1, vI u1, vI l2, vI u2, vR (n0 + 0), vR (n0 + 5), vI s0, vI s1, vI s2, vI (0 : Int32), vI (Int32.ofNat st'), un, un, un, un, un, un, un, un, un] [(.int (0 : Int32))])
      refine s_ifN (pc' := 194) w at_191 (Jvm.Free.XT.i0_ne_f rfl) rfl ?_
      refine s_iload (pc' := 196) w at_194 rfl rfl ?_
      refine s_iload (pc' := 198) w at_196 rfl rfl ?_
      refine s_lload (pc' := 200) w at_198 rfl rfl ?_
      refine s_bipush (pc' := 202) (32 : Int32) w at_200 (by decide) rfl ?_
      refine s_lushr (pc' := 203) w at_202 rfl ?_
      refine s_static (pc' := 206) (rest := []) 0 [(.int l0), (.int u0), (.long (Jvm.Free.XT.ushrL q2 (32 : Int32)))] w (c_pick hw l h0 n0 l0 u0 (Jvm.Free.XT.ushrL q2 (32 : Int32)) _ hl0) (t183 hw) (t184 hw) (t2 hw) (t185 hw) (by decide) pd22 at_203 (by decide) rfl rfl rfl rfl (Nat.le_of_eq rfl) rfl ?_
      intro T v L' hQ w
      obtain ⟨xv, rfl, loxv, hixv, hL⟩ := hQ
      replace hL := hL.symm
      subst hL
      dsimp only [oS, oN, cA, nA]
      refine s_istore (pc' := 208) (ls' := #[vJ r0, sc, vJ r1, sc, vJ r2, sc, vJ q1, sc, vJ q2, sc, vI sel, vI l0, vI u0, vI l1, vI u1, vI l2, vI u2, vR (n0 + 0), vR (n0 + 5), vI s0, vI s1, vI s2, vI (0 : Int32), vI (Int32.ofNat st'), vI xv, un, un, un, un, un, un, un, un]) w at_206 rfl rfl ?_
      refine s_goto (pc' := 248) w at_208 (by decide) (by decide) ?_
      refine s_iconst (pc' := 249) (3 : Int32) w at_248 (by decide) rfl ?_
      refine s_newarray (pc' := 251) (ty := .int) w (t111 hw) rfl (by intro C h; cases h) at_249 (by decide) 3 (by decide) (by decide) (by decide) (by decide) 14 rfl rfl ?_
      intro T w
      replace w : St p l e _ s m _ below meth c Z _ _ _ _ h0 n0 T [o0 (.int 3) (.ref (n0 + 2)) (.int 3), o1 .null (.ref ti) (.int l0) (.int u0) (.int l0) .null, aO ([.ref (n0 + 1), .ref (n0 + 3), .ref (n0 + 4), .null, .null, .null, .null, .null, .null, .null]), o1 .null (.ref ti) (.int l1) (.int u1) (.int l1) .null, o1 .null (.ref ti) (.int l2) (.int u2) (.int l2) .null, sOb n0 6 7 8 9 10 11 12 1 13 0, aJ ([]), aI (List.replicate 1024 (Value.int (-1))), aI ([]), aI ([.int l0, .int l1, .int l2]), aI ([.int 0, .int 0, .int 0]), aI ([.int (Int32.ofNat 0), .int (Int32.ofNat b0), .int (Int32.ofNat (b0 + b1))]), aJ ([.long (mkM b0), .long (mkM b1), .long (mkM b2)]), aJ ([.long 0]), aI ([(.int 0), (.int 0), (.int 0)])] 15 1084 := w
      refine s_dup (pc' := 252) w at_251 rfl rfl ?_
      refine s_iconst (pc' := 253) (0 : Int32) w at_252 (by decide) rfl ?_
      refine s_iload (pc' := 255) w at_253 rfl rfl ?_
      refine s_iastore (pc' := 256) (k := 14) w rfl at_255 (by decide) (leB rfl) rfl ?_
      intro T w
      refine s_dup (pc' := 257) w at_256 rfl rfl ?_
      refine s_iconst (pc' := 258) (1 : Int32) w at_257 (by decide) rfl ?_
      refine s_iload (pc' := 260) w at_258 rfl rfl ?_
      refine s_iastore (pc' := 261) (k := 14) w rfl at_260 (by decide) (leB rfl) rfl ?_
      intro T w
      refine s_dup (pc' := 262) w at_261 rfl rfl ?_
      refine s_iconst (pc' := 263) (2 : Int32) w at_262 (by decide) rfl ?_
      refine s_iload (pc' := 265) w at_263 rfl rfl ?_
      refine s_iastore (pc' := 266) (k := 14) w rfl at_265 (by decide) (leB rfl) rfl ?_
      intro T w
      replace w : St p l e _ s m _ below meth c Z _ _ _ _ h0 n0 T [o0 (.int 3) (.ref (n0 + 2)) (.int 3), o1 .null (.ref ti) (.int l0) (.int u0) (.int l0) .null, aO ([.ref (n0 + 1), .ref (n0 + 3), .ref (n0 + 4), .null, .null, .null, .null, .null, .null, .null]), o1 .null (.ref ti) (.int l1) (.int u1) (.int l1) .null, o1 .null (.ref ti) (.int l2) (.int u2) (.int l2) .null, sOb n0 6 7 8 9 10 11 12 1 13 0, aJ ([]), aI (List.replicate 1024 (Value.int (-1))), aI ([]), aI ([.int l0, .int l1, .int l2]), aI ([.int 0, .int 0, .int 0]), aI ([.int (Int32.ofNat 0), .int (Int32.ofNat b0), .int (Int32.ofNat (b0 + b1))]), aJ ([.long (mkM b0), .long (mkM b1), .long (mkM b2)]), aJ ([.long 0]), aI ([.int s0, .int s1, .int s2])] 15 1084 := w
      refine s_astore (pc' := 268) (ls' := #[vJ r0, sc, vJ r1, sc, vJ r2, sc, vJ q1, sc, vJ q2, sc, vI sel, vI l0, vI u0, vI l1, vI u1, vI l2, vI u2, vR (n0 + 0), vR (n0 + 5), vI s0, vI s1, vI s2, vI (0 : Int32), vI (Int32.ofNat st'), vI xv, vR (n0 + 14), un, un, un, un, un, un, un]) w at_266 rfl rfl rfl ?_
      refine s_iconst (pc' := 269) (3 : Int32) w at_268 (by decide) rfl ?_
      refine s_newarray (pc' := 271) (ty := .int) w (t111 hw) rfl (by intro C h; cases h) at_269 (by decide) 3 (by decide) (by decide) (by decide) (by decide) 15 rfl rfl ?_
      intro T w
      replace w : St p l e _ s m _ below meth c Z _ _ _ _ h0 n0 T [o0 (.int 3) (.ref (n0 + 2)) (.int 3), o1 .null (.ref ti) (.int l0) (.int u0) (.int l0) .null, aO ([.ref (n0 + 1), .ref (n0 + 3), .ref (n0 + 4), .null, .null, .null, .null, .null, .null, .null]), o1 .null (.ref ti) (.int l1) (.int u1) (.int l1) .null, o1 .null (.ref ti) (.int l2) (.int u2) (.int l2) .null, sOb n0 6 7 8 9 10 11 12 1 13 0, aJ ([]), aI (List.replicate 1024 (Value.int (-1))), aI ([]), aI ([.int l0, .int l1, .int l2]), aI ([.int 0, .int 0, .int 0]), aI ([.int (Int32.ofNat 0), .int (Int32.ofNat b0), .int (Int32.ofNat (b0 + b1))]), aJ ([.long (mkM b0), .long (mkM b1), .long (mkM b2)]), aJ ([.long 0]), aI ([.int s0, .int s1, .int s2]), aI ([(.int 0), (.int 0), (.int 0)])] 16 1087 := w
      refine s_dup (pc' := 272) w at_271 rfl rfl ?_
      refine s_iconst (pc' := 273) (0 : Int32) w at_272 (by decide) rfl ?_
      refine s_iload (pc' := 275) w at_273 rfl rfl ?_
      refine s_iastore (pc' := 276) (k := 15) w rfl at_275 (by decide) (leB rfl) rfl ?_
      intro T w
      refine s_dup (pc' := 277) w at_276 rfl rfl ?_
      refine s_iconst (pc' := 278) (1 : Int32) w at_277 (by decide) rfl ?_
      refine s_iload (pc' := 280) w at_278 rfl rfl ?_
      refine s_iastore (pc' := 281) (k := 15) w rfl at_280 (by decide) (leB rfl) rfl ?_
      intro T w
      refine s_dup (pc' := 282) w at_281 rfl rfl ?_
      refine s_iconst (pc' := 283) (2 : Int32) w at_282 (by decide) rfl ?_
      refine s_iload (pc' := 285) w at_283 rfl rfl ?_
      refine s_iastore (pc' := 286) (k := 15) w rfl at_285 (by decide) (leB rfl) rfl ?_
      intro T w
      replace w : St p l e _ s m _ below meth c Z _ _ _ _ h0 n0 T [o0 (.int 3) (.ref (n0 + 2)) (.int 3), o1 .null (.ref ti) (.int l0) (.int u0) (.int l0) .null, aO ([.ref (n0 + 1), .ref (n0 + 3), .ref (n0 + 4), .null, .null, .null, .null, .null, .null, .null]), o1 .null (.ref ti) (.int l1) (.int u1) (.int l1) .null, o1 .null (.ref ti) (.int l2) (.int u2) (.int l2) .null, sOb n0 6 7 8 9 10 11 12 1 13 0, aJ ([]), aI (List.replicate 1024 (Value.int (-1))), aI ([]), aI ([.int l0, .int l1, .int l2]), aI ([.int 0, .int 0, .int 0]), aI ([.int (Int32.ofNat 0), .int (Int32.ofNat b0), .int (Int32.ofNat (b0 + b1))]), aJ ([.long (mkM b0), .long (mkM b1), .long (mkM b2)]), aJ ([.long 0]), aI ([.int s0, .int s1, .int s2]), aI ([.int s0, .int s1, .int s2])] 16 1087 := w
      refine s_astore (pc' := 288) (ls' := #[vJ r0, sc, vJ r1, sc, vJ r2, sc, vJ q1, sc, vJ q2, sc, vI sel, vI l0, vI u0, vI l1, vI u1, vI l2, vI u2, vR (n0 + 0), vR (n0 + 5), vI s0, vI s1, vI s2, vI (0 : Int32), vI (Int32.ofNat st'), vI xv, vR (n0 + 14), vR (n0 + 15), un, un, un, un, un, un]) w at_286 rfl rfl rfl ?_
      refine s_aload (pc' := 290) w at_288 rfl rfl rfl ?_
      refine s_iload (pc' := 292) w at_290 rfl rfl ?_
      refine s_iload (pc' := 294) w at_292 rfl rfl ?_
      refine s_iastore (pc' := 295) (k := 15) w rfl at_294 (by decide) (leB rfl) rfl ?_
      intro T w
      replace w : St p l e _ s m _ below meth c Z _ _ _ _ h0 n0 T [o0 (.int 3) (.ref (n0 + 2)) (.int 3), o1 .null (.ref ti) (.int l0) (.int u0) (.int l0) .null, aO ([.ref (n0 + 1), .ref (n0 + 3), .ref (n0 + 4), .null, .null, .null, .null, .null, .null, .null]), o1 .null (.ref ti) (.int l1) (.int u1) (.int l1) .null, o1 .null (.ref ti) (.int l2) (.int u2) (.int l2) .null, sOb n0 6 7 8 9 10 11 12 1 13 0, aJ ([]), aI (List.replicate 1024 (Value.int (-1))), aI ([]), aI ([.int l0, .int l1, .int l2]), aI ([.int 0, .int 0, .int 0]), aI ([.int (Int32.ofNat 0), .int (Int32.ofNat b0), .int (Int32.ofNat (b0 + b1))]), aJ ([.long (mkM b0), .long (mkM b1), .long (mkM b2)]), aJ ([.long 0]), aI ([.int s0, .int s1, .int s2]), aI ([.int xv, .int s1, .int s2])] 16 1087 := w
      refine s_lload (pc' := 297) w at_295 rfl rfl ?_
      refine s_lloadN (pc' := 298) w at_297 rfl rfl ?_
      refine s_lxor (pc' := 299) w at_298 rfl ?_
      generalize hww : (q2 ^^^ r0) = ww
      refine s_lstore (pc' := 301) (ls' := #[vJ r0, sc, vJ r1, sc, vJ r2, sc, vJ q1, sc, vJ q2, sc, vI sel, vI l0, vI u0, vI l1, vI u1, vI l2, vI u2, vR (n0 + 0), vR (n0 + 5), vI s0, vI s1, vI s2, vI (0 : Int32), vI (Int32.ofNat st'), vI xv, vR (n0 + 14), vR (n0 + 15), vJ ww, sc, un, un, un, un]) w at_299 rfl rfl ?_
      refine s_iconst (pc' := 302) (5 : Int32) w at_301 (by decide) rfl ?_
      refine s_newarray (pc' := 304) (ty := .long) w (t100 hw) rfl (by intro C h; cases h) at_302 (by decide) 5 (by decide) (by decide) (by decide) (by decide) 16 rfl rfl ?_
      intro T w
      replace w : St p l e _ s m _ below meth c Z _ _ _ _ h0 n0 T [o0 (.int 3) (.ref (n0 + 2)) (.int 3), o1 .null (.ref ti) (.int l0) (.int u0) (.int l0) .null, aO ([.ref (n0 + 1), .ref (n0 + 3), .ref (n0 + 4), .null, .null, .null, .null, .null, .null, .null]), o1 .null (.ref ti) (.int l1) (.int u1) (.int l1) .null, o1 .null (.ref ti) (.int l2) (.int u2) (.int l2) .null, sOb n0 6 7 8 9 10 11 12 1 13 0, aJ ([]), aI (List.replicate 1024 (Value.int (-1))), aI ([]), aI ([.int l0, .int l1, .int l2]), aI ([.int 0, .int 0, .int 0]), aI ([.int (Int32.ofNat 0), .int (Int32.ofNat b0), .int (Int32.ofNat (b0 + b1))]), aJ ([.long (mkM b0), .long (mkM b1), .long (mkM b2)]), aJ ([.long 0]), aI ([.int s0, .int s1, .int s2]), aI ([.int xv, .int s1, .int s2]), aJ ([(.long 0), (.long 0), (.long 0), (.long 0), (.long 0)])] 17 1092 := w
      refine s_dup (pc' := 305) w at_304 rfl rfl ?_
      refine s_iconst (pc' := 306) (0 : Int32) w at_305 (by decide) rfl ?_
      refine s_lload (pc' := 308) w at_306 rfl rfl ?_
      refine s_lastore (pc' := 309) (k := 16) w rfl at_308 (by decide) (leB rfl) rfl ?_
      intro T w
      refine s_dup (pc' := 310) w at_309 rfl rfl ?_
      refine s_iconst (pc' := 311) (1 : Int32) w at_310 (by decide) rfl ?_
      refine s_lload (pc' := 313) w at_311 rfl rfl ?_
      refine s_lastore (pc' := 314) (k := 16) w rfl at_313 (by decide) (leB rfl) rfl ?_
      intro T w
      refine s_dup (pc' := 315) w at_314 rfl rfl ?_
      refine s_iconst (pc' := 316) (2 : Int32) w at_315 (by decide) rfl ?_
      refine s_lload (pc' := 318) w at_316 rfl rfl ?_
      refine s_lastore (pc' := 319) (k := 16) w rfl at_318 (by decide) (leB rfl) rfl ?_
      intro T w
      refine s_dup (pc' := 320) w at_319 rfl rfl ?_
      refine s_iconst (pc' := 321) (3 : Int32) w at_320 (by decide) rfl ?_
      refine s_lload (pc' := 323) w at_321 rfl rfl ?_
      refine s_lastore (pc' := 324) (k := 16) w rfl at_323 (by decide) (leB rfl) rfl ?_
      intro T w
      refine s_dup (pc' := 325) w at_324 rfl rfl ?_
      refine s_iconst (pc' := 326) (4 : Int32) w at_325 (by decide) rfl ?_
      refine s_lload (pc' := 328) w at_326 rfl rfl ?_
      refine s_lastore (pc' := 329) (k := 16) w rfl at_328 (by decide) (leB rfl) rfl ?_
      intro T w
      replace w : St p l e _ s m _ below meth c Z _ _ _ _ h0 n0 T [o0 (.int 3) (.ref (n0 + 2)) (.int 3), o1 .null (.ref ti) (.int l0) (.int u0) (.int l0) .null, aO ([.ref (n0 + 1), .ref (n0 + 3), .ref (n0 + 4), .null, .null, .null, .null, .null, .null, .null]), o1 .null (.ref ti) (.int l1) (.int u1) (.int l1) .null, o1 .null (.ref ti) (.int l2) (.int u2) (.int l2) .null, sOb n0 6 7 8 9 10 11 12 1 13 0, aJ ([]), aI (List.replicate 1024 (Value.int (-1))), aI ([]), aI ([.int l0, .int l1, .int l2]), aI ([.int 0, .int 0, .int 0]), aI ([.int (Int32.ofNat 0), .int (Int32.ofNat b0), .int (Int32.ofNat (b0 + b1))]), aJ ([.long (mkM b0), .long (mkM b1), .long (mkM b2)]), aJ ([.long 0]), aI ([.int s0, .int s1, .int s2]), aI ([.int xv, .int s1, .int s2]), aJ ([.long ww, .long ww, .long ww, .long ww, .long ww])] 17 1092 := w
      refine s_astore (pc' := 331) (ls' := #[vJ r0, sc, vJ r1, sc, vJ r2, sc, vJ q1, sc, vJ q2, sc, vI sel, vI l0, vI u0, vI l1, vI u1, vI l2, vI u2, vR (n0 + 0), vR (n0 + 5), vI s0, vI s1, vI s2, vI (0 : Int32), vI (Int32.ofNat st'), vI xv, vR (n0 + 14), vR (n0 + 15), vJ ww, sc, vR (n0 + 16), un, un, un]) w at_329 rfl rfl rfl ?_
      refine s_iconst (pc' := 332) (5 : Int32) w at_331 (by decide) rfl ?_
      refine s_newarray (pc' := 334) (ty := .long) w (t100 hw) rfl (by intro C h; cases h) at_332 (by decide) 5 (by decide) (by decide) (by decide) (by decide) 17 rfl rfl ?_
      intro T w
      replace w : St p l e _ s m _ below meth c Z _ _ _ _ h0 n0 T [o0 (.int 3) (.ref (n0 + 2)) (.int 3), o1 .null (.ref ti) (.int l0) (.int u0) (.int l0) .null, aO ([.ref (n0 + 1), .ref (n0 + 3), .ref (n0 + 4), .null, .null, .null, .null, .null, .null, .null]), o1 .null (.ref ti) (.int l1) (.int u1) (.int l1) .null, o1 .null (.ref ti) (.int l2) (.int u2) (.int l2) .null, sOb n0 6 7 8 9 10 11 12 1 13 0, aJ ([]), aI (List.replicate 1024 (Value.int (-1))), aI ([]), aI ([.int l0, .int l1, .int l2]), aI ([.int 0, .int 0, .int 0]), aI ([.int (Int32.ofNat 0), .int (Int32.ofNat b0), .int (Int32.ofNat (b0 + b1))]), aJ ([.long (mkM b0), .long (mkM b1), .long (mkM b2)]), aJ ([.long 0]), aI ([.int s0, .int s1, .int s2]), aI ([.int xv, .int s1, .int s2]), aJ ([.long ww, .long ww, .long ww, .long ww, .long ww]), aJ ([(.long 0), (.long 0), (.long 0), (.long 0), (.long 0)])] 18 1097 := w
      refine s_dup (pc' := 335) w at_334 rfl rfl ?_
      refine s_iconst (pc' := 336) (0 : Int32) w at_335 (by decide) rfl ?_
      refine s_lload (pc' := 338) w at_336 rfl rfl ?_
      refine s_lastore (pc' := 339) (k := 17) w rfl at_338 (by decide) (leB rfl) rfl ?_
      intro T w
      refine s_dup (pc' := 340) w at_339 rfl rfl ?_
      refine s_iconst (pc' := 341) (1 : Int32) w at_340 (by decide) rfl ?_
      refine s_lload (pc' := 343) w at_341 rfl rfl ?_
      refine s_lastore (pc' := 344) (k := 17) w rfl at_343 (by decide) (leB rfl) rfl ?_
      intro T w
      refine s_dup (pc' := 345) w at_344 rfl rfl ?_
      refine s_iconst (pc' := 346) (2 : Int32) w at_345 (by decide) rfl ?_
      refine s_lload (pc' := 348) w at_346 rfl rfl ?_
      refine s_lastore (pc' := 349) (k := 17) w rfl at_348 (by decide) (leB rfl) rfl ?_
      intro T w
      refine s_dup (pc' := 350) w at_349 rfl rfl ?_
      refine s_iconst (pc' := 351) (3 : Int32) w at_350 (by decide) rfl ?_
      refine s_lload (pc' := 353) w at_351 rfl rfl ?_
      refine s_lastore (pc' := 354) (k := 17) w rfl at_353 (by decide) (leB rfl) rfl ?_
      intro T w
      refine s_dup (pc' := 355) w at_354 rfl rfl ?_
      refine s_iconst (pc' := 356) (4 : Int32) w at_355 (by decide) rfl ?_
      refine s_lload (pc' := 358) w at_356 rfl rfl ?_
      refine s_lastore (pc' := 359) (k := 17) w rfl at_358 (by decide) (leB rfl) rfl ?_
      intro T w
      replace w : St p l e _ s m _ below meth c Z _ _ _ _ h0 n0 T [o0 (.int 3) (.ref (n0 + 2)) (.int 3), o1 .null (.ref ti) (.int l0) (.int u0) (.int l0) .null, aO ([.ref (n0 + 1), .ref (n0 + 3), .ref (n0 + 4), .null, .null, .null, .null, .null, .null, .null]), o1 .null (.ref ti) (.int l1) (.int u1) (.int l1) .null, o1 .null (.ref ti) (.int l2) (.int u2) (.int l2) .null, sOb n0 6 7 8 9 10 11 12 1 13 0, aJ ([]), aI (List.replicate 1024 (Value.int (-1))), aI ([]), aI ([.int l0, .int l1, .int l2]), aI ([.int 0, .int 0, .int 0]), aI ([.int (Int32.ofNat 0), .int (Int32.ofNat b0), .int (Int32.ofNat (b0 + b1))]), aJ ([.long (mkM b0), .long (mkM b1), .long (mkM b2)]), aJ ([.long 0]), aI ([.int s0, .int s1, .int s2]), aI ([.int xv, .int s1, .int s2]), aJ ([.long ww, .long ww, .long ww, .long ww, .long ww]), aJ ([.long ww, .long ww, .long ww, .long ww, .long ww])] 18 1097 := w
      refine s_astore (pc' := 361) (ls' := #[vJ r0, sc, vJ r1, sc, vJ r2, sc, vJ q1, sc, vJ q2, sc, vI sel, vI l0, vI u0, vI l1, vI u1, vI l2, vI u2, vR (n0 + 0), vR (n0 + 5), vI s0, vI s1, vI s2, vI (0 : Int32), vI (Int32.ofNat st'), vI xv, vR (n0 + 14), vR (n0 + 15), vJ ww, sc, vR (n0 + 16), vR (n0 + 17), un, un]) w at_359 rfl rfl rfl ?_
      refine s_aload (pc' := 363) w at_361 rfl rfl rfl ?_
      refine s_aload (pc' := 365) w at_363 rfl rfl rfl ?_
      refine s_virtual (pc' := 368) (rest := []) 0 [(.ref (n0 + 14))] w (c_addOne1 hw l h0 n0 5 6 7 8 9 10 11 12 13 (n0 + 14) s0 s1 s2 l0 l1 l2 (Int32.ofNat 0) (Int32.ofNat b0) (Int32.ofNat (b0 + b1)) 0 _ rfl rfl rfl rfl rfl rfl rfl (Lk.new (k := 14) rfl) (by decide) (by decide) (by decide) (by decide) (ad_ne (by decide)) (by decide) (by decide) (by decide)) (Lk.new (k := 5) rfl) (t186 hw) (t187 hw) (w.notFace (t189 hw)) (t189 hw) (t188 hw) (t95 hw) (t190 hw) (by decide) pd23 at_365 (by decide) rfl rfl rfl rfl (Nat.le_of_eq rfl) rfl ?_
      intro T v L' hQ w
      obtain ⟨rfl, hL⟩ := hQ
      replace hL := hL.symm
      subst hL
      dsimp only [oS, oN, cA, nA]
      replace w : St p l e _ s m _ below meth c Z _ _ _ _ h0 n0 T [o0 (.int 3) (.ref (n0 + 2)) (.int 3), o1 .null (.ref ti) (.int l0) (.int u0) (.int l0) .null, aO ([.ref (n0 + 1), .ref (n0 + 3), .ref (n0 + 4), .null, .null, .null, .null, .null, .null, .null]), o1 .null (.ref ti) (.int l1) (.int u1) (.int l1) .null, o1 .null (.ref ti) (.int l2) (.int u2) (.int l2) .null, sOb n0 18 7 8 9 10 11 12 1 13 1, aJ ([]), aI ((List.replicate 1024 (Value.int (-1))).set ((hfin (hfold [((((0 : Int64) ||| (dS s0 l0 (Int32.ofNat 0))) ||| (dS s1 l1 (Int32.ofNat b0))) ||| (dS s2 l2 (Int32.ofNat (b0 + b1))))])) &&& (1023 : Int32)).toNatClampNeg (.int (entF 0 (hfin (hfold [((((0 : Int64) ||| (dS s0 l0 (Int32.ofNat 0))) ||| (dS s1 l1 (Int32.ofNat b0))) ||| (dS s2 l2 (Int32.ofNat (b0 + b1))))]))))), aI ([]), aI ([.int l0, .int l1, .int l2]), aI ([.int 0, .int 0, .int 0]), aI ([.int (Int32.ofNat 0), .int (Int32.ofNat b0), .int (Int32.ofNat (b0 + b1))]), aJ ([.long (mkM b0), .long (mkM b1), .long (mkM b2)]), aJ ([.long ((((0 : Int64) ||| (dS s0 l0 (Int32.ofNat 0))) ||| (dS s1 l1 (Int32.ofNat b0))) ||| (dS s2 l2 (Int32.ofNat (b0 + b1))))]), aI ([.int s0, .int s1, .int s2]), aI ([.int xv, .int s1, .int s2]), aJ ([.long ww, .long ww, .long ww, .long ww, .long ww]), aJ ([.long ww, .long ww, .long ww, .long ww, .long ww]), aJ ([.long ((((0 : Int64) ||| (dS s0 l0 (Int32.ofNat 0))) ||| (dS s1 l1 (Int32.ofNat b0))) ||| (dS s2 l2 (Int32.ofNat (b0 + b1))))] ++ List.replicate 1023 (.long 0))] 19 2121 := w
      generalize hA0 : ((((0 : Int64) ||| (dS s0 l0 (Int32.ofNat 0))) ||| (dS s1 l1 (Int32.ofNat b0))) ||| (dS s2 l2 (Int32.ofNat (b0 + b1)))) = A0 at w
      refine s_istore (pc' := 370) (ls' := #[vJ r0, sc, vJ r1, sc, vJ r2, sc, vJ q1, sc, vJ q2, sc, vI sel, vI l0, vI u0, vI l1, vI u1, vI l2, vI u2, vR (n0 + 0), vR (n0 + 5), vI s0, vI s1, vI s2, vI (0 : Int32), vI (Int32.ofNat st'), vI xv, vR (n0 + 14), vR (n0 + 15), vJ ww, sc, vR (n0 + 16), vR (n0 + 17), vI (0 : Int32), un]) w at_368 rfl rfl ?_
      refine s_aload (pc' := 372) w at_370 rfl rfl rfl ?_
      refine s_iload (pc' := 374) w at_372 rfl rfl ?_
      refine s_aload (pc' := 376) w at_374 rfl rfl rfl ?_
      refine s_iload (pc' := 378) w at_376 rfl rfl ?_
      change Go p e below _ T (mkF m 378 #[vJ r0, sc, vJ r1, sc, vJ r2, sc, vJ q1, sc, vJ q2, sc, vI sel, vI l0, vI u0, vI l1, vI u1, vI l2, vI u2, vR (n0 + 0), vR (n0 + 5), vI s0, vI s1, vI s2, vI (0 : Int32), vI (Int32.ofNat st'), vI xv, vR (n0 + 14), vR (n0 + 15), vJ ww, sc, vR (n0 + 16), vR (n0 + 17), vI (0 : Int32), un] [(.int (Int32.ofNat st')), (.ref (n0 + 16)), (.int (Int32.ofNat 0)), (.ref (n0 + 5))])
      refine s_virtual (pc' := 381) (rest := []) 0 [(.int (Int32.ofNat 0)), (.ref (n0 + 16)), (.int (Int32.ofNat st'))] w (c_key1 hw l h0 n0 5 18 7 8 9 10 11 12 13 1 16 0 st' _ [Value.long ww, Value.long ww, Value.long ww, Value.long ww, Value.long ww] _ rfl rfl rfl (by decide) (by omega) (by simp) (by simp; omega)) (Lk.new (k := 5) rfl) (t238 hw) (t239 hw) (w.notFace (t241 hw)) (t241 hw) (t240 hw) (t95 hw) (t242 hw) (by decide) pd24 at_378 (by decide) rfl rfl rfl rfl (Nat.le_of_eq rfl) rfl ?_
      intro T v L' hQ w
      obtain ⟨rfl, hL⟩ := hQ
      replace hL := hL.symm
      subst hL
      dsimp only [oS, oN, cA, nA]
      replace w : St p l e _ s m _ below meth c Z _ _ _ _ h0 n0 T [o0 (.int 3) (.ref (n0 + 2)) (.int 3), o1 .null (.ref ti) (.int l0) (.int u0) (.int l0) .null, aO ([.ref (n0 + 1), .ref (n0 + 3), .ref (n0 + 4), .null, .null, .null, .null, .null, .null, .null]), o1 .null (.ref ti) (.int l1) (.int u1) (.int l1) .null, o1 .null (.ref ti) (.int l2) (.int u2) (.int l2) .null, sOb n0 18 7 8 9 10 11 12 1 13 1, aJ ([]), aI ((List.replicate 1024 (Value.int (-1))).set ((hfin (hfold [A0])) &&& (1023 : Int32)).toNatClampNeg (.int (entF 0 (hfin (hfold [A0]))))), aI ([]), aI ([.int l0, .int l1, .int l2]), aI ([.int 0, .int 0, .int 0]), aI ([.int (Int32.ofNat 0), .int (Int32.ofNat b0), .int (Int32.ofNat (b0 + b1))]), aJ ([.long (mkM b0), .long (mkM b1), .long (mkM b2)]), aJ ([.long A0]), aI ([.int s0, .int s1, .int s2]), aI ([.int xv, .int s1, .int s2]), aJ (List.take st' [Value.long ww, Value.long ww, Value.long ww, Value.long ww, Value.long ww] ++ [Value.long A0] ++ List.drop (st' + 1) [Value.long ww, Value.long ww, Value.long ww, Value.long ww, Value.long ww]), aJ ([.long ww, .long ww, .long ww, .long ww, .long ww]), aJ ([.long A0] ++ List.replicate 1023 (.long 0))] 19 2121 := w
      refine s_aload (pc' := 383) w at_381 rfl rfl rfl ?_
      refine s_aload (pc' := 385) w at_383 rfl rfl rfl ?_
      refine s_iload (pc' := 387) w at_385 rfl rfl ?_
      refine s_iload (pc' := 389) w at_387 rfl rfl ?_
      refine s_iload (pc' := 391) w at_389 rfl rfl ?_
      refine s_virtual (pc' := 394) (rest := []) 0 [(.ref (n0 + 16)), (.int (Int32.ofNat st')), (.int (0 : Int32)), (.int xv)] w (c_set1_0 hw l h0 n0 5 18 7 8 9 10 11 12 13 1 16 st' xv l0 l1 l2 (Int32.ofNat 0) (Int32.ofNat b0) (Int32.ofNat (b0 + b1)) (mkM b0) (mkM b1) (mkM b2) A0 (List.take st' [Value.long ww, Value.long ww, Value.long ww, Value.long ww, Value.long ww] ++ [Value.long A0] ++ List.drop (st' + 1) [Value.long ww, Value.long ww, Value.long ww, Value.long ww, Value.long ww]) _ rfl rfl rfl rfl rfl rfl (by omega) (key_at1_0 hst')) (Lk.new (k := 5) rfl) (t243 hw) (t244 hw) (w.notFace (t246 hw)) (t246 hw) (t245 hw) (t95 hw) (t247 hw) (by decide) pd25 at_391 (by decide) rfl rfl rfl rfl (Nat.le_of_eq rfl) rfl ?_
      intro T v L' hQ w
      obtain ⟨rfl, hL⟩ := hQ
      replace hL := hL.symm
      subst hL
      dsimp only [oS, oN, cA, nA]
      replace w : St p l e _ s m _ below meth c Z _ _ _ _ h0 n0 T [o0 (.int 3) (.ref (n0 + 2)) (.int 3), o1 .null (.ref ti) (.int l0) (.int u0) (.int l0) .null, aO ([.ref (n0 + 1), .ref (n0 + 3), .ref (n0 + 4), .null, .null, .null, .null, .null, .null, .null]), o1 .null (.ref ti) (.int l1) (.int u1) (.int l1) .null, o1 .null (.ref ti) (.int l2) (.int u2) (.int l2) .null, sOb n0 18 7 8 9 10 11 12 1 13 1, aJ ([]), aI ((List.replicate 1024 (Value.int (-1))).set ((hfin (hfold [A0])) &&& (1023 : Int32)).toNatClampNeg (.int (entF 0 (hfin (hfold [A0]))))), aI ([]), aI ([.int l0, .int l1, .int l2]), aI ([.int 0, .int 0, .int 0]), aI ([.int (Int32.ofNat 0), .int (Int32.ofNat b0), .int (Int32.ofNat (b0 + b1))]), aJ ([.long (mkM b0), .long (mkM b1), .long (mkM b2)]), aJ ([.long A0]), aI ([.int s0, .int s1, .int s2]), aI ([.int xv, .int s1, .int s2]), aJ ((List.take st' [Value.long ww, Value.long ww, Value.long ww, Value.long ww, Value.long ww] ++ [Value.long A0] ++ List.drop (st' + 1) [Value.long ww, Value.long ww, Value.long ww, Value.long ww, Value.long ww]).set (st' + 0) (.long (setF A0 (mkM b0) (Int32.ofNat 0) xv l0))), aJ ([.long ww, .long ww, .long ww, .long ww, .long ww]), aJ ([.long A0] ++ List.replicate 1023 (.long 0))] 19 2121 := w
      refine s_aload (pc' := 396) w at_394 rfl rfl rfl ?_
      refine s_aload (pc' := 398) w at_396 rfl rfl rfl ?_
      refine s_virtual (pc' := 401) (rest := []) 0 [(.ref (n0 + 15))] w (c_addTwo1 hw l h0 n0 5 18 7 8 9 10 11 12 13 (n0 + 15) xv s1 s2 l0 l1 l2 (Int32.ofNat 0) (Int32.ofNat b0) (Int32.ofNat (b0 + b1)) A0 (hfin (hfold [A0])) A0 _ rfl rfl rfl rfl rfl rfl rfl (Lk.new (k := 15) rfl) (by decide) (by decide) (by decide) (by decide) (ad_ne (by decide)) (by decide) (by decide) (by decide) (by decide) (by decide)) (Lk.new (k := 5) rfl) (t186 hw) (t187 hw) (w.notFace (t189 hw)) (t189 hw) (t188 hw) (t95 hw) (t190 hw) (by decide) pd23 at_398 (by decide) rfl rfl rfl rfl (Nat.le_of_eq rfl) rfl ?_
      intro T v L' hQ w
      rcases hQ with ⟨rfl, hL, hz⟩ | ⟨rfl, tb, hL⟩
      · replace hL := hL.symm
        subst hL
        replace w : St p l e _ s m _ below meth c Z _ _ _ _ h0 n0 T [o0 (.int 3) (.ref (n0 + 2)) (.int 3), o1 .null (.ref ti) (.int l0) (.int u0) (.int l0) .null, aO ([.ref (n0 + 1), .ref (n0 + 3), .ref (n0 + 4), .null, .null, .null, .null, .null, .null, .null]), o1 .null (.ref ti) (.int l1) (.int u1) (.int l1) .null, o1 .null (.ref ti) (.int l2) (.int u2) (.int l2) .null, sOb n0 18 7 8 9 10 11 12 1 13 1, aJ ([]), aI ((List.replicate 1024 (Value.int (-1))).set ((hfin (hfold [A0])) &&& (1023 : Int32)).toNatClampNeg (.int (entF 0 (hfin (hfold [A0]))))), aI ([]), aI ([.int l0, .int l1, .int l2]), aI ([.int 0, .int 0, .int 0]), aI ([.int (Int32.ofNat 0), .int (Int32.ofNat b0), .int (Int32.ofNat (b0 + b1))]), aJ ([.long (mkM b0), .long (mkM b1), .long (mkM b2)]), aJ ([.long ((((0 : Int64) ||| (dS xv l0 (Int32.ofNat 0))) ||| (dS s1 l1 (Int32.ofNat b0))) ||| (dS s2 l2 (Int32.ofNat (b0 + b1))))]), aI ([.int s0, .int s1, .int s2]), aI ([.int xv, .int s1, .int s2]), aJ ((List.take st' [Value.long ww, Value.long ww, Value.long ww, Value.long ww, Value.long ww] ++ [Value.long A0] ++ List.drop (st' + 1) [Value.long ww, Value.long ww, Value.long ww, Value.long ww, Value.long ww]).set (st' + 0) (.long (setF A0 (mkM b0) (Int32.ofNat 0) xv l0))), aJ ([.long ww, .long ww, .long ww, .long ww, .long ww]), aJ ([.long A0] ++ List.replicate 1023 (.long 0))] 19 2121 := w
        change Go p e below _ T (mkF m 401 #[vJ r0, sc, vJ r1, sc, vJ r2, sc, vJ q1, sc, vJ q2, sc, vI sel, vI l0, vI u0, vI l1, vI u1, vI l2, vI u2, vR (n0 + 0), vR (n0 + 5), vI s0, vI s1, vI s2, vI (0 : Int32), vI (Int32.ofNat st'), vI xv, vR (n0 + 14), vR (n0 + 15), vJ ww, sc, vR (n0 + 16), vR (n0 + 17), vI (0 : Int32), un] [(.int (0 : Int32))])
        generalize hB0 : ((((0 : Int64) ||| (dS xv l0 (Int32.ofNat 0))) ||| (dS s1 l1 (Int32.ofNat b0))) ||| (dS s2 l2 (Int32.ofNat (b0 + b1)))) = B0 at w hz
        refine s_istore (pc' := 403) (ls' := #[vJ r0, sc, vJ r1, sc, vJ r2, sc, vJ q1, sc, vJ q2, sc, vI sel, vI l0, vI u0, vI l1, vI u1, vI l2, vI u2, vR (n0 + 0), vR (n0 + 5), vI s0, vI s1, vI s2, vI (0 : Int32), vI (Int32.ofNat st'), vI xv, vR (n0 + 14), vR (n0 + 15), vJ ww, sc, vR (n0 + 16), vR (n0 + 17), vI (0 : Int32), vI (0 : Int32)]) w at_401 rfl rfl ?_
        refine s_aload (pc' := 405) w at_403 rfl rfl rfl ?_
        refine s_iload (pc' := 407) w at_405 rfl rfl ?_
        refine s_aload (pc' := 409) w at_407 rfl rfl rfl ?_
        refine s_iload (pc' := 411) w at_409 rfl rfl ?_
        change Go p e below _ T (mkF m 411 #[vJ r0, sc, vJ r1, sc, vJ r2, sc, vJ q1, sc, vJ q2, sc, vI sel, vI l0, vI u0, vI l1, vI u1, vI l2, vI u2, vR (n0 + 0), vR (n0 + 5), vI s0, vI s1, vI s2, vI (0 : Int32), vI (Int32.ofNat st'), vI xv, vR (n0 + 14), vR (n0 + 15), vJ ww, sc, vR (n0 + 16), vR (n0 + 17), vI (0 : Int32), vI (0 : Int32)] [(.int (Int32.ofNat st')), (.ref (n0 + 17)), (.int (Int32.ofNat 0)), (.ref (n0 + 5))])
        refine s_virtual (pc' := 414) (rest := []) 0 [(.int (Int32.ofNat 0)), (.ref (n0 + 17)), (.int (Int32.ofNat st'))] w (c_key1 hw l h0 n0 5 18 7 8 9 10 11 12 13 1 17 0 st' _ [Value.long ww, Value.long ww, Value.long ww, Value.long ww, Value.long ww] _ rfl rfl rfl (by decide) (by omega) (by simp) (by simp; omega)) (Lk.new (k := 5) rfl) (t238 hw) (t239 hw) (w.notFace (t241 hw)) (t241 hw) (t240 hw) (t95 hw) (t242 hw) (by decide) pd24 at_411 (by decide) rfl rfl rfl rfl (Nat.le_of_eq rfl) rfl ?_
        intro T v L' hQ w
        obtain ⟨rfl, hL⟩ := hQ
        replace hL := hL.symm
        subst hL
        dsimp only [oS, oN, cA, nA]
        replace w : St p l e _ s m _ below meth c Z _ _ _ _ h0 n0 T [o0 (.int 3) (.ref (n0 + 2)) (.int 3), o1 .null (.ref ti) (.int l0) (.int u0) (.int l0) .null, aO ([.ref (n0 + 1), .ref (n0 + 3), .ref (n0 + 4), .null, .null, .null, .null, .null, .null, .null]), o1 .null (.ref ti) (.int l1) (.int u1) (.int l1) .null, o1 .null (.ref ti) (.int l2) (.int u2) (.int l2) .null, sOb n0 18 7 8 9 10 11 12 1 13 1, aJ ([]), aI ((List.replicate 1024 (Value.int (-1))).set ((hfin (hfold [A0])) &&& (1023 : Int32)).toNatClampNeg (.int (entF 0 (hfin (hfold [A0]))))), aI ([]), aI ([.int l0, .int l1, .int l2]), aI ([.int 0, .int 0, .int 0]), aI ([.int (Int32.ofNat 0), .int (Int32.ofNat b0), .int (Int32.ofNat (b0 + b1))]), aJ ([.long (mkM b0), .long (mkM b1), .long (mkM b2)]), aJ ([.long B0]), aI ([.int s0, .int s1, .int s2]), aI ([.int xv, .int s1, .int s2]), aJ ((List.take st' [Value.long ww, Value.long ww, Value.long ww, Value.long ww, Value.long ww] ++ [Value.long A0] ++ List.drop (st' + 1) [Value.long ww, Value.long ww, Value.long ww, Value.long ww, Value.long ww]).set (st' + 0) (.long (setF A0 (mkM b0) (Int32.ofNat 0) xv l0))), aJ (List.take st' [Value.long ww, Value.long ww, Value.long ww, Value.long ww, Value.long ww] ++ [Value.long A0] ++ List.drop (st' + 1) [Value.long ww, Value.long ww, Value.long ww, Value.long ww, Value.long ww]), aJ ([.long A0] ++ List.replicate 1023 (.long 0))] 19 2121 := w
        refine s_aload (pc' := 416) w at_414 rfl rfl rfl ?_
        refine s_iconst (pc' := 417) (0 : Int32) w at_416 (by decide) rfl ?_
        have hzz := hz
        have hset := set1_0 hb0 hb1 hb2 hsum los0 his0 hx0 los1 his1 hx1 los2 his2 hx2 loxv hixv
        rw [hA0, hB0] at hset
        have hEK : (List.take st' [Value.long ww, Value.long ww, Value.long ww, Value.long ww, Value.long ww] ++ [Value.long A0] ++ List.drop (st' + 1) [Value.long ww, Value.long ww, Value.long ww, Value.long ww, Value.long ww]).set (st' + 0) (.long (setF A0 (mkM b0) (Int32.ofNat 0) xv l0)) = List.take st' [Value.long ww, Value.long ww, Value.long ww, Value.long ww, Value.long ww] ++ [Value.long B0] ++ List.drop (st' + 1) [Value.long ww, Value.long ww, Value.long ww, Value.long ww, Value.long ww] := by rw [hset]; exact list_set1_0 hst'
        rw [hEK] at w
        rw [show (List.take st' [Value.long ww, Value.long ww, Value.long ww, Value.long ww, Value.long ww] ++ [Value.long A0] ++ List.drop (st' + 1) [Value.long ww, Value.long ww, Value.long ww, Value.long ww, Value.long ww]) = List.take st' [Value.long ww, Value.long ww, Value.long ww, Value.long ww, Value.long ww] ++ [Value.long B0] ++ List.drop (st' + 1) [Value.long ww, Value.long ww, Value.long ww, Value.long ww, Value.long ww] by rw [hz]] at w
        obtain ⟨z0, z1, z2, z3, z4, hz5⟩ := list_five1 (a := ww) (B0 := B0) hst'
        rw [hz5] at w
        refine s_laload (pc' := 418) (v := (.long z0)) w (Lk.new (k := 16) rfl) at_417 (by decide) rfl rfl ?_
        refine s_aload (pc' := 420) w at_418 rfl rfl rfl ?_
        refine s_iconst (pc' := 421) (0 : Int32) w at_420 (by decide) rfl ?_
        refine s_laload (pc' := 422) (v := (.long z0)) w (Lk.new (k := 17) rfl) at_421 (by decide) rfl rfl ?_
        refine s_lcmp (pc' := 423) w at_422 rfl ?_
        refine s_ifN (pc' := 426) w at_423 (Jvm.Free.XT.ll_ne_f rfl) rfl ?_
        refine s_aload (pc' := 428) w at_426 rfl rfl rfl ?_
        refine s_iconst (pc' := 429) (1 : Int32) w at_428 (by decide) rfl ?_
        refine s_laload (pc' := 430) (v := (.long z1)) w (Lk.new (k := 16) rfl) at_429 (by decide) rfl rfl ?_
        refine s_aload (pc' := 432) w at_430 rfl rfl rfl ?_
        refine s_iconst (pc' := 433) (1 : Int32) w at_432 (by decide) rfl ?_
        refine s_laload (pc' := 434) (v := (.long z1)) w (Lk.new (k := 17) rfl) at_433 (by decide) rfl rfl ?_
        refine s_lcmp (pc' := 435) w at_434 rfl ?_
        refine s_ifN (pc' := 438) w at_435 (Jvm.Free.XT.ll_ne_f rfl) rfl ?_
        refine s_aload (pc' := 440) w at_438 rfl rfl rfl ?_
        refine s_iconst (pc' := 441) (2 : Int32) w at_440 (by decide) rfl ?_
        refine s_laload (pc' := 442) (v := (.long z2)) w (Lk.new (k := 16) rfl) at_441 (by decide) rfl rfl ?_
        refine s_aload (pc' := 444) w at_442 rfl rfl rfl ?_
        refine s_iconst (pc' := 445) (2 : Int32) w at_444 (by decide) rfl ?_
        refine s_laload (pc' := 446) (v := (.long z2)) w (Lk.new (k := 17) rfl) at_445 (by decide) rfl rfl ?_
        refine s_lcmp (pc' := 447) w at_446 rfl ?_
        refine s_ifN (pc' := 450) w at_447 (Jvm.Free.XT.ll_ne_f rfl) rfl ?_
        refine s_aload (pc' := 452) w at_450 rfl rfl rfl ?_
        refine s_iconst (pc' := 453) (3 : Int32) w at_452 (by decide) rfl ?_
        refine s_laload (pc' := 454) (v := (.long z3)) w (Lk.new (k := 16) rfl) at_453 (by decide) rfl rfl ?_
        refine s_aload (pc' := 456) w at_454 rfl rfl rfl ?_
        refine s_iconst (pc' := 457) (3 : Int32) w at_456 (by decide) rfl ?_
        refine s_laload (pc' := 458) (v := (.long z3)) w (Lk.new (k := 17) rfl) at_457 (by decide) rfl rfl ?_
        refine s_lcmp (pc' := 459) w at_458 rfl ?_
        refine s_ifN (pc' := 462) w at_459 (Jvm.Free.XT.ll_ne_f rfl) rfl ?_
        refine s_aload (pc' := 464) w at_462 rfl rfl rfl ?_
        refine s_iconst (pc' := 465) (4 : Int32) w at_464 (by decide) rfl ?_
        refine s_laload (pc' := 466) (v := (.long z4)) w (Lk.new (k := 16) rfl) at_465 (by decide) rfl rfl ?_
        refine s_aload (pc' := 468) w at_466 rfl rfl rfl ?_
        refine s_iconst (pc' := 469) (4 : Int32) w at_468 (by decide) rfl ?_
        refine s_laload (pc' := 470) (v := (.long z4)) w (Lk.new (k := 17) rfl) at_469 (by decide) rfl rfl ?_
        refine s_lcmp (pc' := 471) w at_470 rfl ?_
        refine s_ifN (pc' := 474) w at_471 (Jvm.Free.XT.ll_ne_f rfl) rfl ?_
        refine s_iconst (pc' := 475) (1 : Int32) w at_474 (by decide) rfl ?_
        refine s_goto (pc' := 479) w at_475 (by decide) (by decide) ?_
        exact s_zreturn rfl w at_479 (by decide) (by decide) rfl
      · replace hL := hL.symm
        subst hL
        replace w : St p l e _ s m _ below meth c Z _ _ _ _ h0 n0 T [o0 (.int 3) (.ref (n0 + 2)) (.int 3), o1 .null (.ref ti) (.int l0) (.int u0) (.int l0) .null, aO ([.ref (n0 + 1), .ref (n0 + 3), .ref (n0 + 4), .null, .null, .null, .null, .null, .null, .null]), o1 .null (.ref ti) (.int l1) (.int u1) (.int l1) .null, o1 .null (.ref ti) (.int l2) (.int u2) (.int l2) .null, sOb n0 18 7 8 9 10 11 12 1 13 2, aJ ([]), aI (tb), aI ([]), aI ([.int l0, .int l1, .int l2]), aI ([.int 0, .int 0, .int 0]), aI ([.int (Int32.ofNat 0), .int (Int32.ofNat b0), .int (Int32.ofNat (b0 + b1))]), aJ ([.long (mkM b0), .long (mkM b1), .long (mkM b2)]), aJ ([.long ((((0 : Int64) ||| (dS xv l0 (Int32.ofNat 0))) ||| (dS s1 l1 (Int32.ofNat b0))) ||| (dS s2 l2 (Int32.ofNat (b0 + b1))))]), aI ([.int s0, .int s1, .int s2]), aI ([.int xv, .int s1, .int s2]), aJ ((List.take st' [Value.long ww, Value.long ww, Value.long ww, Value.long ww, Value.long ww] ++ [Value.long A0] ++ List.drop (st' + 1) [Value.long ww, Value.long ww, Value.long ww, Value.long ww, Value.long ww]).set (st' + 0) (.long (setF A0 (mkM b0) (Int32.ofNat 0) xv l0))), aJ ([.long ww, .long ww, .long ww, .long ww, .long ww]), aJ ([.long A0, .long ((((0 : Int64) ||| (dS xv l0 (Int32.ofNat 0))) ||| (dS s1 l1 (Int32.ofNat b0))) ||| (dS s2 l2 (Int32.ofNat (b0 + b1))))] ++ List.replicate 1022 (.long 0))] 19 2121 := w
        change Go p e below _ T (mkF m 401 #[vJ r0, sc, vJ r1, sc, vJ r2, sc, vJ q1, sc, vJ q2, sc, vI sel, vI l0, vI u0, vI l1, vI u1, vI l2, vI u2, vR (n0 + 0), vR (n0 + 5), vI s0, vI s1, vI s2, vI (0 : Int32), vI (Int32.ofNat st'), vI xv, vR (n0 + 14), vR (n0 + 15), vJ ww, sc, vR (n0 + 16), vR (n0 + 17), vI (0 : Int32), un] [(.int (1 : Int32))])
        generalize hB0 : ((((0 : Int64) ||| (dS xv l0 (Int32.ofNat 0))) ||| (dS s1 l1 (Int32.ofNat b0))) ||| (dS s2 l2 (Int32.ofNat (b0 + b1)))) = B0 at w
        refine s_istore (pc' := 403) (ls' := #[vJ r0, sc, vJ r1, sc, vJ r2, sc, vJ q1, sc, vJ q2, sc, vI sel, vI l0, vI u0, vI l1, vI u1, vI l2, vI u2, vR (n0 + 0), vR (n0 + 5), vI s0, vI s1, vI s2, vI (0 : Int32), vI (Int32.ofNat st'), vI xv, vR (n0 + 14), vR (n0 + 15), vJ ww, sc, vR (n0 + 16), vR (n0 + 17), vI (0 : Int32), vI (1 : Int32)]) w at_401 rfl rfl ?_
        refine s_aload (pc' := 405) w at_403 rfl rfl rfl ?_
        refine s_iload (pc' := 407) w at_405 rfl rfl ?_
        refine s_aload (pc' := 409) w at_407 rfl rfl rfl ?_
        refine s_iload (pc' := 411) w at_409 rfl rfl ?_
        change Go p e below _ T (mkF m 411 #[vJ r0, sc, vJ r1, sc, vJ r2, sc, vJ q1, sc, vJ q2, sc, vI sel, vI l0, vI u0, vI l1, vI u1, vI l2, vI u2, vR (n0 + 0), vR (n0 + 5), vI s0, vI s1, vI s2, vI (0 : Int32), vI (Int32.ofNat st'), vI xv, vR (n0 + 14), vR (n0 + 15), vJ ww, sc, vR (n0 + 16), vR (n0 + 17), vI (0 : Int32), vI (1 : Int32)] [(.int (Int32.ofNat st')), (.ref (n0 + 17)), (.int (Int32.ofNat 1)), (.ref (n0 + 5))])
        refine s_virtual (pc' := 414) (rest := []) 0 [(.int (Int32.ofNat 1)), (.ref (n0 + 17)), (.int (Int32.ofNat st'))] w (c_key1 hw l h0 n0 5 18 7 8 9 10 11 12 13 2 17 1 st' _ [Value.long ww, Value.long ww, Value.long ww, Value.long ww, Value.long ww] _ rfl rfl rfl (by decide) (by omega) (by simp) (by simp; omega)) (Lk.new (k := 5) rfl) (t238 hw) (t239 hw) (w.notFace (t241 hw)) (t241 hw) (t240 hw) (t95 hw) (t242 hw) (by decide) pd24 at_411 (by decide) rfl rfl rfl rfl (Nat.le_of_eq rfl) rfl ?_
        intro T v L' hQ w
        obtain ⟨rfl, hL⟩ := hQ
        replace hL := hL.symm
        subst hL
        dsimp only [oS, oN, cA, nA]
        replace w : St p l e _ s m _ below meth c Z _ _ _ _ h0 n0 T [o0 (.int 3) (.ref (n0 + 2)) (.int 3), o1 .null (.ref ti) (.int l0) (.int u0) (.int l0) .null, aO ([.ref (n0 + 1), .ref (n0 + 3), .ref (n0 + 4), .null, .null, .null, .null, .null, .null, .null]), o1 .null (.ref ti) (.int l1) (.int u1) (.int l1) .null, o1 .null (.ref ti) (.int l2) (.int u2) (.int l2) .null, sOb n0 18 7 8 9 10 11 12 1 13 2, aJ ([]), aI (tb), aI ([]), aI ([.int l0, .int l1, .int l2]), aI ([.int 0, .int 0, .int 0]), aI ([.int (Int32.ofNat 0), .int (Int32.ofNat b0), .int (Int32.ofNat (b0 + b1))]), aJ ([.long (mkM b0), .long (mkM b1), .long (mkM b2)]), aJ ([.long B0]), aI ([.int s0, .int s1, .int s2]), aI ([.int xv, .int s1, .int s2]), aJ ((List.take st' [Value.long ww, Value.long ww, Value.long ww, Value.long ww, Value.long ww] ++ [Value.long A0] ++ List.drop (st' + 1) [Value.long ww, Value.long ww, Value.long ww, Value.long ww, Value.long ww]).set (st' + 0) (.long (setF A0 (mkM b0) (Int32.ofNat 0) xv l0))), aJ (List.take st' [Value.long ww, Value.long ww, Value.long ww, Value.long ww, Value.long ww] ++ [Value.long B0] ++ List.drop (st' + 1) [Value.long ww, Value.long ww, Value.long ww, Value.long ww, Value.long ww]), aJ ([.long A0, .long B0] ++ List.replicate 1022 (.long 0))] 19 2121 := w
        refine s_aload (pc' := 416) w at_414 rfl rfl rfl ?_
        refine s_iconst (pc' := 417) (0 : Int32) w at_416 (by decide) rfl ?_
        have hset := set1_0 hb0 hb1 hb2 hsum los0 his0 hx0 los1 his1 hx1 los2 his2 hx2 loxv hixv
        rw [hA0, hB0] at hset
        have hEK : (List.take st' [Value.long ww, Value.long ww, Value.long ww, Value.long ww, Value.long ww] ++ [Value.long A0] ++ List.drop (st' + 1) [Value.long ww, Value.long ww, Value.long ww, Value.long ww, Value.long ww]).set (st' + 0) (.long (setF A0 (mkM b0) (Int32.ofNat 0) xv l0)) = List.take st' [Value.long ww, Value.long ww, Value.long ww, Value.long ww, Value.long ww] ++ [Value.long B0] ++ List.drop (st' + 1) [Value.long ww, Value.long ww, Value.long ww, Value.long ww, Value.long ww] := by rw [hset]; exact list_set1_0 hst'
        rw [hEK] at w
        obtain ⟨z0, z1, z2, z3, z4, hz5⟩ := list_five1 (a := ww) (B0 := B0) hst'
        rw [hz5] at w
        refine s_laload (pc' := 418) (v := (.long z0)) w (Lk.new (k := 16) rfl) at_417 (by decide) rfl rfl ?_
        refine s_aload (pc' := 420) w at_418 rfl rfl rfl ?_
        refine s_iconst (pc' := 421) (0 : Int32) w at_420 (by decide) rfl ?_
        refine s_laload (pc' := 422) (v := (.long z0)) w (Lk.new (k := 17) rfl) at_421 (by decide) rfl rfl ?_
        refine s_lcmp (pc' := 423) w at_422 rfl ?_
        refine s_ifN (pc' := 426) w at_423 (Jvm.Free.XT.ll_ne_f rfl) rfl ?_
        refine s_aload (pc' := 428) w at_426 rfl rfl rfl ?_
        refine s_iconst (pc' := 429) (1 : Int32) w at_428 (by decide) rfl ?_
        refine s_laload (pc' := 430) (v := (.long z1)) w (Lk.new (k := 16) rfl) at_429 (by decide) rfl rfl ?_
        refine s_aload (pc' := 432) w at_430 rfl rfl rfl ?_
        refine s_iconst (pc' := 433) (1 : Int32) w at_432 (by decide) rfl ?_
        refine s_laload (pc' := 434) (v := (.long z1)) w (Lk.new (k := 17) rfl) at_433 (by decide) rfl rfl ?_
        refine s_lcmp (pc' := 435) w at_434 rfl ?_
        refine s_ifN (pc' := 438) w at_435 (Jvm.Free.XT.ll_ne_f rfl) rfl ?_
        refine s_aload (pc' := 440) w at_438 rfl rfl rfl ?_
        refine s_iconst (pc' := 441) (2 : Int32) w at_440 (by decide) rfl ?_
        refine s_laload (pc' := 442) (v := (.long z2)) w (Lk.new (k := 16) rfl) at_441 (by decide) rfl rfl ?_
        refine s_aload (pc' := 444) w at_442 rfl rfl rfl ?_
        refine s_iconst (pc' := 445) (2 : Int32) w at_444 (by decide) rfl ?_
        refine s_laload (pc' := 446) (v := (.long z2)) w (Lk.new (k := 17) rfl) at_445 (by decide) rfl rfl ?_
        refine s_lcmp (pc' := 447) w at_446 rfl ?_
        refine s_ifN (pc' := 450) w at_447 (Jvm.Free.XT.ll_ne_f rfl) rfl ?_
        refine s_aload (pc' := 452) w at_450 rfl rfl rfl ?_
        refine s_iconst (pc' := 453) (3 : Int32) w at_452 (by decide) rfl ?_
        refine s_laload (pc' := 454) (v := (.long z3)) w (Lk.new (k := 16) rfl) at_453 (by decide) rfl rfl ?_
        refine s_aload (pc' := 456) w at_454 rfl rfl rfl ?_
        refine s_iconst (pc' := 457) (3 : Int32) w at_456 (by decide) rfl ?_
        refine s_laload (pc' := 458) (v := (.long z3)) w (Lk.new (k := 17) rfl) at_457 (by decide) rfl rfl ?_
        refine s_lcmp (pc' := 459) w at_458 rfl ?_
        refine s_ifN (pc' := 462) w at_459 (Jvm.Free.XT.ll_ne_f rfl) rfl ?_
        refine s_aload (pc' := 464) w at_462 rfl rfl rfl ?_
        refine s_iconst (pc' := 465) (4 : Int32) w at_464 (by decide) rfl ?_
        refine s_laload (pc' := 466) (v := (.long z4)) w (Lk.new (k := 16) rfl) at_465 (by decide) rfl rfl ?_
        refine s_aload (pc' := 468) w at_466 rfl rfl rfl ?_
        refine s_iconst (pc' := 469) (4 : Int32) w at_468 (by decide) rfl ?_
        refine s_laload (pc' := 470) (v := (.long z4)) w (Lk.new (k := 17) rfl) at_469 (by decide) rfl rfl ?_
        refine s_lcmp (pc' := 471) w at_470 rfl ?_
        refine s_ifN (pc' := 474) w at_471 (Jvm.Free.XT.ll_ne_f rfl) rfl ?_
        refine s_iconst (pc' := 475) (1 : Int32) w at_474 (by decide) rfl ?_
        refine s_goto (pc' := 479) w at_475 (by decide) (by decide) ?_
        exact s_zreturn rfl w at_479 (by decide) (by decide) rfl
    · change Go p e below _ T (mkF m 191 #[vJ r0, sc, vJ r1, sc, vJ r2, sc, vJ q1, sc, vJ q2, sc, vI sel, vI l0, vI u0, vI l1, vI u1, vI l2, vI u2, vR (n0 + 0), vR (n0 + 5), vI s0, vI s1, vI s2, vI (1 : Int32), vI (Int32.ofNat st'), un, un, un, un, un, un, un, un, un] [(.int (1 : Int32))])
      refine s_ifY (pc' := 211) w at_191 (Jvm.Free.XT.i0_ne_t (by decide)) (by decide) (by decide) ?_
      refine s_iload (pc' := 213) w at_211 rfl rfl ?_
      refine s_iconst (pc' := 214) (1 : Int32) w at_213 (by decide) rfl ?_
      refine s_icmpN (pc' := 217) w at_214 (Jvm.Free.XT.ii_ne_f rfl) rfl ?_
      refine s_iload (pc' := 219) w at_217 rfl rfl ?_
      refine s_iload (pc' := 221) w at_219 rfl rfl ?_
      refine s_lload (pc' := 223) w at_221 rfl rfl ?_
      refine s_bipush (pc' := 225) (32 : Int32) w at_223 (by decide) rfl ?_
      refine s_lushr (pc' := 226) w at_225 rfl ?_
      refine s_static (pc' := 229) (rest := []) 0 [(.int l1), (.int u1), (.long (Jvm.Free.XT.ushrL q2 (32 : Int32)))] w (c_pick hw l h0 n0 l1 u1 (Jvm.Free.XT.ushrL q2 (32 : Int32)) _ hl1) (t183 hw) (t184 hw) (t2 hw) (t185 hw) (by decide) pd22 at_226 (by decide) rfl rfl rfl rfl (Nat.le_of_eq rfl) rfl ?_
      intro T v L' hQ w
      obtain ⟨xv, rfl, loxv, hixv, hL⟩ := hQ
      replace hL := hL.symm
      subst hL
      dsimp only [oS, oN, cA, nA]
      refine s_istore (pc' := 231) (ls' := #[vJ r0, sc, vJ r1, sc, vJ r2, sc, vJ q1, sc, vJ q2, sc, vI sel, vI l0, vI u0, vI l1, vI u1, vI l2, vI u2, vR (n0 + 0), vR (n0 + 5), vI s0, vI s1, vI s2, vI (1 : Int32), vI (Int32.ofNat st'), vI xv, un, un, un, un, un, un, un, un]) w at_229 rfl rfl ?_
      refine s_goto (pc' := 248) w at_231 (by decide) (by decide) ?_
      refine s_iconst (pc' := 249) (3 : Int32) w at_248 (by decide) rfl ?_
      refine s_newarray (pc' := 251) (ty := .int) w (t111 hw) rfl (by intro C h; cases h) at_249 (by decide) 3 (by decide) (by decide) (by decide) (by decide) 14 rfl rfl ?_
      intro T w
      replace w : St p l e _ s m _ below meth c Z _ _ _ _ h0 n0 T [o0 (.int 3) (.ref (n0 + 2)) (.int 3), o1 .null (.ref ti) (.int l0) (.int u0) (.int l0) .null, aO ([.ref (n0 + 1), .ref (n0 + 3), .ref (n0 + 4), .null, .null, .null, .null, .null, .null, .null]), o1 .null (.ref ti) (.int l1) (.int u1) (.int l1) .null, o1 .null (.ref ti) (.int l2) (.int u2) (.int l2) .null, sOb n0 6 7 8 9 10 11 12 1 13 0, aJ ([]), aI (List.replicate 1024 (Value.int (-1))), aI ([]), aI ([.int l0, .int l1, .int l2]), aI ([.int 0, .int 0, .int 0]), aI ([.int (Int32.ofNat 0), .int (Int32.ofNat b0), .int (Int32.ofNat (b0 + b1))]), aJ ([.long (mkM b0), .long (mkM b1), .long (mkM b2)]), aJ ([.long 0]), aI ([(.int 0), (.int 0), (.int 0)])] 15 1084 := w
      refine s_dup (pc' := 252) w at_251 rfl rfl ?_
      refine s_iconst (pc' := 253) (0 : Int32) w at_252 (by decide) rfl ?_
      refine s_iload (pc' := 255) w at_253 rfl rfl ?_
      refine s_iastore (pc' := 256) (k := 14) w rfl at_255 (by decide) (leB rfl) rfl ?_
      intro T w
      refine s_dup (pc' := 257) w at_256 rfl rfl ?_
      refine s_iconst (pc' := 258) (1 : Int32) w at_257 (by decide) rfl ?_
      refine s_iload (pc' := 260) w at_258 rfl rfl ?_
      refine s_iastore (pc' := 261) (k := 14) w rfl at_260 (by decide) (leB rfl) rfl ?_
      intro T w
      refine s_dup (pc' := 262) w at_261 rfl rfl ?_
      refine s_iconst (pc' := 263) (2 : Int32) w at_262 (by decide) rfl ?_
      refine s_iload (pc' := 265) w at_263 rfl rfl ?_
      refine s_iastore (pc' := 266) (k := 14) w rfl at_265 (by decide) (leB rfl) rfl ?_
      intro T w
      replace w : St p l e _ s m _ below meth c Z _ _ _ _ h0 n0 T [o0 (.int 3) (.ref (n0 + 2)) (.int 3), o1 .null (.ref ti) (.int l0) (.int u0) (.int l0) .null, aO ([.ref (n0 + 1), .ref (n0 + 3), .ref (n0 + 4), .null, .null, .null, .null, .null, .null, .null]), o1 .null (.ref ti) (.int l1) (.int u1) (.int l1) .null, o1 .null (.ref ti) (.int l2) (.int u2) (.int l2) .null, sOb n0 6 7 8 9 10 11 12 1 13 0, aJ ([]), aI (List.replicate 1024 (Value.int (-1))), aI ([]), aI ([.int l0, .int l1, .int l2]), aI ([.int 0, .int 0, .int 0]), aI ([.int (Int32.ofNat 0), .int (Int32.ofNat b0), .int (Int32.ofNat (b0 + b1))]), aJ ([.long (mkM b0), .long (mkM b1), .long (mkM b2)]), aJ ([.long 0]), aI ([.int s0, .int s1, .int s2])] 15 1084 := w
      refine s_astore (pc' := 268) (ls' := #[vJ r0, sc, vJ r1, sc, vJ r2, sc, vJ q1, sc, vJ q2, sc, vI sel, vI l0, vI u0, vI l1, vI u1, vI l2, vI u2, vR (n0 + 0), vR (n0 + 5), vI s0, vI s1, vI s2, vI (1 : Int32), vI (Int32.ofNat st'), vI xv, vR (n0 + 14), un, un, un, un, un, un, un]) w at_266 rfl rfl rfl ?_
      refine s_iconst (pc' := 269) (3 : Int32) w at_268 (by decide) rfl ?_
      refine s_newarray (pc' := 271) (ty := .int) w (t111 hw) rfl (by intro C h; cases h) at_269 (by decide) 3 (by decide) (by decide) (by decide) (by decide) 15 rfl rfl ?_
      intro T w
      replace w : St p l e _ s m _ below meth c Z _ _ _ _ h0 n0 T [o0 (.int 3) (.ref (n0 + 2)) (.int 3), o1 .null (.ref ti) (.int l0) (.int u0) (.int l0) .null, aO ([.ref (n0 + 1), .ref (n0 + 3), .ref (n0 + 4), .null, .null, .null, .null, .null, .null, .null]), o1 .null (.ref ti) (.int l1) (.int u1) (.int l1) .null, o1 .null (.ref ti) (.int l2) (.int u2) (.int l2) .null, sOb n0 6 7 8 9 10 11 12 1 13 0, aJ ([]), aI (List.replicate 1024 (Value.int (-1))), aI ([]), aI ([.int l0, .int l1, .int l2]), aI ([.int 0, .int 0, .int 0]), aI ([.int (Int32.ofNat 0), .int (Int32.ofNat b0), .int (Int32.ofNat (b0 + b1))]), aJ ([.long (mkM b0), .long (mkM b1), .long (mkM b2)]), aJ ([.long 0]), aI ([.int s0, .int s1, .int s2]), aI ([(.int 0), (.int 0), (.int 0)])] 16 1087 := w
      refine s_dup (pc' := 272) w at_271 rfl rfl ?_
      refine s_iconst (pc' := 273) (0 : Int32) w at_272 (by decide) rfl ?_
      refine s_iload (pc' := 275) w at_273 rfl rfl ?_
      refine s_iastore (pc' := 276) (k := 15) w rfl at_275 (by decide) (leB rfl) rfl ?_
      intro T w
      refine s_dup (pc' := 277) w at_276 rfl rfl ?_
      refine s_iconst (pc' := 278) (1 : Int32) w at_277 (by decide) rfl ?_
      refine s_iload (pc' := 280) w at_278 rfl rfl ?_
      refine s_iastore (pc' := 281) (k := 15) w rfl at_280 (by decide) (leB rfl) rfl ?_
      intro T w
      refine s_dup (pc' := 282) w at_281 rfl rfl ?_
      refine s_iconst (pc' := 283) (2 : Int32) w at_282 (by decide) rfl ?_
      refine s_iload (pc' := 285) w at_283 rfl rfl ?_
      refine s_iastore (pc' := 286) (k := 15) w rfl at_285 (by decide) (leB rfl) rfl ?_
      intro T w
      replace w : St p l e _ s m _ below meth c Z _ _ _ _ h0 n0 T [o0 (.int 3) (.ref (n0 + 2)) (.int 3), o1 .null (.ref ti) (.int l0) (.int u0) (.int l0) .null, aO ([.ref (n0 + 1), .ref (n0 + 3), .ref (n0 + 4), .null, .null, .null, .null, .null, .null, .null]), o1 .null (.ref ti) (.int l1) (.int u1) (.int l1) .null, o1 .null (.ref ti) (.int l2) (.int u2) (.int l2) .null, sOb n0 6 7 8 9 10 11 12 1 13 0, aJ ([]), aI (List.replicate 1024 (Value.int (-1))), aI ([]), aI ([.int l0, .int l1, .int l2]), aI ([.int 0, .int 0, .int 0]), aI ([.int (Int32.ofNat 0), .int (Int32.ofNat b0), .int (Int32.ofNat (b0 + b1))]), aJ ([.long (mkM b0), .long (mkM b1), .long (mkM b2)]), aJ ([.long 0]), aI ([.int s0, .int s1, .int s2]), aI ([.int s0, .int s1, .int s2])] 16 1087 := w
      refine s_astore (pc' := 288) (ls' := #[vJ r0, sc, vJ r1, sc, vJ r2, sc, vJ q1, sc, vJ q2, sc, vI sel, vI l0, vI u0, vI l1, vI u1, vI l2, vI u2, vR (n0 + 0), vR (n0 + 5), vI s0, vI s1, vI s2, vI (1 : Int32), vI (Int32.ofNat st'), vI xv, vR (n0 + 14), vR (n0 + 15), un, un, un, un, un, un]) w at_286 rfl rfl rfl ?_
      refine s_aload (pc' := 290) w at_288 rfl rfl rfl ?_
      refine s_iload (pc' := 292) w at_290 rfl rfl ?_
      refine s_iload (pc' := 294) w at_292 rfl rfl ?_
      refine s_iastore (pc' := 295) (k := 15) w rfl at_294 (by decide) (leB rfl) rfl ?_
      intro T w
      replace w : St p l e _ s m _ below meth c Z _ _ _ _ h0 n0 T [o0 (.int 3) (.ref (n0 + 2)) (.int 3), o1 .null (.ref ti) (.int l0) (.int u0) (.int l0) .null, aO ([.ref (n0 + 1), .ref (n0 + 3), .ref (n0 + 4), .null, .null, .null, .null, .null, .null, .null]), o1 .null (.ref ti) (.int l1) (.int u1) (.int l1) .null, o1 .null (.ref ti) (.int l2) (.int u2) (.int l2) .null, sOb n0 6 7 8 9 10 11 12 1 13 0, aJ ([]), aI (List.replicate 1024 (Value.int (-1))), aI ([]), aI ([.int l0, .int l1, .int l2]), aI ([.int 0, .int 0, .int 0]), aI ([.int (Int32.ofNat 0), .int (Int32.ofNat b0), .int (Int32.ofNat (b0 + b1))]), aJ ([.long (mkM b0), .long (mkM b1), .long (mkM b2)]), aJ ([.long 0]), aI ([.int s0, .int s1, .int s2]), aI ([.int s0, .int xv, .int s2])] 16 1087 := w
      refine s_lload (pc' := 297) w at_295 rfl rfl ?_
      refine s_lloadN (pc' := 298) w at_297 rfl rfl ?_
      refine s_lxor (pc' := 299) w at_298 rfl ?_
      generalize hww : (q2 ^^^ r0) = ww
      refine s_lstore (pc' := 301) (ls' := #[vJ r0, sc, vJ r1, sc, vJ r2, sc, vJ q1, sc, vJ q2, sc, vI sel, vI l0, vI u0, vI l1, vI u1, vI l2, vI u2, vR (n0 + 0), vR (n0 + 5), vI s0, vI s1, vI s2, vI (1 : Int32), vI (Int32.ofNat st'), vI xv, vR (n0 + 14), vR (n0 + 15), vJ ww, sc, un, un, un, un]) w at_299 rfl rfl ?_
      refine s_iconst (pc' := 302) (5 : Int32) w at_301 (by decide) rfl ?_
      refine s_newarray (pc' := 304) (ty := .long) w (t100 hw) rfl (by intro C h; cases h) at_302 (by decide) 5 (by decide) (by decide) (by decide) (by decide) 16 rfl rfl ?_
      intro T w
      replace w : St p l e _ s m _ below meth c Z _ _ _ _ h0 n0 T [o0 (.int 3) (.ref (n0 + 2)) (.int 3), o1 .null (.ref ti) (.int l0) (.int u0) (.int l0) .null, aO ([.ref (n0 + 1), .ref (n0 + 3), .ref (n0 + 4), .null, .null, .null, .null, .null, .null, .null]), o1 .null (.ref ti) (.int l1) (.int u1) (.int l1) .null, o1 .null (.ref ti) (.int l2) (.int u2) (.int l2) .null, sOb n0 6 7 8 9 10 11 12 1 13 0, aJ ([]), aI (List.replicate 1024 (Value.int (-1))), aI ([]), aI ([.int l0, .int l1, .int l2]), aI ([.int 0, .int 0, .int 0]), aI ([.int (Int32.ofNat 0), .int (Int32.ofNat b0), .int (Int32.ofNat (b0 + b1))]), aJ ([.long (mkM b0), .long (mkM b1), .long (mkM b2)]), aJ ([.long 0]), aI ([.int s0, .int s1, .int s2]), aI ([.int s0, .int xv, .int s2]), aJ ([(.long 0), (.long 0), (.long 0), (.long 0), (.long 0)])] 17 1092 := w
      refine s_dup (pc' := 305) w at_304 rfl rfl ?_
      refine s_iconst (pc' := 306) (0 : Int32) w at_305 (by decide) rfl ?_
      refine s_lload (pc' := 308) w at_306 rfl rfl ?_
      refine s_lastore (pc' := 309) (k := 16) w rfl at_308 (by decide) (leB rfl) rfl ?_
      intro T w
      refine s_dup (pc' := 310) w at_309 rfl rfl ?_
      refine s_iconst (pc' := 311) (1 : Int32) w at_310 (by decide) rfl ?_
      refine s_lload (pc' := 313) w at_311 rfl rfl ?_
      refine s_lastore (pc' := 314) (k := 16) w rfl at_313 (by decide) (leB rfl) rfl ?_
      intro T w
      refine s_dup (pc' := 315) w at_314 rfl rfl ?_
      refine s_iconst (pc' := 316) (2 : Int32) w at_315 (by decide) rfl ?_
      refine s_lload (pc' := 318) w at_316 rfl rfl ?_
      refine s_lastore (pc' := 319) (k := 16) w rfl at_318 (by decide) (leB rfl) rfl ?_
      intro T w
      refine s_dup (pc' := 320) w at_319 rfl rfl ?_
      refine s_iconst (pc' := 321) (3 : Int32) w at_320 (by decide) rfl ?_
      refine s_lload (pc' := 323) w at_321 rfl rfl ?_
      refine s_lastore (pc' := 324) (k := 16) w rfl at_323 (by decide) (leB rfl) rfl ?_
      intro T w
      refine s_dup (pc' := 325) w at_324 rfl rfl ?_
      refine s_iconst (pc' := 326) (4 : Int32) w at_325 (by decide) rfl ?_
      refine s_lload (pc' := 328) w at_326 rfl rfl ?_
      refine s_lastore (pc' := 329) (k := 16) w rfl at_328 (by decide) (leB rfl) rfl ?_
      intro T w
      replace w : St p l e _ s m _ below meth c Z _ _ _ _ h0 n0 T [o0 (.int 3) (.ref (n0 + 2)) (.int 3), o1 .null (.ref ti) (.int l0) (.int u0) (.int l0) .null, aO ([.ref (n0 + 1), .ref (n0 + 3), .ref (n0 + 4), .null, .null, .null, .null, .null, .null, .null]), o1 .null (.ref ti) (.int l1) (.int u1) (.int l1) .null, o1 .null (.ref ti) (.int l2) (.int u2) (.int l2) .null, sOb n0 6 7 8 9 10 11 12 1 13 0, aJ ([]), aI (List.replicate 1024 (Value.int (-1))), aI ([]), aI ([.int l0, .int l1, .int l2]), aI ([.int 0, .int 0, .int 0]), aI ([.int (Int32.ofNat 0), .int (Int32.ofNat b0), .int (Int32.ofNat (b0 + b1))]), aJ ([.long (mkM b0), .long (mkM b1), .long (mkM b2)]), aJ ([.long 0]), aI ([.int s0, .int s1, .int s2]), aI ([.int s0, .int xv, .int s2]), aJ ([.long ww, .long ww, .long ww, .long ww, .long ww])] 17 1092 := w
      refine s_astore (pc' := 331) (ls' := #[vJ r0, sc, vJ r1, sc, vJ r2, sc, vJ q1, sc, vJ q2, sc, vI sel, vI l0, vI u0, vI l1, vI u1, vI l2, vI u2, vR (n0 + 0), vR (n0 + 5), vI s0, vI s1, vI s2, vI (1 : Int32), vI (Int32.ofNat st'), vI xv, vR (n0 + 14), vR (n0 + 15), vJ ww, sc, vR (n0 + 16), un, un, un]) w at_329 rfl rfl rfl ?_
      refine s_iconst (pc' := 332) (5 : Int32) w at_331 (by decide) rfl ?_
      refine s_newarray (pc' := 334) (ty := .long) w (t100 hw) rfl (by intro C h; cases h) at_332 (by decide) 5 (by decide) (by decide) (by decide) (by decide) 17 rfl rfl ?_
      intro T w
      replace w : St p l e _ s m _ below meth c Z _ _ _ _ h0 n0 T [o0 (.int 3) (.ref (n0 + 2)) (.int 3), o1 .null (.ref ti) (.int l0) (.int u0) (.int l0) .null, aO ([.ref (n0 + 1), .ref (n0 + 3), .ref (n0 + 4), .null, .null, .null, .null, .null, .null, .null]), o1 .null (.ref ti) (.int l1) (.int u1) (.int l1) .null, o1 .null (.ref ti) (.int l2) (.int u2) (.int l2) .null, sOb n0 6 7 8 9 10 11 12 1 13 0, aJ ([]), aI (List.replicate 1024 (Value.int (-1))), aI ([]), aI ([.int l0, .int l1, .int l2]), aI ([.int 0, .int 0, .int 0]), aI ([.int (Int32.ofNat 0), .int (Int32.ofNat b0), .int (Int32.ofNat (b0 + b1))]), aJ ([.long (mkM b0), .long (mkM b1), .long (mkM b2)]), aJ ([.long 0]), aI ([.int s0, .int s1, .int s2]), aI ([.int s0, .int xv, .int s2]), aJ ([.long ww, .long ww, .long ww, .long ww, .long ww]), aJ ([(.long 0), (.long 0), (.long 0), (.long 0), (.long 0)])] 18 1097 := w
      refine s_dup (pc' := 335) w at_334 rfl rfl ?_
      refine s_iconst (pc' := 336) (0 : Int32) w at_335 (by decide) rfl ?_
      refine s_lload (pc' := 338) w at_336 rfl rfl ?_
      refine s_lastore (pc' := 339) (k := 17) w rfl at_338 (by decide) (leB rfl) rfl ?_
      intro T w
      refine s_dup (pc' := 340) w at_339 rfl rfl ?_
      refine s_iconst (pc' := 341) (1 : Int32) w at_340 (by decide) rfl ?_
      refine s_lload (pc' := 343) w at_341 rfl rfl ?_
      refine s_lastore (pc' := 344) (k := 17) w rfl at_343 (by decide) (leB rfl) rfl ?_
      intro T w
      refine s_dup (pc' := 345) w at_344 rfl rfl ?_
      refine s_iconst (pc' := 346) (2 : Int32) w at_345 (by decide) rfl ?_
      refine s_lload (pc' := 348) w at_346 rfl rfl ?_
      refine s_lastore (pc' := 349) (k := 17) w rfl at_348 (by decide) (leB rfl) rfl ?_
      intro T w
      refine s_dup (pc' := 350) w at_349 rfl rfl ?_
      refine s_iconst (pc' := 351) (3 : Int32) w at_350 (by decide) rfl ?_
      refine s_lload (pc' := 353) w at_351 rfl rfl ?_
      refine s_lastore (pc' := 354) (k := 17) w rfl at_353 (by decide) (leB rfl) rfl ?_
      intro T w
      refine s_dup (pc' := 355) w at_354 rfl rfl ?_
      refine s_iconst (pc' := 356) (4 : Int32) w at_355 (by decide) rfl ?_
      refine s_lload (pc' := 358) w at_356 rfl rfl ?_
      refine s_lastore (pc' := 359) (k := 17) w rfl at_358 (by decide) (leB rfl) rfl ?_
      intro T w
      replace w : St p l e _ s m _ below meth c Z _ _ _ _ h0 n0 T [o0 (.int 3) (.ref (n0 + 2)) (.int 3), o1 .null (.ref ti) (.int l0) (.int u0) (.int l0) .null, aO ([.ref (n0 + 1), .ref (n0 + 3), .ref (n0 + 4), .null, .null, .null, .null, .null, .null, .null]), o1 .null (.ref ti) (.int l1) (.int u1) (.int l1) .null, o1 .null (.ref ti) (.int l2) (.int u2) (.int l2) .null, sOb n0 6 7 8 9 10 11 12 1 13 0, aJ ([]), aI (List.replicate 1024 (Value.int (-1))), aI ([]), aI ([.int l0, .int l1, .int l2]), aI ([.int 0, .int 0, .int 0]), aI ([.int (Int32.ofNat 0), .int (Int32.ofNat b0), .int (Int32.ofNat (b0 + b1))]), aJ ([.long (mkM b0), .long (mkM b1), .long (mkM b2)]), aJ ([.long 0]), aI ([.int s0, .int s1, .int s2]), aI ([.int s0, .int xv, .int s2]), aJ ([.long ww, .long ww, .long ww, .long ww, .long ww]), aJ ([.long ww, .long ww, .long ww, .long ww, .long ww])] 18 1097 := w
      refine s_astore (pc' := 361) (ls' := #[vJ r0, sc, vJ r1, sc, vJ r2, sc, vJ q1, sc, vJ q2, sc, vI sel, vI l0, vI u0, vI l1, vI u1, vI l2, vI u2, vR (n0 + 0), vR (n0 + 5), vI s0, vI s1, vI s2, vI (1 : Int32), vI (Int32.ofNat st'), vI xv, vR (n0 + 14), vR (n0 + 15), vJ ww, sc, vR (n0 + 16), vR (n0 + 17), un, un]) w at_359 rfl rfl rfl ?_
      refine s_aload (pc' := 363) w at_361 rfl rfl rfl ?_
      refine s_aload (pc' := 365) w at_363 rfl rfl rfl ?_
      refine s_virtual (pc' := 368) (rest := []) 0 [(.ref (n0 + 14))] w (c_addOne1 hw l h0 n0 5 6 7 8 9 10 11 12 13 (n0 + 14) s0 s1 s2 l0 l1 l2 (Int32.ofNat 0) (Int32.ofNat b0) (Int32.ofNat (b0 + b1)) 0 _ rfl rfl rfl rfl rfl rfl rfl (Lk.new (k := 14) rfl) (by decide) (by decide) (by decide) (by decide) (ad_ne (by decide)) (by decide) (by decide) (by decide)) (Lk.new (k := 5) rfl) (t186 hw) (t187 hw) (w.notFace (t189 hw)) (t189 hw) (t188 hw) (t95 hw) (t190 hw) (by decide) pd23 at_365 (by decide) rfl rfl rfl rfl (Nat.le_of_eq rfl) rfl ?_
      intro T v L' hQ w
      obtain ⟨rfl, hL⟩ := hQ
      replace hL := hL.symm
      subst hL
      dsimp only [oS, oN, cA, nA]
      replace w : St p l e _ s m _ below meth c Z _ _ _ _ h0 n0 T [o0 (.int 3) (.ref (n0 + 2)) (.int 3), o1 .null (.ref ti) (.int l0) (.int u0) (.int l0) .null, aO ([.ref (n0 + 1), .ref (n0 + 3), .ref (n0 + 4), .null, .null, .null, .null, .null, .null, .null]), o1 .null (.ref ti) (.int l1) (.int u1) (.int l1) .null, o1 .null (.ref ti) (.int l2) (.int u2) (.int l2) .null, sOb n0 18 7 8 9 10 11 12 1 13 1, aJ ([]), aI ((List.replicate 1024 (Value.int (-1))).set ((hfin (hfold [((((0 : Int64) ||| (dS s0 l0 (Int32.ofNat 0))) ||| (dS s1 l1 (Int32.ofNat b0))) ||| (dS s2 l2 (Int32.ofNat (b0 + b1))))])) &&& (1023 : Int32)).toNatClampNeg (.int (entF 0 (hfin (hfold [((((0 : Int64) ||| (dS s0 l0 (Int32.ofNat 0))) ||| (dS s1 l1 (Int32.ofNat b0))) ||| (dS s2 l2 (Int32.ofNat (b0 + b1))))]))))), aI ([]), aI ([.int l0, .int l1, .int l2]), aI ([.int 0, .int 0, .int 0]), aI ([.int (Int32.ofNat 0), .int (Int32.ofNat b0), .int (Int32.ofNat (b0 + b1))]), aJ ([.long (mkM b0), .long (mkM b1), .long (mkM b2)]), aJ ([.long ((((0 : Int64) ||| (dS s0 l0 (Int32.ofNat 0))) ||| (dS s1 l1 (Int32.ofNat b0))) ||| (dS s2 l2 (Int32.ofNat (b0 + b1))))]), aI ([.int s0, .int s1, .int s2]), aI ([.int s0, .int xv, .int s2]), aJ ([.long ww, .long ww, .long ww, .long ww, .long ww]), aJ ([.long ww, .long ww, .long ww, .long ww, .long ww]), aJ ([.long ((((0 : Int64) ||| (dS s0 l0 (Int32.ofNat 0))) ||| (dS s1 l1 (Int32.ofNat b0))) ||| (dS s2 l2 (Int32.ofNat (b0 + b1))))] ++ List.replicate 1023 (.long 0))] 19 2121 := w
      generalize hA0 : ((((0 : Int64) ||| (dS s0 l0 (Int32.ofNat 0))) ||| (dS s1 l1 (Int32.ofNat b0))) ||| (dS s2 l2 (Int32.ofNat (b0 + b1)))) = A0 at w
      refine s_istore (pc' := 370) (ls' := #[vJ r0, sc, vJ r1, sc, vJ r2, sc, vJ q1, sc, vJ q2, sc, vI sel, vI l0, vI u0, vI l1, vI u1, vI l2, vI u2, vR (n0 + 0), vR (n0 + 5), vI s0, vI s1, vI s2, vI (1 : Int32), vI (Int32.ofNat st'), vI xv, vR (n0 + 14), vR (n0 + 15), vJ ww, sc, vR (n0 + 16), vR (n0 + 17), vI (0 : Int32), un]) w at_368 rfl rfl ?_
      refine s_aload (pc' := 372) w at_370 rfl rfl rfl ?_
      refine s_iload (pc' := 374) w at_372 rfl rfl ?_
      refine s_aload (pc' := 376) w at_374 rfl rfl rfl ?_
      refine s_iload (pc' := 378) w at_376 rfl rfl ?_
      change Go p e below _ T (mkF m 378 #[vJ r0, sc, vJ r1, sc, vJ r2, sc, vJ q1, sc, vJ q2, sc, vI sel, vI l0, vI u0, vI l1, vI u1, vI l2, vI u2, vR (n0 + 0), vR (n0 + 5), vI s0, vI s1, vI s2, vI (1 : Int32), vI (Int32.ofNat st'), vI xv, vR (n0 + 14), vR (n0 + 15), vJ ww, sc, vR (n0 + 16), vR (n0 + 17), vI (0 : Int32), un] [(.int (Int32.ofNat st')), (.ref (n0 + 16)), (.int (Int32.ofNat 0)), (.ref (n0 + 5))])
      refine s_virtual (pc' := 381) (rest := []) 0 [(.int (Int32.ofNat 0)), (.ref (n0 + 16)), (.int (Int32.ofNat st'))] w (c_key1 hw l h0 n0 5 18 7 8 9 10 11 12 13 1 16 0 st' _ [Value.long ww, Value.long ww, Value.long ww, Value.long ww, Value.long ww] _ rfl rfl rfl (by decide) (by omega) (by simp) (by simp; omega)) (Lk.new (k := 5) rfl) (t238 hw) (t239 hw) (w.notFace (t241 hw)) (t241 hw) (t240 hw) (t95 hw) (t242 hw) (by decide) pd24 at_378 (by decide) rfl rfl rfl rfl (Nat.le_of_eq rfl) rfl ?_
      intro T v L' hQ w
      obtain ⟨rfl, hL⟩ := hQ
      replace hL := hL.symm
      subst hL
      dsimp only [oS, oN, cA, nA]
      replace w : St p l e _ s m _ below meth c Z _ _ _ _ h0 n0 T [o0 (.int 3) (.ref (n0 + 2)) (.int 3), o1 .null (.ref ti) (.int l0) (.int u0) (.int l0) .null, aO ([.ref (n0 + 1), .ref (n0 + 3), .ref (n0 + 4), .null, .null, .null, .null, .null, .null, .null]), o1 .null (.ref ti) (.int l1) (.int u1) (.int l1) .null, o1 .null (.ref ti) (.int l2) (.int u2) (.int l2) .null, sOb n0 18 7 8 9 10 11 12 1 13 1, aJ ([]), aI ((List.replicate 1024 (Value.int (-1))).set ((hfin (hfold [A0])) &&& (1023 : Int32)).toNatClampNeg (.int (entF 0 (hfin (hfold [A0]))))), aI ([]), aI ([.int l0, .int l1, .int l2]), aI ([.int 0, .int 0, .int 0]), aI ([.int (Int32.ofNat 0), .int (Int32.ofNat b0), .int (Int32.ofNat (b0 + b1))]), aJ ([.long (mkM b0), .long (mkM b1), .long (mkM b2)]), aJ ([.long A0]), aI ([.int s0, .int s1, .int s2]), aI ([.int s0, .int xv, .int s2]), aJ (List.take st' [Value.long ww, Value.long ww, Value.long ww, Value.long ww, Value.long ww] ++ [Value.long A0] ++ List.drop (st' + 1) [Value.long ww, Value.long ww, Value.long ww, Value.long ww, Value.long ww]), aJ ([.long ww, .long ww, .long ww, .long ww, .long ww]), aJ ([.long A0] ++ List.replicate 1023 (.long 0))] 19 2121 := w
      refine s_aload (pc' := 383) w at_381 rfl rfl rfl ?_
      refine s_aload (pc' := 385) w at_383 rfl rfl rfl ?_
      refine s_iload (pc' := 387) w at_385 rfl rfl ?_
      refine s_iload (pc' := 389) w at_387 rfl rfl ?_
      refine s_iload (pc' := 391) w at_389 rfl rfl ?_
      refine s_virtual (pc' := 394) (rest := []) 0 [(.ref (n0 + 16)), (.int (Int32.ofNat st')), (.int (1 : Int32)), (.int xv)] w (c_set1_1 hw l h0 n0 5 18 7 8 9 10 11 12 13 1 16 st' xv l0 l1 l2 (Int32.ofNat 0) (Int32.ofNat b0) (Int32.ofNat (b0 + b1)) (mkM b0) (mkM b1) (mkM b2) A0 (List.take st' [Value.long ww, Value.long ww, Value.long ww, Value.long ww, Value.long ww] ++ [Value.long A0] ++ List.drop (st' + 1) [Value.long ww, Value.long ww, Value.long ww, Value.long ww, Value.long ww]) _ rfl rfl rfl rfl rfl rfl (by omega) (key_at1_0 hst')) (Lk.new (k := 5) rfl) (t243 hw) (t244 hw) (w.notFace (t246 hw)) (t246 hw) (t245 hw) (t95 hw) (t247 hw) (by decide) pd25 at_391 (by decide) rfl rfl rfl rfl (Nat.le_of_eq rfl) rfl ?_
      intro T v L' hQ w
      obtain ⟨rfl, hL⟩ := hQ
      replace hL := hL.symm
      subst hL
      dsimp only [oS, oN, cA, nA]
      replace w : St p l e _ s m _ below meth c Z _ _ _ _ h0 n0 T [o0 (.int 3) (.ref (n0 + 2)) (.int 3), o1 .null (.ref ti) (.int l0) (.int u0) (.int l0) .null, aO ([.ref (n0 + 1), .ref (n0 + 3), .ref (n0 + 4), .null, .null, .null, .null, .null, .null, .null]), o1 .null (.ref ti) (.int l1) (.int u1) (.int l1) .null, o1 .null (.ref ti) (.int l2) (.int u2) (.int l2) .null, sOb n0 18 7 8 9 10 11 12 1 13 1, aJ ([]), aI ((List.replicate 1024 (Value.int (-1))).set ((hfin (hfold [A0])) &&& (1023 : Int32)).toNatClampNeg (.int (entF 0 (hfin (hfold [A0]))))), aI ([]), aI ([.int l0, .int l1, .int l2]), aI ([.int 0, .int 0, .int 0]), aI ([.int (Int32.ofNat 0), .int (Int32.ofNat b0), .int (Int32.ofNat (b0 + b1))]), aJ ([.long (mkM b0), .long (mkM b1), .long (mkM b2)]), aJ ([.long A0]), aI ([.int s0, .int s1, .int s2]), aI ([.int s0, .int xv, .int s2]), aJ ((List.take st' [Value.long ww, Value.long ww, Value.long ww, Value.long ww, Value.long ww] ++ [Value.long A0] ++ List.drop (st' + 1) [Value.long ww, Value.long ww, Value.long ww, Value.long ww, Value.long ww]).set (st' + 0) (.long (setF A0 (mkM b1) (Int32.ofNat b0) xv l1))), aJ ([.long ww, .long ww, .long ww, .long ww, .long ww]), aJ ([.long A0] ++ List.replicate 1023 (.long 0))] 19 2121 := w
      refine s_aload (pc' := 396) w at_394 rfl rfl rfl ?_
      refine s_aload (pc' := 398) w at_396 rfl rfl rfl ?_
      refine s_virtual (pc' := 401) (rest := []) 0 [(.ref (n0 + 15))] w (c_addTwo1 hw l h0 n0 5 18 7 8 9 10 11 12 13 (n0 + 15) s0 xv s2 l0 l1 l2 (Int32.ofNat 0) (Int32.ofNat b0) (Int32.ofNat (b0 + b1)) A0 (hfin (hfold [A0])) A0 _ rfl rfl rfl rfl rfl rfl rfl (Lk.new (k := 15) rfl) (by decide) (by decide) (by decide) (by decide) (ad_ne (by decide)) (by decide) (by decide) (by decide) (by decide) (by decide)) (Lk.new (k := 5) rfl) (t186 hw) (t187 hw) (w.notFace (t189 hw)) (t189 hw) (t188 hw) (t95 hw) (t190 hw) (by decide) pd23 at_398 (by decide) rfl rfl rfl rfl (Nat.le_of_eq rfl) rfl ?_
      intro T v L' hQ w
      rcases hQ with ⟨rfl, hL, hz⟩ | ⟨rfl, tb, hL⟩
      · replace hL := hL.symm
        subst hL
        replace w : St p l e _ s m _ below meth c Z _ _ _ _ h0 n0 T [o0 (.int 3) (.ref (n0 + 2)) (.int 3), o1 .null (.ref ti) (.int l0) (.int u0) (.int l0) .null, aO ([.ref (n0 + 1), .ref (n0 + 3), .ref (n0 + 4), .null, .null, .null, .null, .null, .null, .null]), o1 .null (.ref ti) (.int l1) (.int u1) (.int l1) .null, o1 .null (.ref ti) (.int l2) (.int u2) (.int l2) .null, sOb n0 18 7 8 9 10 11 12 1 13 1, aJ ([]), aI ((List.replicate 1024 (Value.int (-1))).set ((hfin (hfold [A0])) &&& (1023 : Int32)).toNatClampNeg (.int (entF 0 (hfin (hfold [A0]))))), aI ([]), aI ([.int l0, .int l1, .int l2]), aI ([.int 0, .int 0, .int 0]), aI ([.int (Int32.ofNat 0), .int (Int32.ofNat b0), .int (Int32.ofNat (b0 + b1))]), aJ ([.long (mkM b0), .long (mkM b1), .long (mkM b2)]), aJ ([.long ((((0 : Int64) ||| (dS s0 l0 (Int32.ofNat 0))) ||| (dS xv l1 (Int32.ofNat b0))) ||| (dS s2 l2 (Int32.ofNat (b0 + b1))))]), aI ([.int s0, .int s1, .int s2]), aI ([.int s0, .int xv, .int s2]), aJ ((List.take st' [Value.long ww, Value.long ww, Value.long ww, Value.long ww, Value.long ww] ++ [Value.long A0] ++ List.drop (st' + 1) [Value.long ww, Value.long ww, Value.long ww, Value.long ww, Value.long ww]).set (st' + 0) (.long (setF A0 (mkM b1) (Int32.ofNat b0) xv l1))), aJ ([.long ww, .long ww, .long ww, .long ww, .long ww]), aJ ([.long A0] ++ List.replicate 1023 (.long 0))] 19 2121 := w
        change Go p e below _ T (mkF m 401 #[vJ r0, sc, vJ r1, sc, vJ r2, sc, vJ q1, sc, vJ q2, sc, vI sel, vI l0, vI u0, vI l1, vI u1, vI l2, vI u2, vR (n0 + 0), vR (n0 + 5), vI s0, vI s1, vI s2, vI (1 : Int32), vI (Int32.ofNat st'), vI xv, vR (n0 + 14), vR (n0 + 15), vJ ww, sc, vR (n0 + 16), vR (n0 + 17), vI (0 : Int32), un] [(.int (0 : Int32))])
        generalize hB0 : ((((0 : Int64) ||| (dS s0 l0 (Int32.ofNat 0))) ||| (dS xv l1 (Int32.ofNat b0))) ||| (dS s2 l2 (Int32.ofNat (b0 + b1)))) = B0 at w hz
        refine s_istore (pc' := 403) (ls' := #[vJ r0, sc, vJ r1, sc, vJ r2, sc, vJ q1, sc, vJ q2, sc, vI sel, vI l0, vI u0, vI l1, vI u1, vI l2, vI u2, vR (n0 + 0), vR (n0 + 5), vI s0, vI s1, vI s2, vI (1 : Int32), vI (Int32.ofNat st'), vI xv, vR (n0 + 14), vR (n0 + 15), vJ ww, sc, vR (n0 + 16), vR (n0 + 17), vI (0 : Int32), vI (0 : Int32)]) w at_401 rfl rfl ?_
        refine s_aload (pc' := 405) w at_403 rfl rfl rfl ?_
        refine s_iload (pc' := 407) w at_405 rfl rfl ?_
        refine s_aload (pc' := 409) w at_407 rfl rfl rfl ?_
        refine s_iload (pc' := 411) w at_409 rfl rfl ?_
        change Go p e below _ T (mkF m 411 #[vJ r0, sc, vJ r1, sc, vJ r2, sc, vJ q1, sc, vJ q2, sc, vI sel, vI l0, vI u0, vI l1, vI u1, vI l2, vI u2, vR (n0 + 0), vR (n0 + 5), vI s0, vI s1, vI s2, vI (1 : Int32), vI (Int32.ofNat st'), vI xv, vR (n0 + 14), vR (n0 + 15), vJ ww, sc, vR (n0 + 16), vR (n0 + 17), vI (0 : Int32), vI (0 : Int32)] [(.int (Int32.ofNat st')), (.ref (n0 + 17)), (.int (Int32.ofNat 0)), (.ref (n0 + 5))])
        refine s_virtual (pc' := 414) (rest := []) 0 [(.int (Int32.ofNat 0)), (.ref (n0 + 17)), (.int (Int32.ofNat st'))] w (c_key1 hw l h0 n0 5 18 7 8 9 10 11 12 13 1 17 0 st' _ [Value.long ww, Value.long ww, Value.long ww, Value.long ww, Value.long ww] _ rfl rfl rfl (by decide) (by omega) (by simp) (by simp; omega)) (Lk.new (k := 5) rfl) (t238 hw) (t239 hw) (w.notFace (t241 hw)) (t241 hw) (t240 hw) (t95 hw) (t242 hw) (by decide) pd24 at_411 (by decide) rfl rfl rfl rfl (Nat.le_of_eq rfl) rfl ?_
        intro T v L' hQ w
        obtain ⟨rfl, hL⟩ := hQ
        replace hL := hL.symm
        subst hL
        dsimp only [oS, oN, cA, nA]
        replace w : St p l e _ s m _ below meth c Z _ _ _ _ h0 n0 T [o0 (.int 3) (.ref (n0 + 2)) (.int 3), o1 .null (.ref ti) (.int l0) (.int u0) (.int l0) .null, aO ([.ref (n0 + 1), .ref (n0 + 3), .ref (n0 + 4), .null, .null, .null, .null, .null, .null, .null]), o1 .null (.ref ti) (.int l1) (.int u1) (.int l1) .null, o1 .null (.ref ti) (.int l2) (.int u2) (.int l2) .null, sOb n0 18 7 8 9 10 11 12 1 13 1, aJ ([]), aI ((List.replicate 1024 (Value.int (-1))).set ((hfin (hfold [A0])) &&& (1023 : Int32)).toNatClampNeg (.int (entF 0 (hfin (hfold [A0]))))), aI ([]), aI ([.int l0, .int l1, .int l2]), aI ([.int 0, .int 0, .int 0]), aI ([.int (Int32.ofNat 0), .int (Int32.ofNat b0), .int (Int32.ofNat (b0 + b1))]), aJ ([.long (mkM b0), .long (mkM b1), .long (mkM b2)]), aJ ([.long B0]), aI ([.int s0, .int s1, .int s2]), aI ([.int s0, .int xv, .int s2]), aJ ((List.take st' [Value.long ww, Value.long ww, Value.long ww, Value.long ww, Value.long ww] ++ [Value.long A0] ++ List.drop (st' + 1) [Value.long ww, Value.long ww, Value.long ww, Value.long ww, Value.long ww]).set (st' + 0) (.long (setF A0 (mkM b1) (Int32.ofNat b0) xv l1))), aJ (List.take st' [Value.long ww, Value.long ww, Value.long ww, Value.long ww, Value.long ww] ++ [Value.long A0] ++ List.drop (st' + 1) [Value.long ww, Value.long ww, Value.long ww, Value.long ww, Value.long ww]), aJ ([.long A0] ++ List.replicate 1023 (.long 0))] 19 2121 := w
        refine s_aload (pc' := 416) w at_414 rfl rfl rfl ?_
        refine s_iconst (pc' := 417) (0 : Int32) w at_416 (by decide) rfl ?_
        have hzz := hz
        have hset := set1_1 hb0 hb1 hb2 hsum los0 his0 hx0 los1 his1 hx1 los2 his2 hx2 loxv hixv
        rw [hA0, hB0] at hset
        have hEK : (List.take st' [Value.long ww, Value.long ww, Value.long ww, Value.long ww, Value.long ww] ++ [Value.long A0] ++ List.drop (st' + 1) [Value.long ww, Value.long ww, Value.long ww, Value.long ww, Value.long ww]).set (st' + 0) (.long (setF A0 (mkM b1) (Int32.ofNat b0) xv l1)) = List.take st' [Value.long ww, Value.long ww, Value.long ww, Value.long ww, Value.long ww] ++ [Value.long B0] ++ List.drop (st' + 1) [Value.long ww, Value.long ww, Value.long ww, Value.long ww, Value.long ww] := by rw [hset]; exact list_set1_0 hst'
        rw [hEK] at w
        rw [show (List.take st' [Value.long ww, Value.long ww, Value.long ww, Value.long ww, Value.long ww] ++ [Value.long A0] ++ List.drop (st' + 1) [Value.long ww, Value.long ww, Value.long ww, Value.long ww, Value.long ww]) = List.take st' [Value.long ww, Value.long ww, Value.long ww, Value.long ww, Value.long ww] ++ [Value.long B0] ++ List.drop (st' + 1) [Value.long ww, Value.long ww, Value.long ww, Value.long ww, Value.long ww] by rw [hz]] at w
        obtain ⟨z0, z1, z2, z3, z4, hz5⟩ := list_five1 (a := ww) (B0 := B0) hst'
        rw [hz5] at w
        refine s_laload (pc' := 418) (v := (.long z0)) w (Lk.new (k := 16) rfl) at_417 (by decide) rfl rfl ?_
        refine s_aload (pc' := 420) w at_418 rfl rfl rfl ?_
        refine s_iconst (pc' := 421) (0 : Int32) w at_420 (by decide) rfl ?_
        refine s_laload (pc' := 422) (v := (.long z0)) w (Lk.new (k := 17) rfl) at_421 (by decide) rfl rfl ?_
        refine s_lcmp (pc' := 423) w at_422 rfl ?_
        refine s_ifN (pc' := 426) w at_423 (Jvm.Free.XT.ll_ne_f rfl) rfl ?_
        refine s_aload (pc' := 428) w at_426 rfl rfl rfl ?_
        refine s_iconst (pc' := 429) (1 : Int32) w at_428 (by decide) rfl ?_
        refine s_laload (pc' := 430) (v := (.long z1)) w (Lk.new (k := 16) rfl) at_429 (by decide) rfl rfl ?_
        refine s_aload (pc' := 432) w at_430 rfl rfl rfl ?_
        refine s_iconst (pc' := 433) (1 : Int32) w at_432 (by decide) rfl ?_
        refine s_laload (pc' := 434) (v := (.long z1)) w (Lk.new (k := 17) rfl) at_433 (by decide) rfl rfl ?_
        refine s_lcmp (pc' := 435) w at_434 rfl ?_
        refine s_ifN (pc' := 438) w at_435 (Jvm.Free.XT.ll_ne_f rfl) rfl ?_
        refine s_aload (pc' := 440) w at_438 rfl rfl rfl ?_
        refine s_iconst (pc' := 441) (2 : Int32) w at_440 (by decide) rfl ?_
        refine s_laload (pc' := 442) (v := (.long z2)) w (Lk.new (k := 16) rfl) at_441 (by decide) rfl rfl ?_
        refine s_aload (pc' := 444) w at_442 rfl rfl rfl ?_
        refine s_iconst (pc' := 445) (2 : Int32) w at_444 (by decide) rfl ?_
        refine s_laload (pc' := 446) (v := (.long z2)) w (Lk.new (k := 17) rfl) at_445 (by decide) rfl rfl ?_
        refine s_lcmp (pc' := 447) w at_446 rfl ?_
        refine s_ifN (pc' := 450) w at_447 (Jvm.Free.XT.ll_ne_f rfl) rfl ?_
        refine s_aload (pc' := 452) w at_450 rfl rfl rfl ?_
        refine s_iconst (pc' := 453) (3 : Int32) w at_452 (by decide) rfl ?_
        refine s_laload (pc' := 454) (v := (.long z3)) w (Lk.new (k := 16) rfl) at_453 (by decide) rfl rfl ?_
        refine s_aload (pc' := 456) w at_454 rfl rfl rfl ?_
        refine s_iconst (pc' := 457) (3 : Int32) w at_456 (by decide) rfl ?_
        refine s_laload (pc' := 458) (v := (.long z3)) w (Lk.new (k := 17) rfl) at_457 (by decide) rfl rfl ?_
        refine s_lcmp (pc' := 459) w at_458 rfl ?_
        refine s_ifN (pc' := 462) w at_459 (Jvm.Free.XT.ll_ne_f rfl) rfl ?_
        refine s_aload (pc' := 464) w at_462 rfl rfl rfl ?_
        refine s_iconst (pc' := 465) (4 : Int32) w at_464 (by decide) rfl ?_
        refine s_laload (pc' := 466) (v := (.long z4)) w (Lk.new (k := 16) rfl) at_465 (by decide) rfl rfl ?_
        refine s_aload (pc' := 468) w at_466 rfl rfl rfl ?_
        refine s_iconst (pc' := 469) (4 : Int32) w at_468 (by decide) rfl ?_
        refine s_laload (pc' := 470) (v := (.long z4)) w (Lk.new (k := 17) rfl) at_469 (by decide) rfl rfl ?_
        refine s_lcmp (pc' := 471) w at_470 rfl ?_
        refine s_ifN (pc' := 474) w at_471 (Jvm.Free.XT.ll_ne_f rfl) rfl ?_
        refine s_iconst (pc' := 475) (1 : Int32) w at_474 (by decide) rfl ?_
        refine s_goto (pc' := 479) w at_475 (by decide) (by decide) ?_
        exact s_zreturn rfl w at_479 (by decide) (by decide) rfl
      · replace hL := hL.symm
        subst hL
        replace w : St p l e _ s m _ below meth c Z _ _ _ _ h0 n0 T [o0 (.int 3) (.ref (n0 + 2)) (.int 3), o1 .null (.ref ti) (.int l0) (.int u0) (.int l0) .null, aO ([.ref (n0 + 1), .ref (n0 + 3), .ref (n0 + 4), .null, .null, .null, .null, .null, .null, .null]), o1 .null (.ref ti) (.int l1) (.int u1) (.int l1) .null, o1 .null (.ref ti) (.int l2) (.int u2) (.int l2) .null, sOb n0 18 7 8 9 10 11 12 1 13 2, aJ ([]), aI (tb), aI ([]), aI ([.int l0, .int l1, .int l2]), aI ([.int 0, .int 0, .int 0]), aI ([.int (Int32.ofNat 0), .int (Int32.ofNat b0), .int (Int32.ofNat (b0 + b1))]), aJ ([.long (mkM b0), .long (mkM b1), .long (mkM b2)]), aJ ([.long ((((0 : Int64) ||| (dS s0 l0 (Int32.ofNat 0))) ||| (dS xv l1 (Int32.ofNat b0))) ||| (dS s2 l2 (Int32.ofNat (b0 + b1))))]), aI ([.int s0, .int s1, .int s2]), aI ([.int s0, .int xv, .int s2]), aJ ((List.take st' [Value.long ww, Value.long ww, Value.long ww, Value.long ww, Value.long ww] ++ [Value.long A0] ++ List.drop (st' + 1) [Value.long ww, Value.long ww, Value.long ww, Value.long ww, Value.long ww]).set (st' + 0) (.long (setF A0 (mkM b1) (Int32.ofNat b0) xv l1))), aJ ([.long ww, .long ww, .long ww, .long ww, .long ww]), aJ ([.long A0, .long ((((0 : Int64) ||| (dS s0 l0 (Int32.ofNat 0))) ||| (dS xv l1 (Int32.ofNat b0))) ||| (dS s2 l2 (Int32.ofNat (b0 + b1))))] ++ List.replicate 1022 (.long 0))] 19 2121 := w
        change Go p e below _ T (mkF m 401 #[vJ r0, sc, vJ r1, sc, vJ r2, sc, vJ q1, sc, vJ q2, sc, vI sel, vI l0, vI u0, vI l1, vI u1, vI l2, vI u2, vR (n0 + 0), vR (n0 + 5), vI s0, vI s1, vI s2, vI (1 : Int32), vI (Int32.ofNat st'), vI xv, vR (n0 + 14), vR (n0 + 15), vJ ww, sc, vR (n0 + 16), vR (n0 + 17), vI (0 : Int32), un] [(.int (1 : Int32))])
        generalize hB0 : ((((0 : Int64) ||| (dS s0 l0 (Int32.ofNat 0))) ||| (dS xv l1 (Int32.ofNat b0))) ||| (dS s2 l2 (Int32.ofNat (b0 + b1)))) = B0 at w
        refine s_istore (pc' := 403) (ls' := #[vJ r0, sc, vJ r1, sc, vJ r2, sc, vJ q1, sc, vJ q2, sc, vI sel, vI l0, vI u0, vI l1, vI u1, vI l2, vI u2, vR (n0 + 0), vR (n0 + 5), vI s0, vI s1, vI s2, vI (1 : Int32), vI (Int32.ofNat st'), vI xv, vR (n0 + 14), vR (n0 + 15), vJ ww, sc, vR (n0 + 16), vR (n0 + 17), vI (0 : Int32), vI (1 : Int32)]) w at_401 rfl rfl ?_
        refine s_aload (pc' := 405) w at_403 rfl rfl rfl ?_
        refine s_iload (pc' := 407) w at_405 rfl rfl ?_
        refine s_aload (pc' := 409) w at_407 rfl rfl rfl ?_
        refine s_iload (pc' := 411) w at_409 rfl rfl ?_
        change Go p e below _ T (mkF m 411 #[vJ r0, sc, vJ r1, sc, vJ r2, sc, vJ q1, sc, vJ q2, sc, vI sel, vI l0, vI u0, vI l1, vI u1, vI l2, vI u2, vR (n0 + 0), vR (n0 + 5), vI s0, vI s1, vI s2, vI (1 : Int32), vI (Int32.ofNat st'), vI xv, vR (n0 + 14), vR (n0 + 15), vJ ww, sc, vR (n0 + 16), vR (n0 + 17), vI (0 : Int32), vI (1 : Int32)] [(.int (Int32.ofNat st')), (.ref (n0 + 17)), (.int (Int32.ofNat 1)), (.ref (n0 + 5))])
        refine s_virtual (pc' := 414) (rest := []) 0 [(.int (Int32.ofNat 1)), (.ref (n0 + 17)), (.int (Int32.ofNat st'))] w (c_key1 hw l h0 n0 5 18 7 8 9 10 11 12 13 2 17 1 st' _ [Value.long ww, Value.long ww, Value.long ww, Value.long ww, Value.long ww] _ rfl rfl rfl (by decide) (by omega) (by simp) (by simp; omega)) (Lk.new (k := 5) rfl) (t238 hw) (t239 hw) (w.notFace (t241 hw)) (t241 hw) (t240 hw) (t95 hw) (t242 hw) (by decide) pd24 at_411 (by decide) rfl rfl rfl rfl (Nat.le_of_eq rfl) rfl ?_
        intro T v L' hQ w
        obtain ⟨rfl, hL⟩ := hQ
        replace hL := hL.symm
        subst hL
        dsimp only [oS, oN, cA, nA]
        replace w : St p l e _ s m _ below meth c Z _ _ _ _ h0 n0 T [o0 (.int 3) (.ref (n0 + 2)) (.int 3), o1 .null (.ref ti) (.int l0) (.int u0) (.int l0) .null, aO ([.ref (n0 + 1), .ref (n0 + 3), .ref (n0 + 4), .null, .null, .null, .null, .null, .null, .null]), o1 .null (.ref ti) (.int l1) (.int u1) (.int l1) .null, o1 .null (.ref ti) (.int l2) (.int u2) (.int l2) .null, sOb n0 18 7 8 9 10 11 12 1 13 2, aJ ([]), aI (tb), aI ([]), aI ([.int l0, .int l1, .int l2]), aI ([.int 0, .int 0, .int 0]), aI ([.int (Int32.ofNat 0), .int (Int32.ofNat b0), .int (Int32.ofNat (b0 + b1))]), aJ ([.long (mkM b0), .long (mkM b1), .long (mkM b2)]), aJ ([.long B0]), aI ([.int s0, .int s1, .int s2]), aI ([.int s0, .int xv, .int s2]), aJ ((List.take st' [Value.long ww, Value.long ww, Value.long ww, Value.long ww, Value.long ww] ++ [Value.long A0] ++ List.drop (st' + 1) [Value.long ww, Value.long ww, Value.long ww, Value.long ww, Value.long ww]).set (st' + 0) (.long (setF A0 (mkM b1) (Int32.ofNat b0) xv l1))), aJ (List.take st' [Value.long ww, Value.long ww, Value.long ww, Value.long ww, Value.long ww] ++ [Value.long B0] ++ List.drop (st' + 1) [Value.long ww, Value.long ww, Value.long ww, Value.long ww, Value.long ww]), aJ ([.long A0, .long B0] ++ List.replicate 1022 (.long 0))] 19 2121 := w
        refine s_aload (pc' := 416) w at_414 rfl rfl rfl ?_
        refine s_iconst (pc' := 417) (0 : Int32) w at_416 (by decide) rfl ?_
        have hset := set1_1 hb0 hb1 hb2 hsum los0 his0 hx0 los1 his1 hx1 los2 his2 hx2 loxv hixv
        rw [hA0, hB0] at hset
        have hEK : (List.take st' [Value.long ww, Value.long ww, Value.long ww, Value.long ww, Value.long ww] ++ [Value.long A0] ++ List.drop (st' + 1) [Value.long ww, Value.long ww, Value.long ww, Value.long ww, Value.long ww]).set (st' + 0) (.long (setF A0 (mkM b1) (Int32.ofNat b0) xv l1)) = List.take st' [Value.long ww, Value.long ww, Value.long ww, Value.long ww, Value.long ww] ++ [Value.long B0] ++ List.drop (st' + 1) [Value.long ww, Value.long ww, Value.long ww, Value.long ww, Value.long ww] := by rw [hset]; exact list_set1_0 hst'
        rw [hEK] at w
        obtain ⟨z0, z1, z2, z3, z4, hz5⟩ := list_five1 (a := ww) (B0 := B0) hst'
        rw [hz5] at w
        refine s_laload (pc' := 418) (v := (.long z0)) w (Lk.new (k := 16) rfl) at_417 (by decide) rfl rfl ?_
        refine s_aload (pc' := 420) w at_418 rfl rfl rfl ?_
        refine s_iconst (pc' := 421) (0 : Int32) w at_420 (by decide) rfl ?_
        refine s_laload (pc' := 422) (v := (.long z0)) w (Lk.new (k := 17) rfl) at_421 (by decide) rfl rfl ?_
        refine s_lcmp (pc' := 423) w at_422 rfl ?_
        refine s_ifN (pc' := 426) w at_423 (Jvm.Free.XT.ll_ne_f rfl) rfl ?_
        refine s_aload (pc' := 428) w at_426 rfl rfl rfl ?_
        refine s_iconst (pc' := 429) (1 : Int32) w at_428 (by decide) rfl ?_
        refine s_laload (pc' := 430) (v := (.long z1)) w (Lk.new (k := 16) rfl) at_429 (by decide) rfl rfl ?_
        refine s_aload (pc' := 432) w at_430 rfl rfl rfl ?_
        refine s_iconst (pc' := 433) (1 : Int32) w at_432 (by decide) rfl ?_
        refine s_laload (pc' := 434) (v := (.long z1)) w (Lk.new (k := 17) rfl) at_433 (by decide) rfl rfl ?_
        refine s_lcmp (pc' := 435) w at_434 rfl ?_
        refine s_ifN (pc' := 438) w at_435 (Jvm.Free.XT.ll_ne_f rfl) rfl ?_
        refine s_aload (pc' := 440) w at_438 rfl rfl rfl ?_
        refine s_iconst (pc' := 441) (2 : Int32) w at_440 (by decide) rfl ?_
        refine s_laload (pc' := 442) (v := (.long z2)) w (Lk.new (k := 16) rfl) at_441 (by decide) rfl rfl ?_
        refine s_aload (pc' := 444) w at_442 rfl rfl rfl ?_
        refine s_iconst (pc' := 445) (2 : Int32) w at_444 (by decide) rfl ?_
        refine s_laload (pc' := 446) (v := (.long z2)) w (Lk.new (k := 17) rfl) at_445 (by decide) rfl rfl ?_
        refine s_lcmp (pc' := 447) w at_446 rfl ?_
        refine s_ifN (pc' := 450) w at_447 (Jvm.Free.XT.ll_ne_f rfl) rfl ?_
        refine s_aload (pc' := 452) w at_450 rfl rfl rfl ?_
        refine s_iconst (pc' := 453) (3 : Int32) w at_452 (by decide) rfl ?_
        refine s_laload (pc' := 454) (v := (.long z3)) w (Lk.new (k := 16) rfl) at_453 (by decide) rfl rfl ?_
        refine s_aload (pc' := 456) w at_454 rfl rfl rfl ?_
        refine s_iconst (pc' := 457) (3 : Int32) w at_456 (by decide) rfl ?_
        refine s_laload (pc' := 458) (v := (.long z3)) w (Lk.new (k := 17) rfl) at_457 (by decide) rfl rfl ?_
        refine s_lcmp (pc' := 459) w at_458 rfl ?_
        refine s_ifN (pc' := 462) w at_459 (Jvm.Free.XT.ll_ne_f rfl) rfl ?_
        refine s_aload (pc' := 464) w at_462 rfl rfl rfl ?_
        refine s_iconst (pc' := 465) (4 : Int32) w at_464 (by decide) rfl ?_
        refine s_laload (pc' := 466) (v := (.long z4)) w (Lk.new (k := 16) rfl) at_465 (by decide) rfl rfl ?_
        refine s_aload (pc' := 468) w at_466 rfl rfl rfl ?_
        refine s_iconst (pc' := 469) (4 : Int32) w at_468 (by decide) rfl ?_
        refine s_laload (pc' := 470) (v := (.long z4)) w (Lk.new (k := 17) rfl) at_469 (by decide) rfl rfl ?_
        refine s_lcmp (pc' := 471) w at_470 rfl ?_
        refine s_ifN (pc' := 474) w at_471 (Jvm.Free.XT.ll_ne_f rfl) rfl ?_
        refine s_iconst (pc' := 475) (1 : Int32) w at_474 (by decide) rfl ?_
        refine s_goto (pc' := 479) w at_475 (by decide) (by decide) ?_
        exact s_zreturn rfl w at_479 (by decide) (by decide) rfl
    · change Go p e below _ T (mkF m 191 #[vJ r0, sc, vJ r1, sc, vJ r2, sc, vJ q1, sc, vJ q2, sc, vI sel, vI l0, vI u0, vI l1, vI u1, vI l2, vI u2, vR (n0 + 0), vR (n0 + 5), vI s0, vI s1, vI s2, vI (2 : Int32), vI (Int32.ofNat st'), un, un, un, un, un, un, un, un, un] [(.int (2 : Int32))])
      refine s_ifY (pc' := 211) w at_191 (Jvm.Free.XT.i0_ne_t (by decide)) (by decide) (by decide) ?_
      refine s_iload (pc' := 213) w at_211 rfl rfl ?_
      refine s_iconst (pc' := 214) (1 : Int32) w at_213 (by decide) rfl ?_
      refine s_icmpY (pc' := 234) w at_214 (Jvm.Free.XT.ii_ne_t (by decide)) (by decide) (by decide) ?_
      refine s_iload (pc' := 236) w at_234 rfl rfl ?_
      refine s_iload (pc' := 238) w at_236 rfl rfl ?_
      refine s_lload (pc' := 240) w at_238 rfl rfl ?_
      refine s_bipush (pc' := 242) (32 : Int32) w at_240 (by decide) rfl ?_
      refine s_lushr (pc' := 243) w at_242 rfl ?_
      refine s_static (pc' := 246) (rest := []) 0 [(.int l2), (.int u2), (.long (Jvm.Free.XT.ushrL q2 (32 : Int32)))] w (c_pick hw l h0 n0 l2 u2 (Jvm.Free.XT.ushrL q2 (32 : Int32)) _ hl2) (t183 hw) (t184 hw) (t2 hw) (t185 hw) (by decide) pd22 at_243 (by decide) rfl rfl rfl rfl (Nat.le_of_eq rfl) rfl ?_
      intro T v L' hQ w
      obtain ⟨xv, rfl, loxv, hixv, hL⟩ := hQ
      replace hL := hL.symm
      subst hL
      dsimp only [oS, oN, cA, nA]
      refine s_istore (pc' := 248) (ls' := #[vJ r0, sc, vJ r1, sc, vJ r2, sc, vJ q1, sc, vJ q2, sc, vI sel, vI l0, vI u0, vI l1, vI u1, vI l2, vI u2, vR (n0 + 0), vR (n0 + 5), vI s0, vI s1, vI s2, vI (2 : Int32), vI (Int32.ofNat st'), vI xv, un, un, un, un, un, un, un, un]) w at_246 rfl rfl ?_
      refine s_iconst (pc' := 249) (3 : Int32) w at_248 (by decide) rfl ?_
      refine s_newarray (pc' := 251) (ty := .int) w (t111 hw) rfl (by intro C h; cases h) at_249 (by decide) 3 (by decide) (by decide) (by decide) (by decide) 14 rfl rfl ?_
      intro T w
      replace w : St p l e _ s m _ below meth c Z _ _ _ _ h0 n0 T [o0 (.int 3) (.ref (n0 + 2)) (.int 3), o1 .null (.ref ti) (.int l0) (.int u0) (.int l0) .null, aO ([.ref (n0 + 1), .ref (n0 + 3), .ref (n0 + 4), .null, .null, .null, .null, .null, .null, .null]), o1 .null (.ref ti) (.int l1) (.int u1) (.int l1) .null, o1 .null (.ref ti) (.int l2) (.int u2) (.int l2) .null, sOb n0 6 7 8 9 10 11 12 1 13 0, aJ ([]), aI (List.replicate 1024 (Value.int (-1))), aI ([]), aI ([.int l0, .int l1, .int l2]), aI ([.int 0, .int 0, .int 0]), aI ([.int (Int32.ofNat 0), .int (Int32.ofNat b0), .int (Int32.ofNat (b0 + b1))]), aJ ([.long (mkM b0), .long (mkM b1), .long (mkM b2)]), aJ ([.long 0]), aI ([(.int 0), (.int 0), (.int 0)])] 15 1084 := w
      refine s_dup (pc' := 252) w at_251 rfl rfl ?_
      refine s_iconst (pc' := 253) (0 : Int32) w at_252 (by decide) rfl ?_
      refine s_iload (pc' := 255) w at_253 rfl rfl ?_
      refine s_iastore (pc' := 256) (k := 14) w rfl at_255 (by decide) (leB rfl) rfl ?_
      intro T w
      refine s_dup (pc' := 257) w at_256 rfl rfl ?_
      refine s_iconst (pc' := 258) (1 : Int32) w at_257 (by decide) rfl ?_
      refine s_iload (pc' := 260) w at_258 rfl rfl ?_
      refine s_iastore (pc' := 261) (k := 14) w rfl at_260 (by decide) (leB rfl) rfl ?_
      intro T w
      refine s_dup (pc' := 262) w at_261 rfl rfl ?_
      refine s_iconst (pc' := 263) (2 : Int32) w at_262 (by decide) rfl ?_
      refine s_iload (pc' := 265) w at_263 rfl rfl ?_
      refine s_iastore (pc' := 266) (k := 14) w rfl at_265 (by decide) (leB rfl) rfl ?_
      intro T w
      replace w : St p l e _ s m _ below meth c Z _ _ _ _ h0 n0 T [o0 (.int 3) (.ref (n0 + 2)) (.int 3), o1 .null (.ref ti) (.int l0) (.int u0) (.int l0) .null, aO ([.ref (n0 + 1), .ref (n0 + 3), .ref (n0 + 4), .null, .null, .null, .null, .null, .null, .null]), o1 .null (.ref ti) (.int l1) (.int u1) (.int l1) .null, o1 .null (.ref ti) (.int l2) (.int u2) (.int l2) .null, sOb n0 6 7 8 9 10 11 12 1 13 0, aJ ([]), aI (List.replicate 1024 (Value.int (-1))), aI ([]), aI ([.int l0, .int l1, .int l2]), aI ([.int 0, .int 0, .int 0]), aI ([.int (Int32.ofNat 0), .int (Int32.ofNat b0), .int (Int32.ofNat (b0 + b1))]), aJ ([.long (mkM b0), .long (mkM b1), .long (mkM b2)]), aJ ([.long 0]), aI ([.int s0, .int s1, .int s2])] 15 1084 := w
      refine s_astore (pc' := 268) (ls' := #[vJ r0, sc, vJ r1, sc, vJ r2, sc, vJ q1, sc, vJ q2, sc, vI sel, vI l0, vI u0, vI l1, vI u1, vI l2, vI u2, vR (n0 + 0), vR (n0 + 5), vI s0, vI s1, vI s2, vI (2 : Int32), vI (Int32.ofNat st'), vI xv, vR (n0 + 14), un, un, un, un, un, un, un]) w at_266 rfl rfl rfl ?_
      refine s_iconst (pc' := 269) (3 : Int32) w at_268 (by decide) rfl ?_
      refine s_newarray (pc' := 271) (ty := .int) w (t111 hw) rfl (by intro C h; cases h) at_269 (by decide) 3 (by decide) (by decide) (by decide) (by decide) 15 rfl rfl ?_
      intro T w
      replace w : St p l e _ s m _ below meth c Z _ _ _ _ h0 n0 T [o0 (.int 3) (.ref (n0 + 2)) (.int 3), o1 .null (.ref ti) (.int l0) (.int u0) (.int l0) .null, aO ([.ref (n0 + 1), .ref (n0 + 3), .ref (n0 + 4), .null, .null, .null, .null, .null, .null, .null]), o1 .null (.ref ti) (.int l1) (.int u1) (.int l1) .null, o1 .null (.ref ti) (.int l2) (.int u2) (.int l2) .null, sOb n0 6 7 8 9 10 11 12 1 13 0, aJ ([]), aI (List.replicate 1024 (Value.int (-1))), aI ([]), aI ([.int l0, .int l1, .int l2]), aI ([.int 0, .int 0, .int 0]), aI ([.int (Int32.ofNat 0), .int (Int32.ofNat b0), .int (Int32.ofNat (b0 + b1))]), aJ ([.long (mkM b0), .long (mkM b1), .long (mkM b2)]), aJ ([.long 0]), aI ([.int s0, .int s1, .int s2]), aI ([(.int 0), (.int 0), (.int 0)])] 16 1087 := w
      refine s_dup (pc' := 272) w at_271 rfl rfl ?_
      refine s_iconst (pc' := 273) (0 : Int32) w at_272 (by decide) rfl ?_
      refine s_iload (pc' := 275) w at_273 rfl rfl ?_
      refine s_iastore (pc' := 276) (k := 15) w rfl at_275 (by decide) (leB rfl) rfl ?_
      intro T w
      refine s_dup (pc' := 277) w at_276 rfl rfl ?_
      refine s_iconst (pc' := 278) (1 : Int32) w at_277 (by decide) rfl ?_
      refine s_iload (pc' := 280) w at_278 rfl rfl ?_
      refine s_iastore (pc' := 281) (k := 15) w rfl at_280 (by decide) (leB rfl) rfl ?_
      intro T w
      refine s_dup (pc' := 282) w at_281 rfl rfl ?_
      refine s_iconst (pc' := 283) (2 : Int32) w at_282 (by decide) rfl ?_
      refine s_iload (pc' := 285) w at_283 rfl rfl ?_
      refine s_iastore (pc' := 286) (k := 15) w rfl at_285 (by decide) (leB rfl) rfl ?_
      intro T w
      replace w : St p l e _ s m _ below meth c Z _ _ _ _ h0 n0 T [o0 (.int 3) (.ref (n0 + 2)) (.int 3), o1 .null (.ref ti) (.int l0) (.int u0) (.int l0) .null, aO ([.ref (n0 + 1), .ref (n0 + 3), .ref (n0 + 4), .null, .null, .null, .null, .null, .null, .null]), o1 .null (.ref ti) (.int l1) (.int u1) (.int l1) .null, o1 .null (.ref ti) (.int l2) (.int u2) (.int l2) .null, sOb n0 6 7 8 9 10 11 12 1 13 0, aJ ([]), aI (List.replicate 1024 (Value.int (-1))), aI ([]), aI ([.int l0, .int l1, .int l2]), aI ([.int 0, .int 0, .int 0]), aI ([.int (Int32.ofNat 0), .int (Int32.ofNat b0), .int (Int32.ofNat (b0 + b1))]), aJ ([.long (mkM b0), .long (mkM b1), .long (mkM b2)]), aJ ([.long 0]), aI ([.int s0, .int s1, .int s2]), aI ([.int s0, .int s1, .int s2])] 16 1087 := w
      refine s_astore (pc' := 288) (ls' := #[vJ r0, sc, vJ r1, sc, vJ r2, sc, vJ q1, sc, vJ q2, sc, vI sel, vI l0, vI u0, vI l1, vI u1, vI l2, vI u2, vR (n0 + 0), vR (n0 + 5), vI s0, vI s1, vI s2, vI (2 : Int32), vI (Int32.ofNat st'), vI xv, vR (n0 + 14), vR (n0 + 15), un, un, un, un, un, un]) w at_286 rfl rfl rfl ?_
      refine s_aload (pc' := 290) w at_288 rfl rfl rfl ?_
      refine s_iload (pc' := 292) w at_290 rfl rfl ?_
      refine s_iload (pc' := 294) w at_292 rfl rfl ?_
      refine s_iastore (pc' := 295) (k := 15) w rfl at_294 (by decide) (leB rfl) rfl ?_
      intro T w
      replace w : St p l e _ s m _ below meth c Z _ _ _ _ h0 n0 T [o0 (.int 3) (.ref (n0 + 2)) (.int 3), o1 .null (.ref ti) (.int l0) (.int u0) (.int l0) .null, aO ([.ref (n0 + 1), .ref (n0 + 3), .ref (n0 + 4), .null, .null, .null, .null, .null, .null, .null]), o1 .null (.ref ti) (.int l1) (.int u1) (.int l1) .null, o1 .null (.ref ti) (.int l2) (.int u2) (.int l2) .null, sOb n0 6 7 8 9 10 11 12 1 13 0, aJ ([]), aI (List.replicate 1024 (Value.int (-1))), aI ([]), aI ([.int l0, .int l1, .int l2]), aI ([.int 0, .int 0, .int 0]), aI ([.int (Int32.ofNat 0), .int (Int32.ofNat b0), .int (Int32.ofNat (b0 + b1))]), aJ ([.long (mkM b0), .long (mkM b1), .long (mkM b2)]), aJ ([.long 0]), aI ([.int s0, .int s1, .int s2]), aI ([.int s0, .int s1, .int xv])] 16 1087 := w
      refine s_lload (pc' := 297) w at_295 rfl rfl ?_
      refine s_lloadN (pc' := 298) w at_297 rfl rfl ?_
      refine s_lxor (pc' := 299) w at_298 rfl ?_
      generalize hww : (q2 ^^^ r0) = ww
      refine s_lstore (pc' := 301) (ls' := #[vJ r0, sc, vJ r1, sc, vJ r2, sc, vJ q1, sc, vJ q2, sc, vI sel, vI l0, vI u0, vI l1, vI u1, vI l2, vI u2, vR (n0 + 0), vR (n0 + 5), vI s0, vI s1, vI s2, vI (2 : Int32), vI (Int32.ofNat st'), vI xv, vR (n0 + 14), vR (n0 + 15), vJ ww, sc, un, un, un, un]) w at_299 rfl rfl ?_
      refine s_iconst (pc' := 302) (5 : Int32) w at_301 (by decide) rfl ?_
      refine s_newarray (pc' := 304) (ty := .long) w (t100 hw) rfl (by intro C h; cases h) at_302 (by decide) 5 (by decide) (by decide) (by decide) (by decide) 16 rfl rfl ?_
      intro T w
      replace w : St p l e _ s m _ below meth c Z _ _ _ _ h0 n0 T [o0 (.int 3) (.ref (n0 + 2)) (.int 3), o1 .null (.ref ti) (.int l0) (.int u0) (.int l0) .null, aO ([.ref (n0 + 1), .ref (n0 + 3), .ref (n0 + 4), .null, .null, .null, .null, .null, .null, .null]), o1 .null (.ref ti) (.int l1) (.int u1) (.int l1) .null, o1 .null (.ref ti) (.int l2) (.int u2) (.int l2) .null, sOb n0 6 7 8 9 10 11 12 1 13 0, aJ ([]), aI (List.replicate 1024 (Value.int (-1))), aI ([]), aI ([.int l0, .int l1, .int l2]), aI ([.int 0, .int 0, .int 0]), aI ([.int (Int32.ofNat 0), .int (Int32.ofNat b0), .int (Int32.ofNat (b0 + b1))]), aJ ([.long (mkM b0), .long (mkM b1), .long (mkM b2)]), aJ ([.long 0]), aI ([.int s0, .int s1, .int s2]), aI ([.int s0, .int s1, .int xv]), aJ ([(.long 0), (.long 0), (.long 0), (.long 0), (.long 0)])] 17 1092 := w
      refine s_dup (pc' := 305) w at_304 rfl rfl ?_
      refine s_iconst (pc' := 306) (0 : Int32) w at_305 (by decide) rfl ?_
      refine s_lload (pc' := 308) w at_306 rfl rfl ?_
      refine s_lastore (pc' := 309) (k := 16) w rfl at_308 (by decide) (leB rfl) rfl ?_
      intro T w
      refine s_dup (pc' := 310) w at_309 rfl rfl ?_
      refine s_iconst (pc' := 311) (1 : Int32) w at_310 (by decide) rfl ?_
      refine s_lload (pc' := 313) w at_311 rfl rfl ?_
      refine s_lastore (pc' := 314) (k := 16) w rfl at_313 (by decide) (leB rfl) rfl ?_
      intro T w
      refine s_dup (pc' := 315) w at_314 rfl rfl ?_
      refine s_iconst (pc' := 316) (2 : Int32) w at_315 (by decide) rfl ?_
      refine s_lload (pc' := 318) w at_316 rfl rfl ?_
      refine s_lastore (pc' := 319) (k := 16) w rfl at_318 (by decide) (leB rfl) rfl ?_
      intro T w
      refine s_dup (pc' := 320) w at_319 rfl rfl ?_
      refine s_iconst (pc' := 321) (3 : Int32) w at_320 (by decide) rfl ?_
      refine s_lload (pc' := 323) w at_321 rfl rfl ?_
      refine s_lastore (pc' := 324) (k := 16) w rfl at_323 (by decide) (leB rfl) rfl ?_
      intro T w
      refine s_dup (pc' := 325) w at_324 rfl rfl ?_
      refine s_iconst (pc' := 326) (4 : Int32) w at_325 (by decide) rfl ?_
      refine s_lload (pc' := 328) w at_326 rfl rfl ?_
      refine s_lastore (pc' := 329) (k := 16) w rfl at_328 (by decide) (leB rfl) rfl ?_
      intro T w
      replace w : St p l e _ s m _ below meth c Z _ _ _ _ h0 n0 T [o0 (.int 3) (.ref (n0 + 2)) (.int 3), o1 .null (.ref ti) (.int l0) (.int u0) (.int l0) .null, aO ([.ref (n0 + 1), .ref (n0 + 3), .ref (n0 + 4), .null, .null, .null, .null, .null, .null, .null]), o1 .null (.ref ti) (.int l1) (.int u1) (.int l1) .null, o1 .null (.ref ti) (.int l2) (.int u2) (.int l2) .null, sOb n0 6 7 8 9 10 11 12 1 13 0, aJ ([]), aI (List.replicate 1024 (Value.int (-1))), aI ([]), aI ([.int l0, .int l1, .int l2]), aI ([.int 0, .int 0, .int 0]), aI ([.int (Int32.ofNat 0), .int (Int32.ofNat b0), .int (Int32.ofNat (b0 + b1))]), aJ ([.long (mkM b0), .long (mkM b1), .long (mkM b2)]), aJ ([.long 0]), aI ([.int s0, .int s1, .int s2]), aI ([.int s0, .int s1, .int xv]), aJ ([.long ww, .long ww, .long ww, .long ww, .long ww])] 17 1092 := w
      refine s_astore (pc' := 331) (ls' := #[vJ r0, sc, vJ r1, sc, vJ r2, sc, vJ q1, sc, vJ q2, sc, vI sel, vI l0, vI u0, vI l1, vI u1, vI l2, vI u2, vR (n0 + 0), vR (n0 + 5), vI s0, vI s1, vI s2, vI (2 : Int32), vI (Int32.ofNat st'), vI xv, vR (n0 + 14), vR (n0 + 15), vJ ww, sc, vR (n0 + 16), un, un, un]) w at_329 rfl rfl rfl ?_
      refine s_iconst (pc' := 332) (5 : Int32) w at_331 (by decide) rfl ?_
      refine s_newarray (pc' := 334) (ty := .long) w (t100 hw) rfl (by intro C h; cases h) at_332 (by decide) 5 (by decide) (by decide) (by decide) (by decide) 17 rfl rfl ?_
      intro T w
      replace w : St p l e _ s m _ below meth c Z _ _ _ _ h0 n0 T [o0 (.int 3) (.ref (n0 + 2)) (.int 3), o1 .null (.ref ti) (.int l0) (.int u0) (.int l0) .null, aO ([.ref (n0 + 1), .ref (n0 + 3), .ref (n0 + 4), .null, .null, .null, .null, .null, .null, .null]), o1 .null (.ref ti) (.int l1) (.int u1) (.int l1) .null, o1 .null (.ref ti) (.int l2) (.int u2) (.int l2) .null, sOb n0 6 7 8 9 10 11 12 1 13 0, aJ ([]), aI (List.replicate 1024 (Value.int (-1))), aI ([]), aI ([.int l0, .int l1, .int l2]), aI ([.int 0, .int 0, .int 0]), aI ([.int (Int32.ofNat 0), .int (Int32.ofNat b0), .int (Int32.ofNat (b0 + b1))]), aJ ([.long (mkM b0), .long (mkM b1), .long (mkM b2)]), aJ ([.long 0]), aI ([.int s0, .int s1, .int s2]), aI ([.int s0, .int s1, .int xv]), aJ ([.long ww, .long ww, .long ww, .long ww, .long ww]), aJ ([(.long 0), (.long 0), (.long 0), (.long 0), (.long 0)])] 18 1097 := w
      refine s_dup (pc' := 335) w at_334 rfl rfl ?_
      refine s_iconst (pc' := 336) (0 : Int32) w at_335 (by decide) rfl ?_
      refine s_lload (pc' := 338) w at_336 rfl rfl ?_
      refine s_lastore (pc' := 339) (k := 17) w rfl at_338 (by decide) (leB rfl) rfl ?_
      intro T w
      refine s_dup (pc' := 340) w at_339 rfl rfl ?_
      refine s_iconst (pc' := 341) (1 : Int32) w at_340 (by decide) rfl ?_
      refine s_lload (pc' := 343) w at_341 rfl rfl ?_
      refine s_lastore (pc' := 344) (k := 17) w rfl at_343 (by decide) (leB rfl) rfl ?_
      intro T w
      refine s_dup (pc' := 345) w at_344 rfl rfl ?_
      refine s_iconst (pc' := 346) (2 : Int32) w at_345 (by decide) rfl ?_
      refine s_lload (pc' := 348) w at_346 rfl rfl ?_
      refine s_lastore (pc' := 349) (k := 17) w rfl at_348 (by decide) (leB rfl) rfl ?_
      intro T w
      refine s_dup (pc' := 350) w at_349 rfl rfl ?_
      refine s_iconst (pc' := 351) (3 : Int32) w at_350 (by decide) rfl ?_
      refine s_lload (pc' := 353) w at_351 rfl rfl ?_
      refine s_lastore (pc' := 354) (k := 17) w rfl at_353 (by decide) (leB rfl) rfl ?_
      intro T w
      refine s_dup (pc' := 355) w at_354 rfl rfl ?_
      refine s_iconst (pc' := 356) (4 : Int32) w at_355 (by decide) rfl ?_
      refine s_lload (pc' := 358) w at_356 rfl rfl ?_
      refine s_lastore (pc' := 359) (k := 17) w rfl at_358 (by decide) (leB rfl) rfl ?_
      intro T w
      replace w : St p l e _ s m _ below meth c Z _ _ _ _ h0 n0 T [o0 (.int 3) (.ref (n0 + 2)) (.int 3), o1 .null (.ref ti) (.int l0) (.int u0) (.int l0) .null, aO ([.ref (n0 + 1), .ref (n0 + 3), .ref (n0 + 4), .null, .null, .null, .null, .null, .null, .null]), o1 .null (.ref ti) (.int l1) (.int u1) (.int l1) .null, o1 .null (.ref ti) (.int l2) (.int u2) (.int l2) .null, sOb n0 6 7 8 9 10 11 12 1 13 0, aJ ([]), aI (List.replicate 1024 (Value.int (-1))), aI ([]), aI ([.int l0, .int l1, .int l2]), aI ([.int 0, .int 0, .int 0]), aI ([.int (Int32.ofNat 0), .int (Int32.ofNat b0), .int (Int32.ofNat (b0 + b1))]), aJ ([.long (mkM b0), .long (mkM b1), .long (mkM b2)]), aJ ([.long 0]), aI ([.int s0, .int s1, .int s2]), aI ([.int s0, .int s1, .int xv]), aJ ([.long ww, .long ww, .long ww, .long ww, .long ww]), aJ ([.long ww, .long ww, .long ww, .long ww, .long ww])] 18 1097 := w
      refine s_astore (pc' := 361) (ls' := #[vJ r0, sc, vJ r1, sc, vJ r2, sc, vJ q1, sc, vJ q2, sc, vI sel, vI l0, vI u0, vI l1, vI u1, vI l2, vI u2, vR (n0 + 0), vR (n0 + 5), vI s0, vI s1, vI s2, vI (2 : Int32), vI (Int32.ofNat st'), vI xv, vR (n0 + 14), vR (n0 + 15), vJ ww, sc, vR (n0 + 16), vR (n0 + 17), un, un]) w at_359 rfl rfl rfl ?_
      refine s_aload (pc' := 363) w at_361 rfl rfl rfl ?_
      refine s_aload (pc' := 365) w at_363 rfl rfl rfl ?_
      refine s_virtual (pc' := 368) (rest := []) 0 [(.ref (n0 + 14))] w (c_addOne1 hw l h0 n0 5 6 7 8 9 10 11 12 13 (n0 + 14) s0 s1 s2 l0 l1 l2 (Int32.ofNat 0) (Int32.ofNat b0) (Int32.ofNat (b0 + b1)) 0 _ rfl rfl rfl rfl rfl rfl rfl (Lk.new (k := 14) rfl) (by decide) (by decide) (by decide) (by decide) (ad_ne (by decide)) (by decide) (by decide) (by decide)) (Lk.new (k := 5) rfl) (t186 hw) (t187 hw) (w.notFace (t189 hw)) (t189 hw) (t188 hw) (t95 hw) (t190 hw) (by decide) pd23 at_365 (by decide) rfl rfl rfl rfl (Nat.le_of_eq rfl) rfl ?_
      intro T v L' hQ w
      obtain ⟨rfl, hL⟩ := hQ
      replace hL := hL.symm
      subst hL
      dsimp only [oS, oN, cA, nA]
      replace w : St p l e _ s m _ below meth c Z _ _ _ _ h0 n0 T [o0 (.int 3) (.ref (n0 + 2)) (.int 3), o1 .null (.ref ti) (.int l0) (.int u0) (.int l0) .null, aO ([.ref (n0 + 1), .ref (n0 + 3), .ref (n0 + 4), .null, .null, .null, .null, .null, .null, .null]), o1 .null (.ref ti) (.int l1) (.int u1) (.int l1) .null, o1 .null (.ref ti) (.int l2) (.int u2) (.int l2) .null, sOb n0 18 7 8 9 10 11 12 1 13 1, aJ ([]), aI ((List.replicate 1024 (Value.int (-1))).set ((hfin (hfold [((((0 : Int64) ||| (dS s0 l0 (Int32.ofNat 0))) ||| (dS s1 l1 (Int32.ofNat b0))) ||| (dS s2 l2 (Int32.ofNat (b0 + b1))))])) &&& (1023 : Int32)).toNatClampNeg (.int (entF 0 (hfin (hfold [((((0 : Int64) ||| (dS s0 l0 (Int32.ofNat 0))) ||| (dS s1 l1 (Int32.ofNat b0))) ||| (dS s2 l2 (Int32.ofNat (b0 + b1))))]))))), aI ([]), aI ([.int l0, .int l1, .int l2]), aI ([.int 0, .int 0, .int 0]), aI ([.int (Int32.ofNat 0), .int (Int32.ofNat b0), .int (Int32.ofNat (b0 + b1))]), aJ ([.long (mkM b0), .long (mkM b1), .long (mkM b2)]), aJ ([.long ((((0 : Int64) ||| (dS s0 l0 (Int32.ofNat 0))) ||| (dS s1 l1 (Int32.ofNat b0))) ||| (dS s2 l2 (Int32.ofNat (b0 + b1))))]), aI ([.int s0, .int s1, .int s2]), aI ([.int s0, .int s1, .int xv]), aJ ([.long ww, .long ww, .long ww, .long ww, .long ww]), aJ ([.long ww, .long ww, .long ww, .long ww, .long ww]), aJ ([.long ((((0 : Int64) ||| (dS s0 l0 (Int32.ofNat 0))) ||| (dS s1 l1 (Int32.ofNat b0))) ||| (dS s2 l2 (Int32.ofNat (b0 + b1))))] ++ List.replicate 1023 (.long 0))] 19 2121 := w
      generalize hA0 : ((((0 : Int64) ||| (dS s0 l0 (Int32.ofNat 0))) ||| (dS s1 l1 (Int32.ofNat b0))) ||| (dS s2 l2 (Int32.ofNat (b0 + b1)))) = A0 at w
      refine s_istore (pc' := 370) (ls' := #[vJ r0, sc, vJ r1, sc, vJ r2, sc, vJ q1, sc, vJ q2, sc, vI sel, vI l0, vI u0, vI l1, vI u1, vI l2, vI u2, vR (n0 + 0), vR (n0 + 5), vI s0, vI s1, vI s2, vI (2 : Int32), vI (Int32.ofNat st'), vI xv, vR (n0 + 14), vR (n0 + 15), vJ ww, sc, vR (n0 + 16), vR (n0 + 17), vI (0 : Int32), un]) w at_368 rfl rfl ?_
      refine s_aload (pc' := 372) w at_370 rfl rfl rfl ?_
      refine s_iload (pc' := 374) w at_372 rfl rfl ?_
      refine s_aload (pc' := 376) w at_374 rfl rfl rfl ?_
      refine s_iload (pc' := 378) w at_376 rfl rfl ?_
      change Go p e below _ T (mkF m 378 #[vJ r0, sc, vJ r1, sc, vJ r2, sc, vJ q1, sc, vJ q2, sc, vI sel, vI l0, vI u0, vI l1, vI u1, vI l2, vI u2, vR (n0 + 0), vR (n0 + 5), vI s0, vI s1, vI s2, vI (2 : Int32), vI (Int32.ofNat st'), vI xv, vR (n0 + 14), vR (n0 + 15), vJ ww, sc, vR (n0 + 16), vR (n0 + 17), vI (0 : Int32), un] [(.int (Int32.ofNat st')), (.ref (n0 + 16)), (.int (Int32.ofNat 0)), (.ref (n0 + 5))])
      refine s_virtual (pc' := 381) (rest := []) 0 [(.int (Int32.ofNat 0)), (.ref (n0 + 16)), (.int (Int32.ofNat st'))] w (c_key1 hw l h0 n0 5 18 7 8 9 10 11 12 13 1 16 0 st' _ [Value.long ww, Value.long ww, Value.long ww, Value.long ww, Value.long ww] _ rfl rfl rfl (by decide) (by omega) (by simp) (by simp; omega)) (Lk.new (k := 5) rfl) (t238 hw) (t239 hw) (w.notFace (t241 hw)) (t241 hw) (t240 hw) (t95 hw) (t242 hw) (by decide) pd24 at_378 (by decide) rfl rfl rfl rfl (Nat.le_of_eq rfl) rfl ?_
      intro T v L' hQ w
      obtain ⟨rfl, hL⟩ := hQ
      replace hL := hL.symm
      subst hL
      dsimp only [oS, oN, cA, nA]
      replace w : St p l e _ s m _ below meth c Z _ _ _ _ h0 n0 T [o0 (.int 3) (.ref (n0 + 2)) (.int 3), o1 .null (.ref ti) (.int l0) (.int u0) (.int l0) .null, aO ([.ref (n0 + 1), .ref (n0 + 3), .ref (n0 + 4), .null, .null, .null, .null, .null, .null, .null]), o1 .null (.ref ti) (.int l1) (.int u1) (.int l1) .null, o1 .null (.ref ti) (.int l2) (.int u2) (.int l2) .null, sOb n0 18 7 8 9 10 11 12 1 13 1, aJ ([]), aI ((List.replicate 1024 (Value.int (-1))).set ((hfin (hfold [A0])) &&& (1023 : Int32)).toNatClampNeg (.int (entF 0 (hfin (hfold [A0]))))), aI ([]), aI ([.int l0, .int l1, .int l2]), aI ([.int 0, .int 0, .int 0]), aI ([.int (Int32.ofNat 0), .int (Int32.ofNat b0), .int (Int32.ofNat (b0 + b1))]), aJ ([.long (mkM b0), .long (mkM b1), .long (mkM b2)]), aJ ([.long A0]), aI ([.int s0, .int s1, .int s2]), aI ([.int s0, .int s1, .int xv]), aJ (List.take st' [Value.long ww, Value.long ww, Value.long ww, Value.long ww, Value.long ww] ++ [Value.long A0] ++ List.drop (st' + 1) [Value.long ww, Value.long ww, Value.long ww, Value.long ww, Value.long ww]), aJ ([.long ww, .long ww, .long ww, .long ww, .long ww]), aJ ([.long A0] ++ List.replicate 1023 (.long 0))] 19 2121 := w
      refine s_aload (pc' := 383) w at_381 rfl rfl rfl ?_
      refine s_aload (pc' := 385) w at_383 rfl rfl rfl ?_
      refine s_iload (pc' := 387) w at_385 rfl rfl ?_
      refine s_iload (pc' := 389) w at_387 rfl rfl ?_
      refine s_iload (pc' := 391) w at_389 rfl rfl ?_
      refine s_virtual (pc' := 394) (rest := []) 0 [(.ref (n0 + 16)), (.int (Int32.ofNat st')), (.int (2 : Int32)), (.int xv)] w (c_set1_2 hw l h0 n0 5 18 7 8 9 10 11 12 13 1 16 st' xv l0 l1 l2 (Int32.ofNat 0) (Int32.ofNat b0) (Int32.ofNat (b0 + b1)) (mkM b0) (mkM b1) (mkM b2) A0 (List.take st' [Value.long ww, Value.long ww, Value.long ww, Value.long ww, Value.long ww] ++ [Value.long A0] ++ List.drop (st' + 1) [Value.long ww, Value.long ww, Value.long ww, Value.long ww, Value.long ww]) _ rfl rfl rfl rfl rfl rfl (by omega) (key_at1_0 hst')) (Lk.new (k := 5) rfl) (t243 hw) (t244 hw) (w.notFace (t246 hw)) (t246 hw) (t245 hw) (t95 hw) (t247 hw) (by decide) pd25 at_391 (by decide) rfl rfl rfl rfl (Nat.le_of_eq rfl) rfl ?_
      intro T v L' hQ w
      obtain ⟨rfl, hL⟩ := hQ
      replace hL := hL.symm
      subst hL
      dsimp only [oS, oN, cA, nA]
      replace w : St p l e _ s m _ below meth c Z _ _ _ _ h0 n0 T [o0 (.int 3) (.ref (n0 + 2)) (.int 3), o1 .null (.ref ti) (.int l0) (.int u0) (.int l0) .null, aO ([.ref (n0 + 1), .ref (n0 + 3), .ref (n0 + 4), .null, .null, .null, .null, .null, .null, .null]), o1 .null (.ref ti) (.int l1) (.int u1) (.int l1) .null, o1 .null (.ref ti) (.int l2) (.int u2) (.int l2) .null, sOb n0 18 7 8 9 10 11 12 1 13 1, aJ ([]), aI ((List.replicate 1024 (Value.int (-1))).set ((hfin (hfold [A0])) &&& (1023 : Int32)).toNatClampNeg (.int (entF 0 (hfin (hfold [A0]))))), aI ([]), aI ([.int l0, .int l1, .int l2]), aI ([.int 0, .int 0, .int 0]), aI ([.int (Int32.ofNat 0), .int (Int32.ofNat b0), .int (Int32.ofNat (b0 + b1))]), aJ ([.long (mkM b0), .long (mkM b1), .long (mkM b2)]), aJ ([.long A0]), aI ([.int s0, .int s1, .int s2]), aI ([.int s0, .int s1, .int xv]), aJ ((List.take st' [Value.long ww, Value.long ww, Value.long ww, Value.long ww, Value.long ww] ++ [Value.long A0] ++ List.drop (st' + 1) [Value.long ww, Value.long ww, Value.long ww, Value.long ww, Value.long ww]).set (st' + 0) (.long (setF A0 (mkM b2) (Int32.ofNat (b0 + b1)) xv l2))), aJ ([.long ww, .long ww, .long ww, .long ww, .long ww]), aJ ([.long A0] ++ List.replicate 1023 (.long 0))] 19 2121 := w
      refine s_aload (pc' := 396) w at_394 rfl rfl rfl ?_
      refine s_aload (pc' := 398) w at_396 rfl rfl rfl ?_
      refine s_virtual (pc' := 401) (rest := []) 0 [(.ref (n0 + 15))] w (c_addTwo1 hw l h0 n0 5 18 7 8 9 10 11 12 13 (n0 + 15) s0 s1 xv l0 l1 l2 (Int32.ofNat 0) (Int32.ofNat b0) (Int32.ofNat (b0 + b1)) A0 (hfin (hfold [A0])) A0 _ rfl rfl rfl rfl rfl rfl rfl (Lk.new (k := 15) rfl) (by decide) (by decide) (by decide) (by decide) (ad_ne (by decide)) (by decide) (by decide) (by decide) (by decide) (by decide)) (Lk.new (k := 5) rfl) (t186 hw) (t187 hw) (w.notFace (t189 hw)) (t189 hw) (t188 hw) (t95 hw) (t190 hw) (by decide) pd23 at_398 (by decide) rfl rfl rfl rfl (Nat.le_of_eq rfl) rfl ?_
      intro T v L' hQ w
      rcases hQ with ⟨rfl, hL, hz⟩ | ⟨rfl, tb, hL⟩
      · replace hL := hL.symm
        subst hL
        replace w : St p l e _ s m _ below meth c Z _ _ _ _ h0 n0 T [o0 (.int 3) (.ref (n0 + 2)) (.int 3), o1 .null (.ref ti) (.int l0) (.int u0) (.int l0) .null, aO ([.ref (n0 + 1), .ref (n0 + 3), .ref (n0 + 4), .null, .null, .null, .null, .null, .null, .null]), o1 .null (.ref ti) (.int l1) (.int u1) (.int l1) .null, o1 .null (.ref ti) (.int l2) (.int u2) (.int l2) .null, sOb n0 18 7 8 9 10 11 12 1 13 1, aJ ([]), aI ((List.replicate 1024 (Value.int (-1))).set ((hfin (hfold [A0])) &&& (1023 : Int32)).toNatClampNeg (.int (entF 0 (hfin (hfold [A0]))))), aI ([]), aI ([.int l0, .int l1, .int l2]), aI ([.int 0, .int 0, .int 0]), aI ([.int (Int32.ofNat 0), .int (Int32.ofNat b0), .int (Int32.ofNat (b0 + b1))]), aJ ([.long (mkM b0), .long (mkM b1), .long (mkM b2)]), aJ ([.long ((((0 : Int64) ||| (dS s0 l0 (Int32.ofNat 0))) ||| (dS s1 l1 (Int32.ofNat b0))) ||| (dS xv l2 (Int32.ofNat (b0 + b1))))]), aI ([.int s0, .int s1, .int s2]), aI ([.int s0, .int s1, .int xv]), aJ ((List.take st' [Value.long ww, Value.long ww, Value.long ww, Value.long ww, Value.long ww] ++ [Value.long A0] ++ List.drop (st' + 1) [Value.long ww, Value.long ww, Value.long ww, Value.long ww, Value.long ww]).set (st' + 0) (.long (setF A0 (mkM b2) (Int32.ofNat (b0 + b1)) xv l2))), aJ ([.long ww, .long ww, .long ww, .long ww, .long ww]), aJ ([.long A0] ++ List.replicate 1023 (.long 0))] 19 2121 := w
        change Go p e below _ T (mkF m 401 #[vJ r0, sc, vJ r1, sc, vJ r2, sc, vJ q1, sc, vJ q2, sc, vI sel, vI l0, vI u0, vI l1, vI u1, vI l2, vI u2, vR (n0 + 0), vR (n0 + 5), vI s0, vI s1, vI s2, vI (2 : Int32), vI (Int32.ofNat st'), vI xv, vR (n0 + 14), vR (n0 + 15), vJ ww, sc, vR (n0 + 16), vR (n0 + 17), vI (0 : Int32), un] [(.int (0 : Int32))])
        generalize hB0 : ((((0 : Int64) ||| (dS s0 l0 (Int32.ofNat 0))) ||| (dS s1 l1 (Int32.ofNat b0))) ||| (dS xv l2 (Int32.ofNat (b0 + b1)))) = B0 at w hz
        refine s_istore (pc' := 403) (ls' := #[vJ r0, sc, vJ r1, sc, vJ r2, sc, vJ q1, sc, vJ q2, sc, vI sel, vI l0, vI u0, vI l1, vI u1, vI l2, vI u2, vR (n0 + 0), vR (n0 + 5), vI s0, vI s1, vI s2, vI (2 : Int32), vI (Int32.ofNat st'), vI xv, vR (n0 + 14), vR (n0 + 15), vJ ww, sc, vR (n0 + 16), vR (n0 + 17), vI (0 : Int32), vI (0 : Int32)]) w at_401 rfl rfl ?_
        refine s_aload (pc' := 405) w at_403 rfl rfl rfl ?_
        refine s_iload (pc' := 407) w at_405 rfl rfl ?_
        refine s_aload (pc' := 409) w at_407 rfl rfl rfl ?_
        refine s_iload (pc' := 411) w at_409 rfl rfl ?_
        change Go p e below _ T (mkF m 411 #[vJ r0, sc, vJ r1, sc, vJ r2, sc, vJ q1, sc, vJ q2, sc, vI sel, vI l0, vI u0, vI l1, vI u1, vI l2, vI u2, vR (n0 + 0), vR (n0 + 5), vI s0, vI s1, vI s2, vI (2 : Int32), vI (Int32.ofNat st'), vI xv, vR (n0 + 14), vR (n0 + 15), vJ ww, sc, vR (n0 + 16), vR (n0 + 17), vI (0 : Int32), vI (0 : Int32)] [(.int (Int32.ofNat st')), (.ref (n0 + 17)), (.int (Int32.ofNat 0)), (.ref (n0 + 5))])
        refine s_virtual (pc' := 414) (rest := []) 0 [(.int (Int32.ofNat 0)), (.ref (n0 + 17)), (.int (Int32.ofNat st'))] w (c_key1 hw l h0 n0 5 18 7 8 9 10 11 12 13 1 17 0 st' _ [Value.long ww, Value.long ww, Value.long ww, Value.long ww, Value.long ww] _ rfl rfl rfl (by decide) (by omega) (by simp) (by simp; omega)) (Lk.new (k := 5) rfl) (t238 hw) (t239 hw) (w.notFace (t241 hw)) (t241 hw) (t240 hw) (t95 hw) (t242 hw) (by decide) pd24 at_411 (by decide) rfl rfl rfl rfl (Nat.le_of_eq rfl) rfl ?_
        intro T v L' hQ w
        obtain ⟨rfl, hL⟩ := hQ
        replace hL := hL.symm
        subst hL
        dsimp only [oS, oN, cA, nA]
        replace w : St p l e _ s m _ below meth c Z _ _ _ _ h0 n0 T [o0 (.int 3) (.ref (n0 + 2)) (.int 3), o1 .null (.ref ti) (.int l0) (.int u0) (.int l0) .null, aO ([.ref (n0 + 1), .ref (n0 + 3), .ref (n0 + 4), .null, .null, .null, .null, .null, .null, .null]), o1 .null (.ref ti) (.int l1) (.int u1) (.int l1) .null, o1 .null (.ref ti) (.int l2) (.int u2) (.int l2) .null, sOb n0 18 7 8 9 10 11 12 1 13 1, aJ ([]), aI ((List.replicate 1024 (Value.int (-1))).set ((hfin (hfold [A0])) &&& (1023 : Int32)).toNatClampNeg (.int (entF 0 (hfin (hfold [A0]))))), aI ([]), aI ([.int l0, .int l1, .int l2]), aI ([.int 0, .int 0, .int 0]), aI ([.int (Int32.ofNat 0), .int (Int32.ofNat b0), .int (Int32.ofNat (b0 + b1))]), aJ ([.long (mkM b0), .long (mkM b1), .long (mkM b2)]), aJ ([.long B0]), aI ([.int s0, .int s1, .int s2]), aI ([.int s0, .int s1, .int xv]), aJ ((List.take st' [Value.long ww, Value.long ww, Value.long ww, Value.long ww, Value.long ww] ++ [Value.long A0] ++ List.drop (st' + 1) [Value.long ww, Value.long ww, Value.long ww, Value.long ww, Value.long ww]).set (st' + 0) (.long (setF A0 (mkM b2) (Int32.ofNat (b0 + b1)) xv l2))), aJ (List.take st' [Value.long ww, Value.long ww, Value.long ww, Value.long ww, Value.long ww] ++ [Value.long A0] ++ List.drop (st' + 1) [Value.long ww, Value.long ww, Value.long ww, Value.long ww, Value.long ww]), aJ ([.long A0] ++ List.replicate 1023 (.long 0))] 19 2121 := w
        refine s_aload (pc' := 416) w at_414 rfl rfl rfl ?_
        refine s_iconst (pc' := 417) (0 : Int32) w at_416 (by decide) rfl ?_
        have hzz := hz
        have hset := set1_2 hb0 hb1 hb2 hsum los0 his0 hx0 los1 his1 hx1 los2 his2 hx2 loxv hixv
        rw [hA0, hB0] at hset
        have hEK : (List.take st' [Value.long ww, Value.long ww, Value.long ww, Value.long ww, Value.long ww] ++ [Value.long A0] ++ List.drop (st' + 1) [Value.long ww, Value.long ww, Value.long ww, Value.long ww, Value.long ww]).set (st' + 0) (.long (setF A0 (mkM b2) (Int32.ofNat (b0 + b1)) xv l2)) = List.take st' [Value.long ww, Value.long ww, Value.long ww, Value.long ww, Value.long ww] ++ [Value.long B0] ++ List.drop (st' + 1) [Value.long ww, Value.long ww, Value.long ww, Value.long ww, Value.long ww] := by rw [hset]; exact list_set1_0 hst'
        rw [hEK] at w
        rw [show (List.take st' [Value.long ww, Value.long ww, Value.long ww, Value.long ww, Value.long ww] ++ [Value.long A0] ++ List.drop (st' + 1) [Value.long ww, Value.long ww, Value.long ww, Value.long ww, Value.long ww]) = List.take st' [Value.long ww, Value.long ww, Value.long ww, Value.long ww, Value.long ww] ++ [Value.long B0] ++ List.drop (st' + 1) [Value.long ww, Value.long ww, Value.long ww, Value.long ww, Value.long ww] by rw [hz]] at w
        obtain ⟨z0, z1, z2, z3, z4, hz5⟩ := list_five1 (a := ww) (B0 := B0) hst'
        rw [hz5] at w
        refine s_laload (pc' := 418) (v := (.long z0)) w (Lk.new (k := 16) rfl) at_417 (by decide) rfl rfl ?_
        refine s_aload (pc' := 420) w at_418 rfl rfl rfl ?_
        refine s_iconst (pc' := 421) (0 : Int32) w at_420 (by decide) rfl ?_
        refine s_laload (pc' := 422) (v := (.long z0)) w (Lk.new (k := 17) rfl) at_421 (by decide) rfl rfl ?_
        refine s_lcmp (pc' := 423) w at_422 rfl ?_
        refine s_ifN (pc' := 426) w at_423 (Jvm.Free.XT.ll_ne_f rfl) rfl ?_
        refine s_aload (pc' := 428) w at_426 rfl rfl rfl ?_
        refine s_iconst (pc' := 429) (1 : Int32) w at_428 (by decide) rfl ?_
        refine s_laload (pc' := 430) (v := (.long z1)) w (Lk.new (k := 16) rfl) at_429 (by decide) rfl rfl ?_
        refine s_aload (pc' := 432) w at_430 rfl rfl rfl ?_
        refine s_iconst (pc' := 433) (1 : Int32) w at_432 (by decide) rfl ?_
        refine s_laload (pc' := 434) (v := (.long z1)) w (Lk.new (k := 17) rfl) at_433 (by decide) rfl rfl ?_
        refine s_lcmp (pc' := 435) w at_434 rfl ?_
        refine s_ifN (pc' := 438) w at_435 (Jvm.Free.XT.ll_ne_f rfl) rfl ?_
        refine s_aload (pc' := 440) w at_438 rfl rfl rfl ?_
        refine s_iconst (pc' := 441) (2 : Int32) w at_440 (by decide) rfl ?_
        refine s_laload (pc' := 442) (v := (.long z2)) w (Lk.new (k := 16) rfl) at_441 (by decide) rfl rfl ?_
        refine s_aload (pc' := 444) w at_442 rfl rfl rfl ?_
        refine s_iconst (pc' := 445) (2 : Int32) w at_444 (by decide) rfl ?_
        refine s_laload (pc' := 446) (v := (.long z2)) w (Lk.new (k := 17) rfl) at_445 (by decide) rfl rfl ?_
        refine s_lcmp (pc' := 447) w at_446 rfl ?_
        refine s_ifN (pc' := 450) w at_447 (Jvm.Free.XT.ll_ne_f rfl) rfl ?_
        refine s_aload (pc' := 452) w at_450 rfl rfl rfl ?_
        refine s_iconst (pc' := 453) (3 : Int32) w at_452 (by decide) rfl ?_
        refine s_laload (pc' := 454) (v := (.long z3)) w (Lk.new (k := 16) rfl) at_453 (by decide) rfl rfl ?_
        refine s_aload (pc' := 456) w at_454 rfl rfl rfl ?_
        refine s_iconst (pc' := 457) (3 : Int32) w at_456 (by decide) rfl ?_
        refine s_laload (pc' := 458) (v := (.long z3)) w (Lk.new (k := 17) rfl) at_457 (by decide) rfl rfl ?_
        refine s_lcmp (pc' := 459) w at_458 rfl ?_
        refine s_ifN (pc' := 462) w at_459 (Jvm.Free.XT.ll_ne_f rfl) rfl ?_
        refine s_aload (pc' := 464) w at_462 rfl rfl rfl ?_
        refine s_iconst (pc' := 465) (4 : Int32) w at_464 (by decide) rfl ?_
        refine s_laload (pc' := 466) (v := (.long z4)) w (Lk.new (k := 16) rfl) at_465 (by decide) rfl rfl ?_
        refine s_aload (pc' := 468) w at_466 rfl rfl rfl ?_
        refine s_iconst (pc' := 469) (4 : Int32) w at_468 (by decide) rfl ?_
        refine s_laload (pc' := 470) (v := (.long z4)) w (Lk.new (k := 17) rfl) at_469 (by decide) rfl rfl ?_
        refine s_lcmp (pc' := 471) w at_470 rfl ?_
        refine s_ifN (pc' := 474) w at_471 (Jvm.Free.XT.ll_ne_f rfl) rfl ?_
        refine s_iconst (pc' := 475) (1 : Int32) w at_474 (by decide) rfl ?_
        refine s_goto (pc' := 479) w at_475 (by decide) (by decide) ?_
        exact s_zreturn rfl w at_479 (by decide) (by decide) rfl
      · replace hL := hL.symm
        subst hL
        replace w : St p l e _ s m _ below meth c Z _ _ _ _ h0 n0 T [o0 (.int 3) (.ref (n0 + 2)) (.int 3), o1 .null (.ref ti) (.int l0) (.int u0) (.int l0) .null, aO ([.ref (n0 + 1), .ref (n0 + 3), .ref (n0 + 4), .null, .null, .null, .null, .null, .null, .null]), o1 .null (.ref ti) (.int l1) (.int u1) (.int l1) .null, o1 .null (.ref ti) (.int l2) (.int u2) (.int l2) .null, sOb n0 18 7 8 9 10 11 12 1 13 2, aJ ([]), aI (tb), aI ([]), aI ([.int l0, .int l1, .int l2]), aI ([.int 0, .int 0, .int 0]), aI ([.int (Int32.ofNat 0), .int (Int32.ofNat b0), .int (Int32.ofNat (b0 + b1))]), aJ ([.long (mkM b0), .long (mkM b1), .long (mkM b2)]), aJ ([.long ((((0 : Int64) ||| (dS s0 l0 (Int32.ofNat 0))) ||| (dS s1 l1 (Int32.ofNat b0))) ||| (dS xv l2 (Int32.ofNat (b0 + b1))))]), aI ([.int s0, .int s1, .int s2]), aI ([.int s0, .int s1, .int xv]), aJ ((List.take st' [Value.long ww, Value.long ww, Value.long ww, Value.long ww, Value.long ww] ++ [Value.long A0] ++ List.drop (st' + 1) [Value.long ww, Value.long ww, Value.long ww, Value.long ww, Value.long ww]).set (st' + 0) (.long (setF A0 (mkM b2) (Int32.ofNat (b0 + b1)) xv l2))), aJ ([.long ww, .long ww, .long ww, .long ww, .long ww]), aJ ([.long A0, .long ((((0 : Int64) ||| (dS s0 l0 (Int32.ofNat 0))) ||| (dS s1 l1 (Int32.ofNat b0))) ||| (dS xv l2 (Int32.ofNat (b0 + b1))))] ++ List.replicate 1022 (.long 0))] 19 2121 := w
        change Go p e below _ T (mkF m 401 #[vJ r0, sc, vJ r1, sc, vJ r2, sc, vJ q1, sc, vJ q2, sc, vI sel, vI l0, vI u0, vI l1, vI u1, vI l2, vI u2, vR (n0 + 0), vR (n0 + 5), vI s0, vI s1, vI s2, vI (2 : Int32), vI (Int32.ofNat st'), vI xv, vR (n0 + 14), vR (n0 + 15), vJ ww, sc, vR (n0 + 16), vR (n0 + 17), vI (0 : Int32), un] [(.int (1 : Int32))])
        generalize hB0 : ((((0 : Int64) ||| (dS s0 l0 (Int32.ofNat 0))) ||| (dS s1 l1 (Int32.ofNat b0))) ||| (dS xv l2 (Int32.ofNat (b0 + b1)))) = B0 at w
        refine s_istore (pc' := 403) (ls' := #[vJ r0, sc, vJ r1, sc, vJ r2, sc, vJ q1, sc, vJ q2, sc, vI sel, vI l0, vI u0, vI l1, vI u1, vI l2, vI u2, vR (n0 + 0), vR (n0 + 5), vI s0, vI s1, vI s2, vI (2 : Int32), vI (Int32.ofNat st'), vI xv, vR (n0 + 14), vR (n0 + 15), vJ ww, sc, vR (n0 + 16), vR (n0 + 17), vI (0 : Int32), vI (1 : Int32)]) w at_401 rfl rfl ?_
        refine s_aload (pc' := 405) w at_403 rfl rfl rfl ?_
        refine s_iload (pc' := 407) w at_405 rfl rfl ?_
        refine s_aload (pc' := 409) w at_407 rfl rfl rfl ?_
        refine s_iload (pc' := 411) w at_409 rfl rfl ?_
        change Go p e below _ T (mkF m 411 #[vJ r0, sc, vJ r1, sc, vJ r2, sc, vJ q1, sc, vJ q2, sc, vI sel, vI l0, vI u0, vI l1, vI u1, vI l2, vI u2, vR (n0 + 0), vR (n0 + 5), vI s0, vI s1, vI s2, vI (2 : Int32), vI (Int32.ofNat st'), vI xv, vR (n0 + 14), vR (n0 + 15), vJ ww, sc, vR (n0 + 16), vR (n0 + 17), vI (0 : Int32), vI (1 : Int32)] [(.int (Int32.ofNat st')), (.ref (n0 + 17)), (.int (Int32.ofNat 1)), (.ref (n0 + 5))])
        refine s_virtual (pc' := 414) (rest := []) 0 [(.int (Int32.ofNat 1)), (.ref (n0 + 17)), (.int (Int32.ofNat st'))] w (c_key1 hw l h0 n0 5 18 7 8 9 10 11 12 13 2 17 1 st' _ [Value.long ww, Value.long ww, Value.long ww, Value.long ww, Value.long ww] _ rfl rfl rfl (by decide) (by omega) (by simp) (by simp; omega)) (Lk.new (k := 5) rfl) (t238 hw) (t239 hw) (w.notFace (t241 hw)) (t241 hw) (t240 hw) (t95 hw) (t242 hw) (by decide) pd24 at_411 (by decide) rfl rfl rfl rfl (Nat.le_of_eq rfl) rfl ?_
        intro T v L' hQ w
        obtain ⟨rfl, hL⟩ := hQ
        replace hL := hL.symm
        subst hL
        dsimp only [oS, oN, cA, nA]
        replace w : St p l e _ s m _ below meth c Z _ _ _ _ h0 n0 T [o0 (.int 3) (.ref (n0 + 2)) (.int 3), o1 .null (.ref ti) (.int l0) (.int u0) (.int l0) .null, aO ([.ref (n0 + 1), .ref (n0 + 3), .ref (n0 + 4), .null, .null, .null, .null, .null, .null, .null]), o1 .null (.ref ti) (.int l1) (.int u1) (.int l1) .null, o1 .null (.ref ti) (.int l2) (.int u2) (.int l2) .null, sOb n0 18 7 8 9 10 11 12 1 13 2, aJ ([]), aI (tb), aI ([]), aI ([.int l0, .int l1, .int l2]), aI ([.int 0, .int 0, .int 0]), aI ([.int (Int32.ofNat 0), .int (Int32.ofNat b0), .int (Int32.ofNat (b0 + b1))]), aJ ([.long (mkM b0), .long (mkM b1), .long (mkM b2)]), aJ ([.long B0]), aI ([.int s0, .int s1, .int s2]), aI ([.int s0, .int s1, .int xv]), aJ ((List.take st' [Value.long ww, Value.long ww, Value.long ww, Value.long ww, Value.long ww] ++ [Value.long A0] ++ List.drop (st' + 1) [Value.long ww, Value.long ww, Value.long ww, Value.long ww, Value.long ww]).set (st' + 0) (.long (setF A0 (mkM b2) (Int32.ofNat (b0 + b1)) xv l2))), aJ (List.take st' [Value.long ww, Value.long ww, Value.long ww, Value.long ww, Value.long ww] ++ [Value.long B0] ++ List.drop (st' + 1) [Value.long ww, Value.long ww, Value.long ww, Value.long ww, Value.long ww]), aJ ([.long A0, .long B0] ++ List.replicate 1022 (.long 0))] 19 2121 := w
        refine s_aload (pc' := 416) w at_414 rfl rfl rfl ?_
        refine s_iconst (pc' := 417) (0 : Int32) w at_416 (by decide) rfl ?_
        have hset := set1_2 hb0 hb1 hb2 hsum los0 his0 hx0 los1 his1 hx1 los2 his2 hx2 loxv hixv
        rw [hA0, hB0] at hset
        have hEK : (List.take st' [Value.long ww, Value.long ww, Value.long ww, Value.long ww, Value.long ww] ++ [Value.long A0] ++ List.drop (st' + 1) [Value.long ww, Value.long ww, Value.long ww, Value.long ww, Value.long ww]).set (st' + 0) (.long (setF A0 (mkM b2) (Int32.ofNat (b0 + b1)) xv l2)) = List.take st' [Value.long ww, Value.long ww, Value.long ww, Value.long ww, Value.long ww] ++ [Value.long B0] ++ List.drop (st' + 1) [Value.long ww, Value.long ww, Value.long ww, Value.long ww, Value.long ww] := by rw [hset]; exact list_set1_0 hst'
        rw [hEK] at w
        obtain ⟨z0, z1, z2, z3, z4, hz5⟩ := list_five1 (a := ww) (B0 := B0) hst'
        rw [hz5] at w
        refine s_laload (pc' := 418) (v := (.long z0)) w (Lk.new (k := 16) rfl) at_417 (by decide) rfl rfl ?_
        refine s_aload (pc' := 420) w at_418 rfl rfl rfl ?_
        refine s_iconst (pc' := 421) (0 : Int32) w at_420 (by decide) rfl ?_
        refine s_laload (pc' := 422) (v := (.long z0)) w (Lk.new (k := 17) rfl) at_421 (by decide) rfl rfl ?_
        refine s_lcmp (pc' := 423) w at_422 rfl ?_
        refine s_ifN (pc' := 426) w at_423 (Jvm.Free.XT.ll_ne_f rfl) rfl ?_
        refine s_aload (pc' := 428) w at_426 rfl rfl rfl ?_
        refine s_iconst (pc' := 429) (1 : Int32) w at_428 (by decide) rfl ?_
        refine s_laload (pc' := 430) (v := (.long z1)) w (Lk.new (k := 16) rfl) at_429 (by decide) rfl rfl ?_
        refine s_aload (pc' := 432) w at_430 rfl rfl rfl ?_
        refine s_iconst (pc' := 433) (1 : Int32) w at_432 (by decide) rfl ?_
        refine s_laload (pc' := 434) (v := (.long z1)) w (Lk.new (k := 17) rfl) at_433 (by decide) rfl rfl ?_
        refine s_lcmp (pc' := 435) w at_434 rfl ?_
        refine s_ifN (pc' := 438) w at_435 (Jvm.Free.XT.ll_ne_f rfl) rfl ?_
        refine s_aload (pc' := 440) w at_438 rfl rfl rfl ?_
        refine s_iconst (pc' := 441) (2 : Int32) w at_440 (by decide) rfl ?_
        refine s_laload (pc' := 442) (v := (.long z2)) w (Lk.new (k := 16) rfl) at_441 (by decide) rfl rfl ?_
        refine s_aload (pc' := 444) w at_442 rfl rfl rfl ?_
        refine s_iconst (pc' := 445) (2 : Int32) w at_444 (by decide) rfl ?_
        refine s_laload (pc' := 446) (v := (.long z2)) w (Lk.new (k := 17) rfl) at_445 (by decide) rfl rfl ?_
        refine s_lcmp (pc' := 447) w at_446 rfl ?_
        refine s_ifN (pc' := 450) w at_447 (Jvm.Free.XT.ll_ne_f rfl) rfl ?_
        refine s_aload (pc' := 452) w at_450 rfl rfl rfl ?_
        refine s_iconst (pc' := 453) (3 : Int32) w at_452 (by decide) rfl ?_
        refine s_laload (pc' := 454) (v := (.long z3)) w (Lk.new (k := 16) rfl) at_453 (by decide) rfl rfl ?_
        refine s_aload (pc' := 456) w at_454 rfl rfl rfl ?_
        refine s_iconst (pc' := 457) (3 : Int32) w at_456 (by decide) rfl ?_
        refine s_laload (pc' := 458) (v := (.long z3)) w (Lk.new (k := 17) rfl) at_457 (by decide) rfl rfl ?_
        refine s_lcmp (pc' := 459) w at_458 rfl ?_
        refine s_ifN (pc' := 462) w at_459 (Jvm.Free.XT.ll_ne_f rfl) rfl ?_
        refine s_aload (pc' := 464) w at_462 rfl rfl rfl ?_
        refine s_iconst (pc' := 465) (4 : Int32) w at_464 (by decide) rfl ?_
        refine s_laload (pc' := 466) (v := (.long z4)) w (Lk.new (k := 16) rfl) at_465 (by decide) rfl rfl ?_
        refine s_aload (pc' := 468) w at_466 rfl rfl rfl ?_
        refine s_iconst (pc' := 469) (4 : Int32) w at_468 (by decide) rfl ?_
        refine s_laload (pc' := 470) (v := (.long z4)) w (Lk.new (k := 17) rfl) at_469 (by decide) rfl rfl ?_
        refine s_lcmp (pc' := 471) w at_470 rfl ?_
        refine s_ifN (pc' := 474) w at_471 (Jvm.Free.XT.ll_ne_f rfl) rfl ?_
        refine s_iconst (pc' := 475) (1 : Int32) w at_474 (by decide) rfl ?_
        refine s_goto (pc' := 479) w at_475 (by decide) (by decide) ?_
        exact s_zreturn rfl w at_479 (by decide) (by decide) rfl
  · replace hL := hL.symm
    subst hL
    replace w : St p l e _ s m _ below meth c Z _ _ _ _ h0 n0 T [o0 (.int 3) (.ref (n0 + 2)) (.int 3), o1 .null (.ref ti) (.int l0) (.int u0) (.int l0) .null, aO ([.ref (n0 + 1), .ref (n0 + 3), .ref (n0 + 4), .null, .null, .null, .null, .null, .null, .null]), o1 .null (.ref ti) (.int l1) (.int u1) (.int l1) .null, o1 .null (.ref ti) (.int l2) (.int u2) (.int l2) .null, sOb n0 6 7 8 9 10 11 12 2 13 0, aJ ([]), aI (List.replicate 1024 (Value.int (-1))), aI ([]), aI ([.int l0, .int l1, .int l2]), aI ([.int 0, .int 0, .int 1]), aI ([.int (Int32.ofNat 0), .int (Int32.ofNat b0), .int (Int32.ofNat 0)]), aJ ([.long (mkM b0), .long (mkM b1), .long (mkM b2)]), aJ ([.long 0, .long 0])] 14 1081 := w
    change Go p e below _ T (mkF m 128 #[vJ r0, sc, vJ r1, sc, vJ r2, sc, vJ q1, sc, vJ q2, sc, vI sel, vI l0, vI u0, vI l1, vI u1, vI l2, vI u2, vR (n0 + 0), un, un, un, un, un, un, un, un, un, un, un, un, un, un, un] [(.ref (n0 + 5))])
    refine s_astore (pc' := 130) (ls' := #[vJ r0, sc, vJ r1, sc, vJ r2, sc, vJ q1, sc, vJ q2, sc, vI sel, vI l0, vI u0, vI l1, vI u1, vI l2, vI u2, vR (n0 + 0), vR (n0 + 5), un, un, un, un, un, un, un, un, un, un, un, un, un, un]) w at_128 rfl rfl rfl ?_
    refine s_iload (pc' := 132) w at_130 rfl rfl ?_
    refine s_iload (pc' := 134) w at_132 rfl rfl ?_
    refine s_lload (pc' := 136) w at_134 rfl rfl ?_
    refine s_static (pc' := 139) (rest := []) 0 [(.int l0), (.int u0), (.long q1)] w (c_pick hw l h0 n0 l0 u0 q1 _ hl0) (t183 hw) (t184 hw) (t2 hw) (t185 hw) (by decide) pd22 at_136 (by decide) rfl rfl rfl rfl (Nat.le_of_eq rfl) rfl ?_
    intro T v L' hQ w
    obtain ⟨s0, rfl, los0, his0, hL⟩ := hQ
    replace hL := hL.symm
    subst hL
    dsimp only [oS, oN, cA, nA]
    refine s_istore (pc' := 141) (ls' := #[vJ r0, sc, vJ r1, sc, vJ r2, sc, vJ q1, sc, vJ q2, sc, vI sel, vI l0, vI u0, vI l1, vI u1, vI l2, vI u2, vR (n0 + 0), vR (n0 + 5), vI s0, un, un, un, un, un, un, un, un, un, un, un, un, un]) w at_139 rfl rfl ?_
    refine s_iload (pc' := 143) w at_141 rfl rfl ?_
    refine s_iload (pc' := 145) w at_143 rfl rfl ?_
    refine s_lload (pc' := 147) w at_145 rfl rfl ?_
    refine s_bipush (pc' := 149) (32 : Int32) w at_147 (by decide) rfl ?_
    refine s_lushr (pc' := 150) w at_149 rfl ?_
    refine s_static (pc' := 153) (rest := []) 0 [(.int l1), (.int u1), (.long (Jvm.Free.XT.ushrL q1 (32 : Int32)))] w (c_pick hw l h0 n0 l1 u1 (Jvm.Free.XT.ushrL q1 (32 : Int32)) _ hl1) (t183 hw) (t184 hw) (t2 hw) (t185 hw) (by decide) pd22 at_150 (by decide) rfl rfl rfl rfl (Nat.le_of_eq rfl) rfl ?_
    intro T v L' hQ w
    obtain ⟨s1, rfl, los1, his1, hL⟩ := hQ
    replace hL := hL.symm
    subst hL
    dsimp only [oS, oN, cA, nA]
    refine s_istore (pc' := 155) (ls' := #[vJ r0, sc, vJ r1, sc, vJ r2, sc, vJ q1, sc, vJ q2, sc, vI sel, vI l0, vI u0, vI l1, vI u1, vI l2, vI u2, vR (n0 + 0), vR (n0 + 5), vI s0, vI s1, un, un, un, un, un, un, un, un, un, un, un, un]) w at_153 rfl rfl ?_
    refine s_iload (pc' := 157) w at_155 rfl rfl ?_
    refine s_iload (pc' := 159) w at_157 rfl rfl ?_
    refine s_lload (pc' := 161) w at_159 rfl rfl ?_
    refine s_static (pc' := 164) (rest := []) 0 [(.int l2), (.int u2), (.long q2)] w (c_pick hw l h0 n0 l2 u2 q2 _ hl2) (t183 hw) (t184 hw) (t2 hw) (t185 hw) (by decide) pd22 at_161 (by decide) rfl rfl rfl rfl (Nat.le_of_eq rfl) rfl ?_
    intro T v L' hQ w
    obtain ⟨s2, rfl, los2, his2, hL⟩ := hQ
    replace hL := hL.symm
    subst hL
    dsimp only [oS, oN, cA, nA]
    refine s_istore (pc' := 166) (ls' := #[vJ r0, sc, vJ r1, sc, vJ r2, sc, vJ q1, sc, vJ q2, sc, vI sel, vI l0, vI u0, vI l1, vI u1, vI l2, vI u2, vR (n0 + 0), vR (n0 + 5), vI s0, vI s1, vI s2, un, un, un, un, un, un, un, un, un, un, un]) w at_164 rfl rfl ?_
    refine s_iload (pc' := 168) w at_166 rfl rfl ?_
    refine s_sipush (pc' := 171) (255 : Int32) w at_168 (by decide) rfl ?_
    refine s_iand (pc' := 172) w at_171 rfl ?_
    refine s_iconst (pc' := 173) (3 : Int32) w at_172 (by decide) rfl ?_
    refine s_irem (pc' := 174) w at_173 (by decide) rfl ?_
    obtain ⟨v', hv', ev'⟩ := rem3 sel
    rw [ev']
    refine s_istore (pc' := 176) (ls' := #[vJ r0, sc, vJ r1, sc, vJ r2, sc, vJ q1, sc, vJ q2, sc, vI sel, vI l0, vI u0, vI l1, vI u1, vI l2, vI u2, vR (n0 + 0), vR (n0 + 5), vI s0, vI s1, vI s2, vI (Int32.ofNat v'), un, un, un, un, un, un, un, un, un, un]) w at_174 rfl rfl ?_
    refine s_iload (pc' := 178) w at_176 rfl rfl ?_
    refine s_bipush (pc' := 180) (8 : Int32) w at_178 (by decide) rfl ?_
    refine s_iushr (pc' := 181) w at_180 rfl ?_
    refine s_sipush (pc' := 184) (255 : Int32) w at_181 (by decide) rfl ?_
    refine s_iand (pc' := 185) w at_184 rfl ?_
    refine s_iconst (pc' := 186) (3 : Int32) w at_185 (by decide) rfl ?_
    refine s_irem (pc' := 187) w at_186 (by decide) rfl ?_
    obtain ⟨st', hst', est'⟩ := rem3 (Jvm.Free.XT.ushr sel (8 : Int32))
    rw [est']
    refine s_istore (pc' := 189) (ls' := #[vJ r0, sc, vJ r1, sc, vJ r2, sc, vJ q1, sc, vJ q2, sc, vI sel, vI l0, vI u0, vI l1, vI u1, vI l2, vI u2, vR (n0 + 0), vR (n0 + 5), vI s0, vI s1, vI s2, vI (Int32.ofNat v'), vI (Int32.ofNat st'), un, un, un, un, un, un, un, un, un]) w at_187 rfl rfl ?_
    refine s_iload (pc' := 191) w at_189 rfl rfl ?_
    have hv3 : v' = 0 ∨ v' = 1 ∨ v' = 2 := by omega
    rcases hv3 with rfl | rfl | rfl
    · change Go p e below _ T (mkF m 191 #[vJ r0, sc, vJ r1, sc, vJ r2, sc, vJ q1, sc, vJ q2, sc, vI sel, vI l0, vI u0, vI l1, vI u1, vI l2, vI u2, vR (n0 + 0), vR (n0 + 5), vI s0, vI s1, vI s2, vI (0 : Int32), vI (Int32.ofNat st'), un, un, un, un, un, un, un, un, un] [(.int (0 : Int32))])
      refine s_ifN (pc' := 194) w at_191 (Jvm.Free.XT.i0_ne_f rfl) rfl ?_
      refine s_iload (pc' := 196) w at_194 rfl rfl ?_
      refine s_iload (pc' := 198) w at_196 rfl rfl ?_
      refine s_lload (pc' := 200) w at_198 rfl rfl ?_
      refine s_bipush (pc' := 202) (32 : Int32) w at_200 (by decide) rfl ?_
      refine s_lushr (pc' := 203) w at_202 rfl ?_
      refine s_static (pc' := 206) (rest := []) 0 [(.int l0), (.int u0), (.long (Jvm.Free.XT.ushrL q2 (32 : Int32)))] w (c_pick hw l h0 n0 l0 u0 (Jvm.Free.XT.ushrL q2 (32 : Int32)) _ hl0) (t183 hw) (t184 hw) (t2 hw) (t185 hw) (by decide) pd22 at_203 (by decide) rfl rfl rfl rfl (Nat.le_of_eq rfl) rfl ?_
      intro T v L' hQ w
      obtain ⟨xv, rfl, loxv, hixv, hL⟩ := hQ
      replace hL := hL.symm
      subst hL
      dsimp only [oS, oN, cA, nA]
      refine s_istore (pc' := 208) (ls' := #[vJ r0, sc, vJ r1, sc, vJ r2, sc, vJ q1, sc, vJ q2, sc, vI sel, vI l0, vI u0, vI l1, vI u1, vI l2, vI u2, vR (n0 + 0), vR (n0 + 5), vI s0, vI s1, vI s2, vI (0 : Int32), vI (Int32.ofNat st'), vI xv, un, un, un, un, un, un, un, un]) w at_206 rfl rfl ?_
      refine s_goto (pc' := 248) w at_208 (by decide) (by decide) ?_
      refine s_iconst (pc' := 249) (3 : Int32) w at_248 (by decide) rfl ?_
      refine s_newarray (pc' := 251) (ty := .int) w (t111 hw) rfl (by intro C h; cases h) at_249 (by decide) 3 (by decide) (by decide) (by decide) (by decide) 14 rfl rfl ?_
      intro T w
      replace w : St p l e _ s m _ below meth c Z _ _ _ _ h0 n0 T [o0 (.int 3) (.ref (n0 + 2)) (.int 3), o1 .null (.ref ti) (.int l0) (.int u0) (.int l0) .null, aO ([.ref (n0 + 1), .ref (n0 + 3), .ref (n0 + 4), .null, .null, .null, .null, .null, .null, .null]), o1 .null (.ref ti) (.int l1) (.int u1) (.int l1) .null, o1 .null (.ref ti) (.int l2) (.int u2) (.int l2) .null, sOb n0 6 7 8 9 10 11 12 2 13 0, aJ ([]), aI (List.replicate 1024 (Value.int (-1))), aI ([]), aI ([.int l0, .int l1, .int l2]), aI ([.int 0, .int 0, .int 1]), aI ([.int (Int32.ofNat 0), .int (Int32.ofNat b0), .int (Int32.ofNat 0)]), aJ ([.long (mkM b0), .long (mkM b1), .long (mkM b2)]), aJ ([.long 0, .long 0]), aI ([(.int 0), (.int 0), (.int 0)])] 15 1084 := w
      refine s_dup (pc' := 252) w at_251 rfl rfl ?_
      refine s_iconst (pc' := 253) (0 : Int32) w at_252 (by decide) rfl ?_
      refine s_iload (pc' := 255) w at_253 rfl rfl ?_
      refine s_iastore (pc' := 256) (k := 14) w rfl at_255 (by decide) (leB rfl) rfl ?_
      intro T w
      refine s_dup (pc' := 257) w at_256 rfl rfl ?_
      refine s_iconst (pc' := 258) (1 : Int32) w at_257 (by decide) rfl ?_
      refine s_iload (pc' := 260) w at_258 rfl rfl ?_
      refine s_iastore (pc' := 261) (k := 14) w rfl at_260 (by decide) (leB rfl) rfl ?_
      intro T w
      refine s_dup (pc' := 262) w at_261 rfl rfl ?_
      refine s_iconst (pc' := 263) (2 : Int32) w at_262 (by decide) rfl ?_
      refine s_iload (pc' := 265) w at_263 rfl rfl ?_
      refine s_iastore (pc' := 266) (k := 14) w rfl at_265 (by decide) (leB rfl) rfl ?_
      intro T w
      replace w : St p l e _ s m _ below meth c Z _ _ _ _ h0 n0 T [o0 (.int 3) (.ref (n0 + 2)) (.int 3), o1 .null (.ref ti) (.int l0) (.int u0) (.int l0) .null, aO ([.ref (n0 + 1), .ref (n0 + 3), .ref (n0 + 4), .null, .null, .null, .null, .null, .null, .null]), o1 .null (.ref ti) (.int l1) (.int u1) (.int l1) .null, o1 .null (.ref ti) (.int l2) (.int u2) (.int l2) .null, sOb n0 6 7 8 9 10 11 12 2 13 0, aJ ([]), aI (List.replicate 1024 (Value.int (-1))), aI ([]), aI ([.int l0, .int l1, .int l2]), aI ([.int 0, .int 0, .int 1]), aI ([.int (Int32.ofNat 0), .int (Int32.ofNat b0), .int (Int32.ofNat 0)]), aJ ([.long (mkM b0), .long (mkM b1), .long (mkM b2)]), aJ ([.long 0, .long 0]), aI ([.int s0, .int s1, .int s2])] 15 1084 := w
      refine s_astore (pc' := 268) (ls' := #[vJ r0, sc, vJ r1, sc, vJ r2, sc, vJ q1, sc, vJ q2, sc, vI sel, vI l0, vI u0, vI l1, vI u1, vI l2, vI u2, vR (n0 + 0), vR (n0 + 5), vI s0, vI s1, vI s2, vI (0 : Int32), vI (Int32.ofNat st'), vI xv, vR (n0 + 14), un, un, un, un, un, un, un]) w at_266 rfl rfl rfl ?_
      refine s_iconst (pc' := 269) (3 : Int32) w at_268 (by decide) rfl ?_
      refine s_newarray (pc' := 271) (ty := .int) w (t111 hw) rfl (by intro C h; cases h) at_269 (by decide) 3 (by decide) (by decide) (by decide) (by decide) 15 rfl rfl ?_
      intro T w
      replace w : St p l e _ s m _ below meth c Z _ _ _ _ h0 n0 T [o0 (.int 3) (.ref (n0 + 2)) (.int 3), o1 .null (.ref ti) (.int l0) (.int u0) (.int l0) .null, aO ([.ref (n0 + 1), .ref (n0 + 3), .ref (n0 + 4), .null, .null, .null, .null, .null, .null, .null]), o1 .null (.ref ti) (.int l1) (.int u1) (.int l1) .null, o1 .null (.ref ti) (.int l2) (.int u2) (.int l2) .null, sOb n0 6 7 8 9 10 11 12 2 13 0, aJ ([]), aI (List.replicate 1024 (Value.int (-1))), aI ([]), aI ([.int l0, .int l1, .int l2]), aI ([.int 0, .int 0, .int 1]), aI ([.int (Int32.ofNat 0), .int (Int32.ofNat b0), .int (Int32.ofNat 0)]), aJ ([.long (mkM b0), .long (mkM b1), .long (mkM b2)]), aJ ([.long 0, .long 0]), aI ([.int s0, .int s1, .int s2]), aI ([(.int 0), (.int 0), (.int 0)])] 16 1087 := w
      refine s_dup (pc' := 272) w at_271 rfl rfl ?_
      refine s_iconst (pc' := 273) (0 : Int32) w at_272 (by decide) rfl ?_
      refine s_iload (pc' := 275) w at_273 rfl rfl ?_
      refine s_iastore (pc' := 276) (k := 15) w rfl at_275 (by decide) (leB rfl) rfl ?_
      intro T w
      refine s_dup (pc' := 277) w at_276 rfl rfl ?_
      refine s_iconst (pc' := 278) (1 : Int32) w at_277 (by decide) rfl ?_
      refine s_iload (pc' := 280) w at_278 rfl rfl ?_
      refine s_iastore (pc' := 281) (k := 15) w rfl at_280 (by decide) (leB rfl) rfl ?_
      intro T w
      refine s_dup (pc' := 282) w at_281 rfl rfl ?_
      refine s_iconst (pc' := 283) (2 : Int32) w at_282 (by decide) rfl ?_
      refine s_iload (pc' := 285) w at_283 rfl rfl ?_
      refine s_iastore (pc' := 286) (k := 15) w rfl at_285 (by decide) (leB rfl) rfl ?_
      intro T w
      replace w : St p l e _ s m _ below meth c Z _ _ _ _ h0 n0 T [o0 (.int 3) (.ref (n0 + 2)) (.int 3), o1 .null (.ref ti) (.int l0) (.int u0) (.int l0) .null, aO ([.ref (n0 + 1), .ref (n0 + 3), .ref (n0 + 4), .null, .null, .null, .null, .null, .null, .null]), o1 .null (.ref ti) (.int l1) (.int u1) (.int l1) .null, o1 .null (.ref ti) (.int l2) (.int u2) (.int l2) .null, sOb n0 6 7 8 9 10 11 12 2 13 0, aJ ([]), aI (List.replicate 1024 (Value.int (-1))), aI ([]), aI ([.int l0, .int l1, .int l2]), aI ([.int 0, .int 0, .int 1]), aI ([.int (Int32.ofNat 0), .int (Int32.ofNat b0), .int (Int32.ofNat 0)]), aJ ([.long (mkM b0), .long (mkM b1), .long (mkM b2)]), aJ ([.long 0, .long 0]), aI ([.int s0, .int s1, .int s2]), aI ([.int s0, .int s1, .int s2])] 16 1087 := w
      refine s_astore (pc' := 288) (ls' := #[vJ r0, sc, vJ r1, sc, vJ r2, sc, vJ q1, sc, vJ q2, sc, vI sel, vI l0, vI u0, vI l1, vI u1, vI l2, vI u2, vR (n0 + 0), vR (n0 + 5), vI s0, vI s1, vI s2, vI (0 : Int32), vI (Int32.ofNat st'), vI xv, vR (n0 + 14), vR (n0 + 15), un, un, un, un, un, un]) w at_286 rfl rfl rfl ?_
      refine s_aload (pc' := 290) w at_288 rfl rfl rfl ?_
      refine s_iload (pc' := 292) w at_290 rfl rfl ?_
      refine s_iload (pc' := 294) w at_292 rfl rfl ?_
      refine s_iastore (pc' := 295) (k := 15) w rfl at_294 (by decide) (leB rfl) rfl ?_
      intro T w
      replace w : St p l e _ s m _ below meth c Z _ _ _ _ h0 n0 T [o0 (.int 3) (.ref (n0 + 2)) (.int 3), o1 .null (.ref ti) (.int l0) (.int u0) (.int l0) .null, aO ([.ref (n0 + 1), .ref (n0 + 3), .ref (n0 + 4), .null, .null, .null, .null, .null, .null, .null]), o1 .null (.ref ti) (.int l1) (.int u1) (.int l1) .null, o1 .null (.ref ti) (.int l2) (.int u2) (.int l2) .null, sOb n0 6 7 8 9 10 11 12 2 13 0, aJ ([]), aI (List.replicate 1024 (Value.int (-1))), aI ([]), aI ([.int l0, .int l1, .int l2]), aI ([.int 0, .int 0, .int 1]), aI ([.int (Int32.ofNat 0), .int (Int32.ofNat b0), .int (Int32.ofNat 0)]), aJ ([.long (mkM b0), .long (mkM b1), .long (mkM b2)]), aJ ([.long 0, .long 0]), aI ([.int s0, .int s1, .int s2]), aI ([.int xv, .int s1, .int s2])] 16 1087 := w
      refine s_lload (pc' := 297) w at_295 rfl rfl ?_
      refine s_lloadN (pc' := 298) w at_297 rfl rfl ?_
      refine s_lxor (pc' := 299) w at_298 rfl ?_
      generalize hww : (q2 ^^^ r0) = ww
      refine s_lstore (pc' := 301) (ls' := #[vJ r0, sc, vJ r1, sc, vJ r2, sc, vJ q1, sc, vJ q2, sc, vI sel, vI l0, vI u0, vI l1, vI u1, vI l2, vI u2, vR (n0 + 0), vR (n0 + 5), vI s0, vI s1, vI s2, vI (0 : Int32), vI (Int32.ofNat st'), vI xv, vR (n0 + 14), vR (n0 + 15), vJ ww, sc, un, un, un, un]) w at_299 rfl rfl ?_
      refine s_iconst (pc' := 302) (5 : Int32) w at_301 (by decide) rfl ?_
      refine s_newarray (pc' := 304) (ty := .long) w (t100 hw) rfl (by intro C h; cases h) at_302 (by decide) 5 (by decide) (by decide) (by decide) (by decide) 16 rfl rfl ?_
      intro T w
      replace w : St p l e _ s m _ below meth c Z _ _ _ _ h0 n0 T [o0 (.int 3) (.ref (n0 + 2)) (.int 3), o1 .null (.ref ti) (.int l0) (.int u0) (.int l0) .null, aO ([.ref (n0 + 1), .ref (n0 + 3), .ref (n0 + 4), .null, .null, .null, .null, .null, .null, .null]), o1 .null (.ref ti) (.int l1) (.int u1) (.int l1) .null, o1 .null (.ref ti) (.int l2) (.int u2) (.int l2) .null, sOb n0 6 7 8 9 10 11 12 2 13 0, aJ ([]), aI (List.replicate 1024 (Value.int (-1))), aI ([]), aI ([.int l0, .int l1, .int l2]), aI ([.int 0, .int 0, .int 1]), aI ([.int (Int32.ofNat 0), .int (Int32.ofNat b0), .int (Int32.ofNat 0)]), aJ ([.long (mkM b0), .long (mkM b1), .long (mkM b2)]), aJ ([.long 0, .long 0]), aI ([.int s0, .int s1, .int s2]), aI ([.int xv, .int s1, .int s2]), aJ ([(.long 0), (.long 0), (.long 0), (.long 0), (.long 0)])] 17 1092 := w
      refine s_dup (pc' := 305) w at_304 rfl rfl ?_
      refine s_iconst (pc' := 306) (0 : Int32) w at_305 (by decide) rfl ?_
      refine s_lload (pc' := 308) w at_306 rfl rfl ?_
      refine s_lastore (pc' := 309) (k := 16) w rfl at_308 (by decide) (leB rfl) rfl ?_
      intro T w
      refine s_dup (pc' := 310) w at_309 rfl rfl ?_
      refine s_iconst (pc' := 311) (1 : Int32) w at_310 (by decide) rfl ?_
      refine s_lload (pc' := 313) w at_311 rfl rfl ?_
      refine s_lastore (pc' := 314) (k := 16) w rfl at_313 (by decide) (leB rfl) rfl ?_
      intro T w
      refine s_dup (pc' := 315) w at_314 rfl rfl ?_
      refine s_iconst (pc' := 316) (2 : Int32) w at_315 (by decide) rfl ?_
      refine s_lload (pc' := 318) w at_316 rfl rfl ?_
      refine s_lastore (pc' := 319) (k := 16) w rfl at_318 (by decide) (leB rfl) rfl ?_
      intro T w
      refine s_dup (pc' := 320) w at_319 rfl rfl ?_
      refine s_iconst (pc' := 321) (3 : Int32) w at_320 (by decide) rfl ?_
      refine s_lload (pc' := 323) w at_321 rfl rfl ?_
      refine s_lastore (pc' := 324) (k := 16) w rfl at_323 (by decide) (leB rfl) rfl ?_
      intro T w
      refine s_dup (pc' := 325) w at_324 rfl rfl ?_
      refine s_iconst (pc' := 326) (4 : Int32) w at_325 (by decide) rfl ?_
      refine s_lload (pc' := 328) w at_326 rfl rfl ?_
      refine s_lastore (pc' := 329) (k := 16) w rfl at_328 (by decide) (leB rfl) rfl ?_
      intro T w
      replace w : St p l e _ s m _ below meth c Z _ _ _ _ h0 n0 T [o0 (.int 3) (.ref (n0 + 2)) (.int 3), o1 .null (.ref ti) (.int l0) (.int u0) (.int l0) .null, aO ([.ref (n0 + 1), .ref (n0 + 3), .ref (n0 + 4), .null, .null, .null, .null, .null, .null, .null]), o1 .null (.ref ti) (.int l1) (.int u1) (.int l1) .null, o1 .null (.ref ti) (.int l2) (.int u2) (.int l2) .null, sOb n0 6 7 8 9 10 11 12 2 13 0, aJ ([]), aI (List.replicate 1024 (Value.int (-1))), aI ([]), aI ([.int l0, .int l1, .int l2]), aI ([.int 0, .int 0, .int 1]), aI ([.int (Int32.ofNat 0), .int (Int32.ofNat b0), .int (Int32.ofNat 0)]), aJ ([.long (mkM b0), .long (mkM b1), .long (mkM b2)]), aJ ([.long 0, .long 0]), aI ([.int s0, .int s1, .int s2]), aI ([.int xv, .int s1, .int s2]), aJ ([.long ww, .long ww, .long ww, .long ww, .long ww])] 17 1092 := w
      refine s_astore (pc' := 331) (ls' := #[vJ r0, sc, vJ r1, sc, vJ r2, sc, vJ q1, sc, vJ q2, sc, vI sel, vI l0, vI u0, vI l1, vI u1, vI l2, vI u2, vR (n0 + 0), vR (n0 + 5), vI s0, vI s1, vI s2, vI (0 : Int32), vI (Int32.ofNat st'), vI xv, vR (n0 + 14), vR (n0 + 15), vJ ww, sc, vR (n0 + 16), un, un, un]) w at_329 rfl rfl rfl ?_
      refine s_iconst (pc' := 332) (5 : Int32) w at_331 (by decide) rfl ?_
      refine s_newarray (pc' := 334) (ty := .long) w (t100 hw) rfl (by intro C h; cases h) at_332 (by decide) 5 (by decide) (by decide) (by decide) (by decide) 17 rfl rfl ?_
      intro T w
      replace w : St p l e _ s m _ below meth c Z _ _ _ _ h0 n0 T [o0 (.int 3) (.ref (n0 + 2)) (.int 3), o1 .null (.ref ti) (.int l0) (.int u0) (.int l0) .null, aO ([.ref (n0 + 1), .ref (n0 + 3), .ref (n0 + 4), .null, .null, .null, .null, .null, .null, .null]), o1 .null (.ref ti) (.int l1) (.int u1) (.int l1) .null, o1 .null (.ref ti) (.int l2) (.int u2) (.int l2) .null, sOb n0 6 7 8 9 10 11 12 2 13 0, aJ ([]), aI (List.replicate 1024 (Value.int (-1))), aI ([]), aI ([.int l0, .int l1, .int l2]), aI ([.int 0, .int 0, .int 1]), aI ([.int (Int32.ofNat 0), .int (Int32.ofNat b0), .int (Int32.ofNat 0)]), aJ ([.long (mkM b0), .long (mkM b1), .long (mkM b2)]), aJ ([.long 0, .long 0]), aI ([.int s0, .int s1, .int s2]), aI ([.int xv, .int s1, .int s2]), aJ ([.long ww, .long ww, .long ww, .long ww, .long ww]), aJ ([(.long 0), (.long 0), (.long 0), (.long 0), (.long 0)])] 18 1097 := w
      refine s_dup (pc' := 335) w at_334 rfl rfl ?_
      refine s_iconst (pc' := 336) (0 : Int32) w at_335 (by decide) rfl ?_
      refine s_lload (pc' := 338) w at_336 rfl rfl ?_
      refine s_lastore (pc' := 339) (k := 17) w rfl at_338 (by decide) (leB rfl) rfl ?_
      intro T w
      refine s_dup (pc' := 340) w at_339 rfl rfl ?_
      refine s_iconst (pc' := 341) (1 : Int32) w at_340 (by decide) rfl ?_
      refine s_lload (pc' := 343) w at_341 rfl rfl ?_
      refine s_lastore (pc' := 344) (k := 17) w rfl at_343 (by decide) (leB rfl) rfl ?_
      intro T w
      refine s_dup (pc' := 345) w at_344 rfl rfl ?_
      refine s_iconst (pc' := 346) (2 : Int32) w at_345 (by decide) rfl ?_
      refine s_lload (pc' := 348) w at_346 rfl rfl ?_
      refine s_lastore (pc' := 349) (k := 17) w rfl at_348 (by decide) (leB rfl) rfl ?_
      intro T w
      refine s_dup (pc' := 350) w at_349 rfl rfl ?_
      refine s_iconst (pc' := 351) (3 : Int32) w at_350 (by decide) rfl ?_
      refine s_lload (pc' := 353) w at_351 rfl rfl ?_
      refine s_lastore (pc' := 354) (k := 17) w rfl at_353 (by decide) (leB rfl) rfl ?_
      intro T w
      refine s_dup (pc' := 355) w at_354 rfl rfl ?_
      refine s_iconst (pc' := 356) (4 : Int32) w at_355 (by decide) rfl ?_
      refine s_lload (pc' := 358) w at_356 rfl rfl ?_
      refine s_lastore (pc' := 359) (k := 17) w rfl at_358 (by decide) (leB rfl) rfl ?_
      intro T w
      replace w : St p l e _ s m _ below meth c Z _ _ _ _ h0 n0 T [o0 (.int 3) (.ref (n0 + 2)) (.int 3), o1 .null (.ref ti) (.int l0) (.int u0) (.int l0) .null, aO ([.ref (n0 + 1), .ref (n0 + 3), .ref (n0 + 4), .null, .null, .null, .null, .null, .null, .null]), o1 .null (.ref ti) (.int l1) (.int u1) (.int l1) .null, o1 .null (.ref ti) (.int l2) (.int u2) (.int l2) .null, sOb n0 6 7 8 9 10 11 12 2 13 0, aJ ([]), aI (List.replicate 1024 (Value.int (-1))), aI ([]), aI ([.int l0, .int l1, .int l2]), aI ([.int 0, .int 0, .int 1]), aI ([.int (Int32.ofNat 0), .int (Int32.ofNat b0), .int (Int32.ofNat 0)]), aJ ([.long (mkM b0), .long (mkM b1), .long (mkM b2)]), aJ ([.long 0, .long 0]), aI ([.int s0, .int s1, .int s2]), aI ([.int xv, .int s1, .int s2]), aJ ([.long ww, .long ww, .long ww, .long ww, .long ww]), aJ ([.long ww, .long ww, .long ww, .long ww, .long ww])] 18 1097 := w
      refine s_astore (pc' := 361) (ls' := #[vJ r0, sc, vJ r1, sc, vJ r2, sc, vJ q1, sc, vJ q2, sc, vI sel, vI l0, vI u0, vI l1, vI u1, vI l2, vI u2, vR (n0 + 0), vR (n0 + 5), vI s0, vI s1, vI s2, vI (0 : Int32), vI (Int32.ofNat st'), vI xv, vR (n0 + 14), vR (n0 + 15), vJ ww, sc, vR (n0 + 16), vR (n0 + 17), un, un]) w at_359 rfl rfl rfl ?_
      refine s_aload (pc' := 363) w at_361 rfl rfl rfl ?_
      refine s_aload (pc' := 365) w at_363 rfl rfl rfl ?_
      refine s_virtual (pc' := 368) (rest := []) 0 [(.ref (n0 + 14))] w (c_addOne2 hw l h0 n0 5 6 7 8 9 10 11 12 13 (n0 + 14) s0 s1 s2 l0 l1 l2 (Int32.ofNat 0) (Int32.ofNat b0) (Int32.ofNat 0) 0 0 _ rfl rfl rfl rfl rfl rfl rfl (Lk.new (k := 14) rfl) (by decide) (by decide) (by decide) (by decide) (ad_ne (by decide)) (by decide) (by decide) (by decide)) (Lk.new (k := 5) rfl) (t186 hw) (t187 hw) (w.notFace (t189 hw)) (t189 hw) (t188 hw) (t95 hw) (t190 hw) (by decide) pd23 at_365 (by decide) rfl rfl rfl rfl (Nat.le_of_eq rfl) rfl ?_
      intro T v L' hQ w
      obtain ⟨rfl, hL⟩ := hQ
      replace hL := hL.symm
      subst hL
      dsimp only [oS, oN, cA, nA]
      replace w : St p l e _ s m _ below meth c Z _ _ _ _ h0 n0 T [o0 (.int 3) (.ref (n0 + 2)) (.int 3), o1 .null (.ref ti) (.int l0) (.int u0) (.int l0) .null, aO ([.ref (n0 + 1), .ref (n0 + 3), .ref (n0 + 4), .null, .null, .null, .null, .null, .null, .null]), o1 .null (.ref ti) (.int l1) (.int u1) (.int l1) .null, o1 .null (.ref ti) (.int l2) (.int u2) (.int l2) .null, sOb n0 18 7 8 9 10 11 12 2 13 1, aJ ([]), aI ((List.replicate 1024 (Value.int (-1))).set ((hfin (hfold [(((0 : Int64) ||| (dS s0 l0 (Int32.ofNat 0))) ||| (dS s1 l1 (Int32.ofNat b0))), ((0 : Int64) ||| (dS s2 l2 (Int32.ofNat 0)))])) &&& (1023 : Int32)).toNatClampNeg (.int (entF 0 (hfin (hfold [(((0 : Int64) ||| (dS s0 l0 (Int32.ofNat 0))) ||| (dS s1 l1 (Int32.ofNat b0))), ((0 : Int64) ||| (dS s2 l2 (Int32.ofNat 0)))]))))), aI ([]), aI ([.int l0, .int l1, .int l2]), aI ([.int 0, .int 0, .int 1]), aI ([.int (Int32.ofNat 0), .int (Int32.ofNat b0), .int (Int32.ofNat 0)]), aJ ([.long (mkM b0), .long (mkM b1), .long (mkM b2)]), aJ ([.long (((0 : Int64) ||| (dS s0 l0 (Int32.ofNat 0))) ||| (dS s1 l1 (Int32.ofNat b0))), .long ((0 : Int64) ||| (dS s2 l2 (Int32.ofNat 0)))]), aI ([.int s0, .int s1, .int s2]), aI ([.int xv, .int s1, .int s2]), aJ ([.long ww, .long ww, .long ww, .long ww, .long ww]), aJ ([.long ww, .long ww, .long ww, .long ww, .long ww]), aJ ([.long (((0 : Int64) ||| (dS s0 l0 (Int32.ofNat 0))) ||| (dS s1 l1 (Int32.ofNat b0))), .long ((0 : Int64) ||| (dS s2 l2 (Int32.ofNat 0)))] ++ List.replicate 1022 (.long 0))] 19 2121 := w
      generalize hA0 : (((0 : Int64) ||| (dS s0 l0 (Int32.ofNat 0))) ||| (dS s1 l1 (Int32.ofNat b0))) = A0 at w
      generalize hA1 : ((0 : Int64) ||| (dS s2 l2 (Int32.ofNat 0))) = A1 at w
      refine s_istore (pc' := 370) (ls' := #[vJ r0, sc, vJ r1, sc, vJ r2, sc, vJ q1, sc, vJ q2, sc, vI sel, vI l0, vI u0, vI l1, vI u1, vI l2, vI u2, vR (n0 + 0), vR (n0 + 5), vI s0, vI s1, vI s2, vI (0 : Int32), vI (Int32.ofNat st'), vI xv, vR (n0 + 14), vR (n0 + 15), vJ ww, sc, vR (n0 + 16), vR (n0 + 17), vI (0 : Int32), un]) w at_368 rfl rfl ?_
      refine s_aload (pc' := 372) w at_370 rfl rfl rfl ?_
      refine s_iload (pc' := 374) w at_372 rfl rfl ?_
      refine s_aload (pc' := 376) w at_374 rfl rfl rfl ?_
      refine s_iload (pc' := 378) w at_376 rfl rfl ?_
      change Go p e below _ T (mkF m 378 #[vJ r0, sc, vJ r1, sc, vJ r2, sc, vJ q1, sc, vJ q2, sc, vI sel, vI l0, vI u0, vI l1, vI u1, vI l2, vI u2, vR (n0 + 0), vR (n0 + 5), vI s0, vI s1, vI s2, vI (0 : Int32), vI (Int32.ofNat st'), vI xv, vR (n0 + 14), vR (n0 + 15), vJ ww, sc, vR (n0 + 16), vR (n0 + 17), vI (0 : Int32), un] [(.int (Int32.ofNat st')), (.ref (n0 + 16)), (.int (Int32.ofNat 0)), (.ref (n0 + 5))])
      refine s_virtual (pc' := 381) (rest := []) 0 [(.int (Int32.ofNat 0)), (.ref (n0 + 16)), (.int (Int32.ofNat st'))] w (c_key2 hw l h0 n0 5 18 7 8 9 10 11 12 13 1 16 0 st' _ [Value.long ww, Value.long ww, Value.long ww, Value.long ww, Value.long ww] _ rfl rfl rfl (by decide) (by omega) (by simp) (by simp; omega)) (Lk.new (k := 5) rfl) (t238 hw) (t239 hw) (w.notFace (t241 hw)) (t241 hw) (t240 hw) (t95 hw) (t242 hw) (by decide) pd24 at_378 (by decide) rfl rfl rfl rfl (Nat.le_of_eq rfl) rfl ?_
      intro T v L' hQ w
      obtain ⟨rfl, hL⟩ := hQ
      replace hL := hL.symm
      subst hL
      dsimp only [oS, oN, cA, nA]
      replace w : St p l e _ s m _ below meth c Z _ _ _ _ h0 n0 T [o0 (.int 3) (.ref (n0 + 2)) (.int 3), o1 .null (.ref ti) (.int l0) (.int u0) (.int l0) .null, aO ([.ref (n0 + 1), .ref (n0 + 3), .ref (n0 + 4), .null, .null, .null, .null, .null, .null, .null]), o1 .null (.ref ti) (.int l1) (.int u1) (.int l1) .null, o1 .null (.ref ti) (.int l2) (.int u2) (.int l2) .null, sOb n0 18 7 8 9 10 11 12 2 13 1, aJ ([]), aI ((List.replicate 1024 (Value.int (-1))).set ((hfin (hfold [A0, A1])) &&& (1023 : Int32)).toNatClampNeg (.int (entF 0 (hfin (hfold [A0, A1]))))), aI ([]), aI ([.int l0, .int l1, .int l2]), aI ([.int 0, .int 0, .int 1]), aI ([.int (Int32.ofNat 0), .int (Int32.ofNat b0), .int (Int32.ofNat 0)]), aJ ([.long (mkM b0), .long (mkM b1), .long (mkM b2)]), aJ ([.long A0, .long A1]), aI ([.int s0, .int s1, .int s2]), aI ([.int xv, .int s1, .int s2]), aJ (List.take st' [Value.long ww, Value.long ww, Value.long ww, Value.long ww, Value.long ww] ++ [Value.long A0, Value.long A1] ++ List.drop (st' + 2) [Value.long ww, Value.long ww, Value.long ww, Value.long ww, Value.long ww]), aJ ([.long ww, .long ww, .long ww, .long ww, .long ww]), aJ ([.long A0, .long A1] ++ List.replicate 1022 (.long 0))] 19 2121 := w
      refine s_aload (pc' := 383) w at_381 rfl rfl rfl ?_
      refine s_aload (pc' := 385) w at_383 rfl rfl rfl ?_
      refine s_iload (pc' := 387) w at_385 rfl rfl ?_
      refine s_iload (pc' := 389) w at_387 rfl rfl ?_
      refine s_iload (pc' := 391) w at_389 rfl rfl ?_
      refine s_virtual (pc' := 394) (rest := []) 0 [(.ref (n0 + 16)), (.int (Int32.ofNat st')), (.int (0 : Int32)), (.int xv)] w (c_set2_0 hw l h0 n0 5 18 7 8 9 10 11 12 13 1 16 st' xv l0 l1 l2 (Int32.ofNat 0) (Int32.ofNat b0) (Int32.ofNat 0) (mkM b0) (mkM b1) (mkM b2) A0 (List.take st' [Value.long ww, Value.long ww, Value.long ww, Value.long ww, Value.long ww] ++ [Value.long A0, Value.long A1] ++ List.drop (st' + 2) [Value.long ww, Value.long ww, Value.long ww, Value.long ww, Value.long ww]) _ rfl rfl rfl rfl rfl rfl (by omega) (key_at2_0 hst')) (Lk.new (k := 5) rfl) (t243 hw) (t244 hw) (w.notFace (t246 hw)) (t246 hw) (t245 hw) (t95 hw) (t247 hw) (by decide) pd25 at_391 (by decide) rfl rfl rfl rfl (Nat.le_of_eq rfl) rfl ?_
      intro T v L' hQ w
      obtain ⟨rfl, hL⟩ := hQ
      replace hL := hL.symm
      subst hL
      dsimp only [oS, oN, cA, nA]
      replace w : St p l e _ s m _ below meth c Z _ _ _ _ h0 n0 T [o0 (.int 3) (.ref (n0 + 2)) (.int 3), o1 .null (.ref ti) (.int l0) (.int u0) (.int l0) .null, aO ([.ref (n0 + 1), .ref (n0 + 3), .ref (n0 + 4), .null, .null, .null, .null, .null, .null, .null]), o1 .null (.ref ti) (.int l1) (.int u1) (.int l1) .null, o1 .null (.ref ti) (.int l2) (.int u2) (.int l2) .null, sOb n0 18 7 8 9 10 11 12 2 13 1, aJ ([]), aI ((List.replicate 1024 (Value.int (-1))).set ((hfin (hfold [A0, A1])) &&& (1023 : Int32)).toNatClampNeg (.int (entF 0 (hfin (hfold [A0, A1]))))), aI ([]), aI ([.int l0, .int l1, .int l2]), aI ([.int 0, .int 0, .int 1]), aI ([.int (Int32.ofNat 0), .int (Int32.ofNat b0), .int (Int32.ofNat 0)]), aJ ([.long (mkM b0), .long (mkM b1), .long (mkM b2)]), aJ ([.long A0, .long A1]), aI ([.int s0, .int s1, .int s2]), aI ([.int xv, .int s1, .int s2]), aJ ((List.take st' [Value.long ww, Value.long ww, Value.long ww, Value.long ww, Value.long ww] ++ [Value.long A0, Value.long A1] ++ List.drop (st' + 2) [Value.long ww, Value.long ww, Value.long ww, Value.long ww, Value.long ww]).set (st' + 0) (.long (setF A0 (mkM b0) (Int32.ofNat 0) xv l0))), aJ ([.long ww, .long ww, .long ww, .long ww, .long ww]), aJ ([.long A0, .long A1] ++ List.replicate 1022 (.long 0))] 19 2121 := w
      refine s_aload (pc' := 396) w at_394 rfl rfl rfl ?_
      refine s_aload (pc' := 398) w at_396 rfl rfl rfl ?_
      refine s_virtual (pc' := 401) (rest := []) 0 [(.ref (n0 + 15))] w (c_addTwo2 hw l h0 n0 5 18 7 8 9 10 11 12 13 (n0 + 15) xv s1 s2 l0 l1 l2 (Int32.ofNat 0) (Int32.ofNat b0) (Int32.ofNat 0) A0 A1 (hfin (hfold [A0, A1])) A0 A1 _ rfl rfl rfl rfl rfl rfl rfl (Lk.new (k := 15) rfl) (by decide) (by decide) (by decide) (by decide) (ad_ne (by decide)) (by decide) (by decide) (by decide) (by decide) (by decide)) (Lk.new (k := 5) rfl) (t186 hw) (t187 hw) (w.notFace (t189 hw)) (t189 hw) (t188 hw) (t95 hw) (t190 hw) (by decide) pd23 at_398 (by decide) rfl rfl rfl rfl (Nat.le_of_eq rfl) rfl ?_
      intro T v L' hQ w
      rcases hQ with ⟨rfl, hL, hz⟩ | ⟨rfl, tb, hL⟩
      · replace hL := hL.symm
        subst hL
        replace w : St p l e _ s m _ below meth c Z _ _ _ _ h0 n0 T [o0 (.int 3) (.ref (n0 + 2)) (.int 3), o1 .null (.ref ti) (.int l0) (.int u0) (.int l0) .null, aO ([.ref (n0 + 1), .ref (n0 + 3), .ref (n0 + 4), .null, .null, .null, .null, .null, .null, .null]), o1 .null (.ref ti) (.int l1) (.int u1) (.int l1) .null, o1 .null (.ref ti) (.int l2) (.int u2) (.int l2) .null, sOb n0 18 7 8 9 10 11 12 2 13 1, aJ ([]), aI ((List.replicate 1024 (Value.int (-1))).set ((hfin (hfold [A0, A1])) &&& (1023 : Int32)).toNatClampNeg (.int (entF 0 (hfin (hfold [A0, A1]))))), aI ([]), aI ([.int l0, .int l1, .int l2]), aI ([.int 0, .int 0, .int 1]), aI ([.int (Int32.ofNat 0), .int (Int32.ofNat b0), .int (Int32.ofNat 0)]), aJ ([.long (mkM b0), .long (mkM b1), .long (mkM b2)]), aJ ([.long (((0 : Int64) ||| (dS xv l0 (Int32.ofNat 0))) ||| (dS s1 l1 (Int32.ofNat b0))), .long ((0 : Int64) ||| (dS s2 l2 (Int32.ofNat 0)))]), aI ([.int s0, .int s1, .int s2]), aI ([.int xv, .int s1, .int s2]), aJ ((List.take st' [Value.long ww, Value.long ww, Value.long ww, Value.long ww, Value.long ww] ++ [Value.long A0, Value.long A1] ++ List.drop (st' + 2) [Value.long ww, Value.long ww, Value.long ww, Value.long ww, Value.long ww]).set (st' + 0) (.long (setF A0 (mkM b0) (Int32.ofNat 0) xv l0))), aJ ([.long ww, .long ww, .long ww, .long ww, .long ww]), aJ ([.long A0, .long A1] ++ List.replicate 1022 (.long 0))] 19 2121 := w
        change Go p e below _ T (mkF m 401 #[vJ r0, sc, vJ r1, sc, vJ r2, sc, vJ q1, sc, vJ q2, sc, vI sel, vI l0, vI u0, vI l1, vI u1, vI l2, vI u2, vR (n0 + 0), vR (n0 + 5), vI s0, vI s1, vI s2, vI (0 : Int32), vI (Int32.ofNat st'), vI xv, vR (n0 + 14), vR (n0 + 15), vJ ww, sc, vR (n0 + 16), vR (n0 + 17), vI (0 : Int32), un] [(.int (0 : Int32))])
        generalize hB0 : (((0 : Int64) ||| (dS xv l0 (Int32.ofNat 0))) ||| (dS s1 l1 (Int32.ofNat b0))) = B0 at w hz
        generalize hB1 : ((0 : Int64) ||| (dS s2 l2 (Int32.ofNat 0))) = B1 at w hz
        refine s_istore (pc' := 403) (ls' := #[vJ r0, sc, vJ r1, sc, vJ r2, sc, vJ q1, sc, vJ q2, sc, vI sel, vI l0, vI u0, vI l1, vI u1, vI l2, vI u2, vR (n0 + 0), vR (n0 + 5), vI s0, vI s1, vI s2, vI (0 : Int32), vI (Int32.ofNat st'), vI xv, vR (n0 + 14), vR (n0 + 15), vJ ww, sc, vR (n0 + 16), vR (n0 + 17), vI (0 : Int32), vI (0 : Int32)]) w at_401 rfl rfl ?_
        refine s_aload (pc' := 405) w at_403 rfl rfl rfl ?_
        refine s_iload (pc' := 407) w at_405 rfl rfl ?_
        refine s_aload (pc' := 409) w at_407 rfl rfl rfl ?_
        refine s_iload (pc' := 411) w at_409 rfl rfl ?_
        change Go p e below _ T (mkF m 411 #[vJ r0, sc, vJ r1, sc, vJ r2, sc, vJ q1, sc, vJ q2, sc, vI sel, vI l0, vI u0, vI l1, vI u1, vI l2, vI u2, vR (n0 + 0), vR (n0 + 5), vI s0, vI s1, vI s2, vI (0 : Int32), vI (Int32.ofNat st'), vI xv, vR (n0 + 14), vR (n0 + 15), vJ ww, sc, vR (n0 + 16), vR (n0 + 17), vI (0 : Int32), vI (0 : Int32)] [(.int (Int32.ofNat st')), (.ref (n0 + 17)), (.int (Int32.ofNat 0)), (.ref (n0 + 5))])
        refine s_virtual (pc' := 414) (rest := []) 0 [(.int (Int32.ofNat 0)), (.ref (n0 + 17)), (.int (Int32.ofNat st'))] w (c_key2 hw l h0 n0 5 18 7 8 9 10 11 12 13 1 17 0 st' _ [Value.long ww, Value.long ww, Value.long ww, Value.long ww, Value.long ww] _ rfl rfl rfl (by decide) (by omega) (by simp) (by simp; omega)) (Lk.new (k := 5) rfl) (t238 hw) (t239 hw) (w.notFace (t241 hw)) (t241 hw) (t240 hw) (t95 hw) (t242 hw) (by decide) pd24 at_411 (by decide) rfl rfl rfl rfl (Nat.le_of_eq rfl) rfl ?_
        intro T v L' hQ w
        obtain ⟨rfl, hL⟩ := hQ
        replace hL := hL.symm
        subst hL
        dsimp only [oS, oN, cA, nA]
        replace w : St p l e _ s m _ below meth c Z _ _ _ _ h0 n0 T [o0 (.int 3) (.ref (n0 + 2)) (.int 3), o1 .null (.ref ti) (.int l0) (.int u0) (.int l0) .null, aO ([.ref (n0 + 1), .ref (n0 + 3), .ref (n0 + 4), .null, .null, .null, .null, .null, .null, .null]), o1 .null (.ref ti) (.int l1) (.int u1) (.int l1) .null, o1 .null (.ref ti) (.int l2) (.int u2) (.int l2) .null, sOb n0 18 7 8 9 10 11 12 2 13 1, aJ ([]), aI ((List.replicate 1024 (Value.int (-1))).set ((hfin (hfold [A0, A1])) &&& (1023 : Int32)).toNatClampNeg (.int (entF 0 (hfin (hfold [A0, A1]))))), aI ([]), aI ([.int l0, .int l1, .int l2]), aI ([.int 0, .int 0, .int 1]), aI ([.int (Int32.ofNat 0), .int (Int32.ofNat b0), .int (Int32.ofNat 0)]), aJ ([.long (mkM b0), .long (mkM b1), .long (mkM b2)]), aJ ([.long B0, .long B1]), aI ([.int s0, .int s1, .int s2]), aI ([.int xv, .int s1, .int s2]), aJ ((List.take st' [Value.long ww, Value.long ww, Value.long ww, Value.long ww, Value.long ww] ++ [Value.long A0, Value.long A1] ++ List.drop (st' + 2) [Value.long ww, Value.long ww, Value.long ww, Value.long ww, Value.long ww]).set (st' + 0) (.long (setF A0 (mkM b0) (Int32.ofNat 0) xv l0))), aJ (List.take st' [Value.long ww, Value.long ww, Value.long ww, Value.long ww, Value.long ww] ++ [Value.long A0, Value.long A1] ++ List.drop (st' + 2) [Value.long ww, Value.long ww, Value.long ww, Value.long ww, Value.long ww]), aJ ([.long A0, .long A1] ++ List.replicate 1022 (.long 0))] 19 2121 := w
        refine s_aload (pc' := 416) w at_414 rfl rfl rfl ?_
        refine s_iconst (pc' := 417) (0 : Int32) w at_416 (by decide) rfl ?_
        have hzz := hz
        have hset := set2_0 hb0 hb1 hb2 hsum los0 his0 hx0 los1 his1 hx1 los2 his2 hx2 loxv hixv
        rw [hA0, hB0] at hset
        have hoth : A1 = B1 := by rw [← hA1, ← hB1]
        have hEK : (List.take st' [Value.long ww, Value.long ww, Value.long ww, Value.long ww, Value.long ww] ++ [Value.long A0, Value.long A1] ++ List.drop (st' + 2) [Value.long ww, Value.long ww, Value.long ww, Value.long ww, Value.long ww]).set (st' + 0) (.long (setF A0 (mkM b0) (Int32.ofNat 0) xv l0)) = List.take st' [Value.long ww, Value.long ww, Value.long ww, Value.long ww, Value.long ww] ++ [Value.long B0, Value.long B1] ++ List.drop (st' + 2) [Value.long ww, Value.long ww, Value.long ww, Value.long ww, Value.long ww] := by rw [hset, hoth]; exact list_set2_0 hst'
        rw [hEK] at w
        rw [show (List.take st' [Value.long ww, Value.long ww, Value.long ww, Value.long ww, Value.long ww] ++ [Value.long A0, Value.long A1] ++ List.drop (st' + 2) [Value.long ww, Value.long ww, Value.long ww, Value.long ww, Value.long ww]) = List.take st' [Value.long ww, Value.long ww, Value.long ww, Value.long ww, Value.long ww] ++ [Value.long B0, Value.long B1] ++ List.drop (st' + 2) [Value.long ww, Value.long ww, Value.long ww, Value.long ww, Value.long ww] by rw [hz.1, hz.2]] at w
        obtain ⟨z0, z1, z2, z3, z4, hz5⟩ := list_five2 (a := ww) (B0 := B0) (B1 := B1) hst'
        rw [hz5] at w
        refine s_laload (pc' := 418) (v := (.long z0)) w (Lk.new (k := 16) rfl) at_417 (by decide) rfl rfl ?_
        refine s_aload (pc' := 420) w at_418 rfl rfl rfl ?_
        refine s_iconst (pc' := 421) (0 : Int32) w at_420 (by decide) rfl ?_
        refine s_laload (pc' := 422) (v := (.long z0)) w (Lk.new (k := 17) rfl) at_421 (by decide) rfl rfl ?_
        refine s_lcmp (pc' := 423) w at_422 rfl ?_
        refine s_ifN (pc' := 426) w at_423 (Jvm.Free.XT.ll_ne_f rfl) rfl ?_
        refine s_aload (pc' := 428) w at_426 rfl rfl rfl ?_
        refine s_iconst (pc' := 429) (1 : Int32) w at_428 (by decide) rfl ?_
        refine s_laload (pc' := 430) (v := (.long z1)) w (Lk.new (k := 16) rfl) at_429 (by decide) rfl rfl ?_
        refine s_aload (pc' := 432) w at_430 rfl rfl rfl ?_
        refine s_iconst (pc' := 433) (1 : Int32) w at_432 (by decide) rfl ?_
        refine s_laload (pc' := 434) (v := (.long z1)) w (Lk.new (k := 17) rfl) at_433 (by decide) rfl rfl ?_
        refine s_lcmp (pc' := 435) w at_434 rfl ?_
        refine s_ifN (pc' := 438) w at_435 (Jvm.Free.XT.ll_ne_f rfl) rfl ?_
        refine s_aload (pc' := 440) w at_438 rfl rfl rfl ?_
        refine s_iconst (pc' := 441) (2 : Int32) w at_440 (by decide) rfl ?_
        refine s_laload (pc' := 442) (v := (.long z2)) w (Lk.new (k := 16) rfl) at_441 (by decide) rfl rfl ?_
        refine s_aload (pc' := 444) w at_442 rfl rfl rfl ?_
        refine s_iconst (pc' := 445) (2 : Int32) w at_444 (by decide) rfl ?_
        refine s_laload (pc' := 446) (v := (.long z2)) w (Lk.new (k := 17) rfl) at_445 (by decide) rfl rfl ?_
        refine s_lcmp (pc' := 447) w at_446 rfl ?_
        refine s_ifN (pc' := 450) w at_447 (Jvm.Free.XT.ll_ne_f rfl) rfl ?_
        refine s_aload (pc' := 452) w at_450 rfl rfl rfl ?_
        refine s_iconst (pc' := 453) (3 : Int32) w at_452 (by decide) rfl ?_
        refine s_laload (pc' := 454) (v := (.long z3)) w (Lk.new (k := 16) rfl) at_453 (by decide) rfl rfl ?_
        refine s_aload (pc' := 456) w at_454 rfl rfl rfl ?_
        refine s_iconst (pc' := 457) (3 : Int32) w at_456 (by decide) rfl ?_
        refine s_laload (pc' := 458) (v := (.long z3)) w (Lk.new (k := 17) rfl) at_457 (by decide) rfl rfl ?_
        refine s_lcmp (pc' := 459) w at_458 rfl ?_
        refine s_ifN (pc' := 462) w at_459 (Jvm.Free.XT.ll_ne_f rfl) rfl ?_
        refine s_aload (pc' := 464) w at_462 rfl rfl rfl ?_
        refine s_iconst (pc' := 465) (4 : Int32) w at_464 (by decide) rfl ?_
        refine s_laload (pc' := 466) (v := (.long z4)) w (Lk.new (k := 16) rfl) at_465 (by decide) rfl rfl ?_
        refine s_aload (pc' := 468) w at_466 rfl rfl rfl ?_
        refine s_iconst (pc' := 469) (4 : Int32) w at_468 (by decide) rfl ?_
        refine s_laload (pc' := 470) (v := (.long z4)) w (Lk.new (k := 17) rfl) at_469 (by decide) rfl rfl ?_
        refine s_lcmp (pc' := 471) w at_470 rfl ?_
        refine s_ifN (pc' := 474) w at_471 (Jvm.Free.XT.ll_ne_f rfl) rfl ?_
        refine s_iconst (pc' := 475) (1 : Int32) w at_474 (by decide) rfl ?_
        refine s_goto (pc' := 479) w at_475 (by decide) (by decide) ?_
        exact s_zreturn rfl w at_479 (by decide) (by decide) rfl
      · replace hL := hL.symm
        subst hL
        replace w : St p l e _ s m _ below meth c Z _ _ _ _ h0 n0 T [o0 (.int 3) (.ref (n0 + 2)) (.int 3), o1 .null (.ref ti) (.int l0) (.int u0) (.int l0) .null, aO ([.ref (n0 + 1), .ref (n0 + 3), .ref (n0 + 4), .null, .null, .null, .null, .null, .null, .null]), o1 .null (.ref ti) (.int l1) (.int u1) (.int l1) .null, o1 .null (.ref ti) (.int l2) (.int u2) (.int l2) .null, sOb n0 18 7 8 9 10 11 12 2 13 2, aJ ([]), aI (tb), aI ([]), aI ([.int l0, .int l1, .int l2]), aI ([.int 0, .int 0, .int 1]), aI ([.int (Int32.ofNat 0), .int (Int32.ofNat b0), .int (Int32.ofNat 0)]), aJ ([.long (mkM b0), .long (mkM b1), .long (mkM b2)]), aJ ([.long (((0 : Int64) ||| (dS xv l0 (Int32.ofNat 0))) ||| (dS s1 l1 (Int32.ofNat b0))), .long ((0 : Int64) ||| (dS s2 l2 (Int32.ofNat 0)))]), aI ([.int s0, .int s1, .int s2]), aI ([.int xv, .int s1, .int s2]), aJ ((List.take st' [Value.long ww, Value.long ww, Value.long ww, Value.long ww, Value.long ww] ++ [Value.long A0, Value.long A1] ++ List.drop (st' + 2) [Value.long ww, Value.long ww, Value.long ww, Value.long ww, Value.long ww]).set (st' + 0) (.long (setF A0 (mkM b0) (Int32.ofNat 0) xv l0))), aJ ([.long ww, .long ww, .long ww, .long ww, .long ww]), aJ ([.long A0, .long A1, .long (((0 : Int64) ||| (dS xv l0 (Int32.ofNat 0))) ||| (dS s1 l1 (Int32.ofNat b0))), .long ((0 : Int64) ||| (dS s2 l2 (Int32.ofNat 0)))] ++ List.replicate 1020 (.long 0))] 19 2121 := w
        change Go p e below _ T (mkF m 401 #[vJ r0, sc, vJ r1, sc, vJ r2, sc, vJ q1, sc, vJ q2, sc, vI sel, vI l0, vI u0, vI l1, vI u1, vI l2, vI u2, vR (n0 + 0), vR (n0 + 5), vI s0, vI s1, vI s2, vI (0 : Int32), vI (Int32.ofNat st'), vI xv, vR (n0 + 14), vR (n0 + 15), vJ ww, sc, vR (n0 + 16), vR (n0 + 17), vI (0 : Int32), un] [(.int (1 : Int32))])
        generalize hB0 : (((0 : Int64) ||| (dS xv l0 (Int32.ofNat 0))) ||| (dS s1 l1 (Int32.ofNat b0))) = B0 at w
        generalize hB1 : ((0 : Int64) ||| (dS s2 l2 (Int32.ofNat 0))) = B1 at w
        refine s_istore (pc' := 403) (ls' := #[vJ r0, sc, vJ r1, sc, vJ r2, sc, vJ q1, sc, vJ q2, sc, vI sel, vI l0, vI u0, vI l1, vI u1, vI l2, vI u2, vR (n0 + 0), vR (n0 + 5), vI s0, vI s1, vI s2, vI (0 : Int32), vI (Int32.ofNat st'), vI xv, vR (n0 + 14), vR (n0 + 15), vJ ww, sc, vR (n0 + 16), vR (n0 + 17), vI (0 : Int32), vI (1 : Int32)]) w at_401 rfl rfl ?_
        refine s_aload (pc' := 405) w at_403 rfl rfl rfl ?_
        refine s_iload (pc' := 407) w at_405 rfl rfl ?_
        refine s_aload (pc' := 409) w at_407 rfl rfl rfl ?_
        refine s_iload (pc' := 411) w at_409 rfl rfl ?_
        change Go p e below _ T (mkF m 411 #[vJ r0, sc, vJ r1, sc, vJ r2, sc, vJ q1, sc, vJ q2, sc, vI sel, vI l0, vI u0, vI l1, vI u1, vI l2, vI u2, vR (n0 + 0), vR (n0 + 5), vI s0, vI s1, vI s2, vI (0 : Int32), vI (Int32.ofNat st'), vI xv, vR (n0 + 14), vR (n0 + 15), vJ ww, sc, vR (n0 + 16), vR (n0 + 17), vI (0 : Int32), vI (1 : Int32)] [(.int (Int32.ofNat st')), (.ref (n0 + 17)), (.int (Int32.ofNat 1)), (.ref (n0 + 5))])
        refine s_virtual (pc' := 414) (rest := []) 0 [(.int (Int32.ofNat 1)), (.ref (n0 + 17)), (.int (Int32.ofNat st'))] w (c_key2 hw l h0 n0 5 18 7 8 9 10 11 12 13 2 17 1 st' _ [Value.long ww, Value.long ww, Value.long ww, Value.long ww, Value.long ww] _ rfl rfl rfl (by decide) (by omega) (by simp) (by simp; omega)) (Lk.new (k := 5) rfl) (t238 hw) (t239 hw) (w.notFace (t241 hw)) (t241 hw) (t240 hw) (t95 hw) (t242 hw) (by decide) pd24 at_411 (by decide) rfl rfl rfl rfl (Nat.le_of_eq rfl) rfl ?_
        intro T v L' hQ w
        obtain ⟨rfl, hL⟩ := hQ
        replace hL := hL.symm
        subst hL
        dsimp only [oS, oN, cA, nA]
        replace w : St p l e _ s m _ below meth c Z _ _ _ _ h0 n0 T [o0 (.int 3) (.ref (n0 + 2)) (.int 3), o1 .null (.ref ti) (.int l0) (.int u0) (.int l0) .null, aO ([.ref (n0 + 1), .ref (n0 + 3), .ref (n0 + 4), .null, .null, .null, .null, .null, .null, .null]), o1 .null (.ref ti) (.int l1) (.int u1) (.int l1) .null, o1 .null (.ref ti) (.int l2) (.int u2) (.int l2) .null, sOb n0 18 7 8 9 10 11 12 2 13 2, aJ ([]), aI (tb), aI ([]), aI ([.int l0, .int l1, .int l2]), aI ([.int 0, .int 0, .int 1]), aI ([.int (Int32.ofNat 0), .int (Int32.ofNat b0), .int (Int32.ofNat 0)]), aJ ([.long (mkM b0), .long (mkM b1), .long (mkM b2)]), aJ ([.long B0, .long B1]), aI ([.int s0, .int s1, .int s2]), aI ([.int xv, .int s1, .int s2]), aJ ((List.take st' [Value.long ww, Value.long ww, Value.long ww, Value.long ww, Value.long ww] ++ [Value.long A0, Value.long A1] ++ List.drop (st' + 2) [Value.long ww, Value.long ww, Value.long ww, Value.long ww, Value.long ww]).set (st' + 0) (.long (setF A0 (mkM b0) (Int32.ofNat 0) xv l0))), aJ (List.take st' [Value.long ww, Value.long ww, Value.long ww, Value.long ww, Value.long ww] ++ [Value.long B0, Value.long B1] ++ List.drop (st' + 2) [Value.long ww, Value.long ww, Value.long ww, Value.long ww, Value.long ww]), aJ ([.long A0, .long A1, .long B0, .long B1] ++ List.replicate 1020 (.long 0))] 19 2121 := w
        refine s_aload (pc' := 416) w at_414 rfl rfl rfl ?_
        refine s_iconst (pc' := 417) (0 : Int32) w at_416 (by decide) rfl ?_
        have hset := set2_0 hb0 hb1 hb2 hsum los0 his0 hx0 los1 his1 hx1 los2 his2 hx2 loxv hixv
        rw [hA0, hB0] at hset
        have hoth : A1 = B1 := by rw [← hA1, ← hB1]
        have hEK : (List.take st' [Value.long ww, Value.long ww, Value.long ww, Value.long ww, Value.long ww] ++ [Value.long A0, Value.long A1] ++ List.drop (st' + 2) [Value.long ww, Value.long ww, Value.long ww, Value.long ww, Value.long ww]).set (st' + 0) (.long (setF A0 (mkM b0) (Int32.ofNat 0) xv l0)) = List.take st' [Value.long ww, Value.long ww, Value.long ww, Value.long ww, Value.long ww] ++ [Value.long B0, Value.long B1] ++ List.drop (st' + 2) [Value.long ww, Value.long ww, Value.long ww, Value.long ww, Value.long ww] := by rw [hset, hoth]; exact list_set2_0 hst'
        rw [hEK] at w
        obtain ⟨z0, z1, z2, z3, z4, hz5⟩ := list_five2 (a := ww) (B0 := B0) (B1 := B1) hst'
        rw [hz5] at w
        refine s_laload (pc' := 418) (v := (.long z0)) w (Lk.new (k := 16) rfl) at_417 (by decide) rfl rfl ?_
        refine s_aload (pc' := 420) w at_418 rfl rfl rfl ?_
        refine s_iconst (pc' := 421) (0 : Int32) w at_420 (by decide) rfl ?_
        refine s_laload (pc' := 422) (v := (.long z0)) w (Lk.new (k := 17) rfl) at_421 (by decide) rfl rfl ?_
        refine s_lcmp (pc' := 423) w at_422 rfl ?_
        refine s_ifN (pc' := 426) w at_423 (Jvm.Free.XT.ll_ne_f rfl) rfl ?_
        refine s_aload (pc' := 428) w at_426 rfl rfl rfl ?_
        refine s_iconst (pc' := 429) (1 : Int32) w at_428 (by decide) rfl ?_
        refine s_laload (pc' := 430) (v := (.long z1)) w (Lk.new (k := 16) rfl) at_429 (by decide) rfl rfl ?_
        refine s_aload (pc' := 432) w at_430 rfl rfl rfl ?_
        refine s_iconst (pc' := 433) (1 : Int32) w at_432 (by decide) rfl ?_
        refine s_laload (pc' := 434) (v := (.long z1)) w (Lk.new (k := 17) rfl) at_433 (by decide) rfl rfl ?_
        refine s_lcmp (pc' := 435) w at_434 rfl ?_
        refine s_ifN (pc' := 438) w at_435 (Jvm.Free.XT.ll_ne_f rfl) rfl ?_
        refine s_aload (pc' := 440) w at_438 rfl rfl rfl ?_
        refine s_iconst (pc' := 441) (2 : Int32) w at_440 (by decide) rfl ?_
        refine s_laload (pc' := 442) (v := (.long z2)) w (Lk.new (k := 16) rfl) at_441 (by decide) rfl rfl ?_
        refine s_aload (pc' := 444) w at_442 rfl rfl rfl ?_
        refine s_iconst (pc' := 445) (2 : Int32) w at_444 (by decide) rfl ?_
        refine s_laload (pc' := 446) (v := (.long z2)) w (Lk.new (k := 17) rfl) at_445 (by decide) rfl rfl ?_
        refine s_lcmp (pc' := 447) w at_446 rfl ?_
        refine s_ifN (pc' := 450) w at_447 (Jvm.Free.XT.ll_ne_f rfl) rfl ?_
        refine s_aload (pc' := 452) w at_450 rfl rfl rfl ?_
        refine s_iconst (pc' := 453) (3 : Int32) w at_452 (by decide) rfl ?_
        refine s_laload (pc' := 454) (v := (.long z3)) w (Lk.new (k := 16) rfl) at_453 (by decide) rfl rfl ?_
        refine s_aload (pc' := 456) w at_454 rfl rfl rfl ?_
        refine s_iconst (pc' := 457) (3 : Int32) w at_456 (by decide) rfl ?_
        refine s_laload (pc' := 458) (v := (.long z3)) w (Lk.new (k := 17) rfl) at_457 (by decide) rfl rfl ?_
        refine s_lcmp (pc' := 459) w at_458 rfl ?_
        refine s_ifN (pc' := 462) w at_459 (Jvm.Free.XT.ll_ne_f rfl) rfl ?_
        refine s_aload (pc' := 464) w at_462 rfl rfl rfl ?_
        refine s_iconst (pc' := 465) (4 : Int32) w at_464 (by decide) rfl ?_
        refine s_laload (pc' := 466) (v := (.long z4)) w (Lk.new (k := 16) rfl) at_465 (by decide) rfl rfl ?_
        refine s_aload (pc' := 468) w at_466 rfl rfl rfl ?_
        refine s_iconst (pc' := 469) (4 : Int32) w at_468 (by decide) rfl ?_
        refine s_laload (pc' := 470) (v := (.long z4)) w (Lk.new (k := 17) rfl) at_469 (by decide) rfl rfl ?_
        refine s_lcmp (pc' := 471) w at_470 rfl ?_
        refine s_ifN (pc' := 474) w at_471 (Jvm.Free.XT.ll_ne_f rfl) rfl ?_
        refine s_iconst (pc' := 475) (1 : Int32) w at_474 (by decide) rfl ?_
        refine s_goto (pc' := 479) w at_475 (by decide) (by decide) ?_
        exact s_zreturn rfl w at_479 (by decide) (by decide) rfl
    · change Go p e below _ T (mkF m 191 #[vJ r0, sc, vJ r1, sc, vJ r2, sc, vJ q1, sc, vJ q2, sc, vI sel, vI l0, vI u0, vI l1, vI u1, vI l2, vI u2, vR (n0 + 0), vR (n0 + 5), vI s0, vI s1, vI s2, vI (1 : Int32), vI (Int32.ofNat st'), un, un, un, un, un, un, un, un, un] [(.int (1 : Int32))])
      refine s_ifY (pc' := 211) w at_191 (Jvm.Free.XT.i0_ne_t (by decide)) (by decide) (by decide) ?_
      refine s_iload (pc' := 213) w at_211 rfl rfl ?_
      refine s_iconst (pc' := 214) (1 : Int32) w at_213 (by decide) rfl ?_
      refine s_icmpN (pc' := 217) w at_214 (Jvm.Free.XT.ii_ne_f rfl) rfl ?_
      refine s_iload (pc' := 219) w at_217 rfl rfl ?_
      refine s_iload (pc' := 221) w at_219 rfl rfl ?_
      refine s_lload (pc' := 223) w at_221 rfl rfl ?_
      refine s_bipush (pc' := 225) (32 : Int32) w at_223 (by decide) rfl ?_
      refine s_lushr (pc' := 226) w at_225 rfl ?_
      refine s_static (pc' := 229) (rest := []) 0 [(.int l1), (.int u1), (.long (Jvm.Free.XT.ushrL q2 (32 : Int32)))] w (c_pick hw l h0 n0 l1 u1 (Jvm.Free.XT.ushrL q2 (32 : Int32)) _ hl1) (t183 hw) (t184 hw) (t2 hw) (t185 hw) (by decide) pd22 at_226 (by decide) rfl rfl rfl rfl (Nat.le_of_eq rfl) rfl ?_
      intro T v L' hQ w
      obtain ⟨xv, rfl, loxv, hixv, hL⟩ := hQ
      replace hL := hL.symm
      subst hL
      dsimp only [oS, oN, cA, nA]
      refine s_istore (pc' := 231) (ls' := #[vJ r0, sc, vJ r1, sc, vJ r2, sc, vJ q1, sc, vJ q2, sc, vI sel, vI l0, vI u0, vI l1, vI u1, vI l2, vI u2, vR (n0 + 0), vR (n0 + 5), vI s0, vI s1, vI s2, vI (1 : Int32), vI (Int32.ofNat st'), vI xv, un, un, un, un, un, un, un, un]) w at_229 rfl rfl ?_
      refine s_goto (pc' := 248) w at_231 (by decide) (by decide) ?_
      refine s_iconst (pc' := 249) (3 : Int32) w at_248 (by decide) rfl ?_
      refine s_newarray (pc' := 251) (ty := .int) w (t111 hw) rfl (by intro C h; cases h) at_249 (by decide) 3 (by decide) (by decide) (by decide) (by decide) 14 rfl rfl ?_
      intro T w
      replace w : St p l e _ s m _ below meth c Z _ _ _ _ h0 n0 T [o0 (.int 3) (.ref (n0 + 2)) (.int 3), o1 .null (.ref ti) (.int l0) (.int u0) (.int l0) .null, aO ([.ref (n0 + 1), .ref (n0 + 3), .ref (n0 + 4), .null, .null, .null, .null, .null, .null, .null]), o1 .null (.ref ti) (.int l1) (.int u1) (.int l1) .null, o1 .null (.ref ti) (.int l2) (.int u2) (.int l2) .null, sOb n0 6 7 8 9 10 11 12 2 13 0, aJ ([]), aI (List.replicate 1024 (Value.int (-1))), aI ([]), aI ([.int l0, .int l1, .int l2]), aI ([.int 0, .int 0, .int 1]), aI ([.int (Int32.ofNat 0), .int (Int32.ofNat b0), .int (Int32.ofNat 0)]), aJ ([.long (mkM b0), .long (mkM b1), .long (mkM b2)]), aJ ([.long 0, .long 0]), aI ([(.int 0), (.int 0), (.int 0)])] 15 1084 := w
      refine s_dup (pc' := 252) w at_251 rfl rfl ?_
      refine s_iconst (pc' := 253) (0 : Int32) w at_252 (by decide) rfl ?_
      refine s_iload (pc' := 255) w at_253 rfl rfl ?_
      refine s_iastore (pc' := 256) (k := 14) w rfl at_255 (by decide) (leB rfl) rfl ?_
      intro T w
      refine s_dup (pc' := 257) w at_256 rfl rfl ?_
      refine s_iconst (pc' := 258) (1 : Int32) w at_257 (by decide) rfl ?_
      refine s_iload (pc' := 260) w at_258 rfl rfl ?_
      refine s_iastore (pc' := 261) (k := 14) w rfl at_260 (by decide) (leB rfl) rfl ?_
      intro T w
      refine s_dup (pc' := 262) w at_261 rfl rfl ?_
      refine s_iconst (pc' := 263) (2 : Int32) w at_262 (by decide) rfl ?_
      refine s_iload (pc' := 265) w at_263 rfl rfl ?_
      refine s_iastore (pc' := 266) (k := 14) w rfl at_265 (by decide) (leB rfl) rfl ?_
      intro T w
      replace w : St p l e _ s m _ below meth c Z _ _ _ _ h0 n0 T [o0 (.int 3) (.ref (n0 + 2)) (.int 3), o1 .null (.ref ti) (.int l0) (.int u0) (.int l0) .null, aO ([.ref (n0 + 1), .ref (n0 + 3), .ref (n0 + 4), .null, .null, .null, .null, .null, .null, .null]), o1 .null (.ref ti) (.int l1) (.int u1) (.int l1) .null, o1 .null (.ref ti) (.int l2) (.int u2) (.int l2) .null, sOb n0 6 7 8 9 10 11 12 2 13 0, aJ ([]), aI (List.replicate 1024 (Value.int (-1))), aI ([]), aI ([.int l0, .int l1, .int l2]), aI ([.int 0, .int 0, .int 1]), aI ([.int (Int32.ofNat 0), .int (Int32.ofNat b0), .int (Int32.ofNat 0)]), aJ ([.long (mkM b0), .long (mkM b1), .long (mkM b2)]), aJ ([.long 0, .long 0]), aI ([.int s0, .int s1, .int s2])] 15 1084 := w
      refine s_astore (pc' := 268) (ls' := #[vJ r0, sc, vJ r1, sc, vJ r2, sc, vJ q1, sc, vJ q2, sc, vI sel, vI l0, vI u0, vI l1, vI u1, vI l2, vI u2, vR (n0 + 0), vR (n0 + 5), vI s0, vI s1, vI s2, vI (1 : Int32), vI (Int32.ofNat st'), vI xv, vR (n0 + 14), un, un, un, un, un, un, un]) w at_266 rfl rfl rfl ?_
      refine s_iconst (pc' := 269) (3 : Int32) w at_268 (by decide) rfl ?_
      refine s_newarray (pc' := 271) (ty := .int) w (t111 hw) rfl (by intro C h; cases h) at_269 (by decide) 3 (by decide) (by decide) (by decide) (by decide) 15 rfl rfl ?_
      intro T w
      replace w : St p l e _ s m _ below meth c Z _ _ _ _ h0 n0 T [o0 (.int 3) (.ref (n0 + 2)) (.int 3), o1 .null (.ref ti) (.int l0) (.int u0) (.int l0) .null, aO ([.ref (n0 + 1), .ref (n0 + 3), .ref (n0 + 4), .null, .null, .null, .null, .null, .null, .null]), o1 .null (.ref ti) (.int l1) (.int u1) (.int l1) .null, o1 .null (.ref ti) (.int l2) (.int u2) (.int l2) .null, sOb n0 6 7 8 9 10 11 12 2 13 0, aJ ([]), aI (List.replicate 1024 (Value.int (-1))), aI ([]), aI ([.int l0, .int l1, .int l2]), aI ([.int 0, .int 0, .int 1]), aI ([.int (Int32.ofNat 0), .int (Int32.ofNat b0), .int (Int32.ofNat 0)]), aJ ([.long (mkM b0), .long (mkM b1), .long (mkM b2)]), aJ ([.long 0, .long 0]), aI ([.int s0, .int s1, .int s2]), aI ([(.int 0), (.int 0), (.int 0)])] 16 1087 := w
      refine s_dup (pc' := 272) w at_271 rfl rfl ?_
      refine s_iconst (pc' := 273) (0 : Int32) w at_272 (by decide) rfl ?_
      refine s_iload (pc' := 275) w at_273 rfl rfl ?_
      refine s_iastore (pc' := 276) (k := 15) w rfl at_275 (by decide) (leB rfl) rfl ?_
      intro T w
      refine s_dup (pc' := 277) w at_276 rfl rfl ?_
      refine s_iconst (pc' := 278) (1 : Int32) w at_277 (by decide) rfl ?_
      refine s_iload (pc' := 280) w at_278 rfl rfl ?_
      refine s_iastore (pc' := 281) (k := 15) w rfl at_280 (by decide) (leB rfl) rfl ?_
      intro T w
      refine s_dup (pc' := 282) w at_281 rfl rfl ?_
      refine s_iconst (pc' := 283) (2 : Int32) w at_282 (by decide) rfl ?_
      refine s_iload (pc' := 285) w at_283 rfl rfl ?_
      refine s_iastore (pc' := 286) (k := 15) w rfl at_285 (by decide) (leB rfl) rfl ?_
      intro T w
      replace w : St p l e _ s m _ below meth c Z _ _ _ _ h0 n0 T [o0 (.int 3) (.ref (n0 + 2)) (.int 3), o1 .null (.ref ti) (.int l0) (.int u0) (.int l0) .null, aO ([.ref (n0 + 1), .ref (n0 + 3), .ref (n0 + 4), .null, .null, .null, .null, .null, .null, .null]), o1 .null (.ref ti) (.int l1) (.int u1) (.int l1) .null, o1 .null (.ref ti) (.int l2) (.int u2) (.int l2) .null, sOb n0 6 7 8 9 10 11 12 2 13 0, aJ ([]), aI (List.replicate 1024 (Value.int (-1))), aI ([]), aI ([.int l0, .int l1, .int l2]), aI ([.int 0, .int 0, .int 1]), aI ([.int (Int32.ofNat 0), .int (Int32.ofNat b0), .int (Int32.ofNat 0)]), aJ ([.long (mkM b0), .long (mkM b1), .long (mkM b2)]), aJ ([.long 0, .long 0]), aI ([.int s0, .int s1, .int s2]), aI ([.int s0, .int s1, .int s2])] 16 1087 := w
      refine s_astore (pc' := 288) (ls' := #[vJ r0, sc, vJ r1, sc, vJ r2, sc, vJ q1, sc, vJ q2, sc, vI sel, vI l0, vI u0, vI l1, vI u1, vI l2, vI u2, vR (n0 + 0), vR (n0 + 5), vI s0, vI s1, vI s2, vI (1 : Int32), vI (Int32.ofNat st'), vI xv, vR (n0 + 14), vR (n0 + 15), un, un, un, un, un, un]) w at_286 rfl rfl rfl ?_
      refine s_aload (pc' := 290) w at_288 rfl rfl rfl ?_
      refine s_iload (pc' := 292) w at_290 rfl rfl ?_
      refine s_iload (pc' := 294) w at_292 rfl rfl ?_
      refine s_iastore (pc' := 295) (k := 15) w rfl at_294 (by decide) (leB rfl) rfl ?_
      intro T w
      replace w : St p l e _ s m _ below meth c Z _ _ _ _ h0 n0 T [o0 (.int 3) (.ref (n0 + 2)) (.int 3), o1 .null (.ref ti) (.int l0) (.int u0) (.int l0) .null, aO ([.ref (n0 + 1), .ref (n0 + 3), .ref (n0 + 4), .null, .null, .null, .null, .null, .null, .null]), o1 .null (.ref ti) (.int l1) (.int u1) (.int l1) .null, o1 .null (.ref ti) (.int l2) (.int u2) (.int l2) .null, sOb n0 6 7 8 9 10 11 12 2 13 0, aJ ([]), aI (List.replicate 1024 (Value.int (-1))), aI ([]), aI ([.int l0, .int l1, .int l2]), aI ([.int 0, .int 0, .int 1]), aI ([.int (Int32.ofNat 0), .int (Int32.ofNat b0), .int (Int32.ofNat 0)]), aJ ([.long (mkM b0), .long (mkM b1), .long (mkM b2)]), aJ ([.long 0, .long 0]), aI ([.int s0, .int s1, .int s2]), aI ([.int s0, .int xv, .int s2])] 16 1087 := w
      refine s_lload (pc' := 297) w at_295 rfl rfl ?_
      refine s_lloadN (pc' := 298) w at_297 rfl rfl ?_
      refine s_lxor (pc' := 299) w at_298 rfl ?_
      generalize hww : (q2 ^^^ r0) = ww
      refine s_lstore (pc' := 301) (ls' := #[vJ r0, sc, vJ r1, sc, vJ r2, sc, vJ q1, sc, vJ q2, sc, vI sel, vI l0, vI u0, vI l1, vI u1, vI l2, vI u2, vR (n0 + 0), vR (n0 + 5), vI s0, vI s1, vI s2, vI (1 : Int32), vI (Int32.ofNat st'), vI xv, vR (n0 + 14), vR (n0 + 15), vJ ww, sc, un, un, un, un]) w at_299 rfl rfl ?_
      refine s_iconst (pc' := 302) (5 : Int32) w at_301 (by decide) rfl ?_
      refine s_newarray (pc' := 304) (ty := .long) w (t100 hw) rfl (by intro C h; cases h) at_302 (by decide) 5 (by decide) (by decide) (by decide) (by decide) 16 rfl rfl ?_
      intro T w
      replace w : St p l e _ s m _ below meth c Z _ _ _ _ h0 n0 T [o0 (.int 3) (.ref (n0 + 2)) (.int 3), o1 .null (.ref ti) (.int l0) (.int u0) (.int l0) .null, aO ([.ref (n0 + 1), .ref (n0 + 3), .ref (n0 + 4), .null, .null, .null, .null, .null, .null, .null]), o1 .null (.ref ti) (.int l1) (.int u1) (.int l1) .null, o1 .null (.ref ti) (.int l2) (.int u2) (.int l2) .null, sOb n0 6 7 8 9 10 11 12 2 13 0, aJ ([]), aI (List.replicate 1024 (Value.int (-1))), aI ([]), aI ([.int l0, .int l1, .int l2]), aI ([.int 0, .int 0, .int 1]), aI ([.int (Int32.ofNat 0), .int (Int32.ofNat b0), .int (Int32.ofNat 0)]), aJ ([.long (mkM b0), .long (mkM b1), .long (mkM b2)]), aJ ([.long 0, .long 0]), aI ([.int s0, .int s1, .int s2]), aI ([.int s0, .int xv, .int s2]), aJ ([(.long 0), (.long 0), (.long 0), (.long 0), (.long 0)])] 17 1092 := w
      refine s_dup (pc' := 305) w at_304 rfl rfl ?_
      refine s_iconst (pc' := 306) (0 : Int32) w at_305 (by decide) rfl ?_
      refine s_lload (pc' := 308) w at_306 rfl rfl ?_
      refine s_lastore (pc' := 309) (k := 16) w rfl at_308 (by decide) (leB rfl) rfl ?_
      intro T w
      refine s_dup (pc' := 310) w at_309 rfl rfl ?_
      refine s_iconst (pc' := 311) (1 : Int32) w at_310 (by decide) rfl ?_
      refine s_lload (pc' := 313) w at_311 rfl rfl ?_
      refine s_lastore (pc' := 314) (k := 16) w rfl at_313 (by decide) (leB rfl) rfl ?_
      intro T w
      refine s_dup (pc' := 315) w at_314 rfl rfl ?_
      refine s_iconst (pc' := 316) (2 : Int32) w at_315 (by decide) rfl ?_
      refine s_lload (pc' := 318) w at_316 rfl rfl ?_
      refine s_lastore (pc' := 319) (k := 16) w rfl at_318 (by decide) (leB rfl) rfl ?_
      intro T w
      refine s_dup (pc' := 320) w at_319 rfl rfl ?_
      refine s_iconst (pc' := 321) (3 : Int32) w at_320 (by decide) rfl ?_
      refine s_lload (pc' := 323) w at_321 rfl rfl ?_
      refine s_lastore (pc' := 324) (k := 16) w rfl at_323 (by decide) (leB rfl) rfl ?_
      intro T w
      refine s_dup (pc' := 325) w at_324 rfl rfl ?_
      refine s_iconst (pc' := 326) (4 : Int32) w at_325 (by decide) rfl ?_
      refine s_lload (pc' := 328) w at_326 rfl rfl ?_
      refine s_lastore (pc' := 329) (k := 16) w rfl at_328 (by decide) (leB rfl) rfl ?_
      intro T w
      replace w : St p l e _ s m _ below meth c Z _ _ _ _ h0 n0 T [o0 (.int 3) (.ref (n0 + 2)) (.int 3), o1 .null (.ref ti) (.int l0) (.int u0) (.int l0) .null, aO ([.ref (n0 + 1), .ref (n0 + 3), .ref (n0 + 4), .null, .null, .null, .null, .null, .null, .null]), o1 .null (.ref ti) (.int l1) (.int u1) (.int l1) .null, o1 .null (.ref ti) (.int l2) (.int u2) (.int l2) .null, sOb n0 6 7 8 9 10 11 12 2 13 0, aJ ([]), aI (List.replicate 1024 (Value.int (-1))), aI ([]), aI ([.int l0, .int l1, .int l2]), aI ([.int 0, .int 0, .int 1]), aI ([.int (Int32.ofNat 0), .int (Int32.ofNat b0), .int (Int32.ofNat 0)]), aJ ([.long (mkM b0), .long (mkM b1), .long (mkM b2)]), aJ ([.long 0, .long 0]), aI ([.int s0, .int s1, .int s2]), aI ([.int s0, .int xv, .int s2]), aJ ([.long ww, .long ww, .long ww, .long ww, .long ww])] 17 1092 := w
      refine s_astore (pc' := 331) (ls' := #[vJ r0, sc, vJ r1, sc, vJ r2, sc, vJ q1, sc, vJ q2, sc, vI sel, vI l0, vI u0, vI l1, vI u1, vI l2, vI u2, vR (n0 + 0), vR (n0 + 5), vI s0, vI s1, vI s2, vI (1 : Int32), vI (Int32.ofNat st'), vI xv, vR (n0 + 14), vR (n0 + 15), vJ ww, sc, vR (n0 + 16), un, un, un]) w at_329 rfl rfl rfl ?_
      refine s_iconst (pc' := 332) (5 : Int32) w at_331 (by decide) rfl ?_
      refine s_newarray (pc' := 334) (ty := .long) w (t100 hw) rfl (by intro C h; cases h) at_332 (by decide) 5 (by decide) (by decide) (by decide) (by decide) 17 rfl rfl ?_
      intro T w
      replace w : St p l e _ s m _ below meth c Z _ _ _ _ h0 n0 T [o0 (.int 3) (.ref (n0 + 2)) (.int 3), o1 .null (.ref ti) (.int l0) (.int u0) (.int l0) .null, aO ([.ref (n0 + 1), .ref (n0 + 3), .ref (n0 + 4), .null, .null, .null, .null, .null, .null, .null]), o1 .null (.ref ti) (.int l1) (.int u1) (.int l1) .null, o1 .null (.ref ti) (.int l2) (.int u2) (.int l2) .null, sOb n0 6 7 8 9 10 11 12 2 13 0, aJ ([]), aI (List.replicate 1024 (Value.int (-1))), aI ([]), aI ([.int l0, .int l1, .int l2]), aI ([.int 0, .int 0, .int 1]), aI ([.int (Int32.ofNat 0), .int (Int32.ofNat b0), .int (Int32.ofNat 0)]), aJ ([.long (mkM b0), .long (mkM b1), .long (mkM b2)]), aJ ([.long 0, .long 0]), aI ([.int s0, .int s1, .int s2]), aI ([.int s0, .int xv, .int s2]), aJ ([.long ww, .long ww, .long ww, .long ww, .long ww]), aJ ([(.long 0), (.long 0), (.long 0), (.long 0), (.long 0)])] 18 1097 := w
      refine s_dup (pc' := 335) w at_334 rfl rfl ?_
      refine s_iconst (pc' := 336) (0 : Int32) w at_335 (by decide) rfl ?_
      refine s_lload (pc' := 338) w at_336 rfl rfl ?_
      refine s_lastore (pc' := 339) (k := 17) w rfl at_338 (by decide) (leB rfl) rfl ?_
      intro T w
      refine s_dup (pc' := 340) w at_339 rfl rfl ?_
      refine s_iconst (pc' := 341) (1 : Int32) w at_340 (by decide) rfl ?_
      refine s_lload (pc' := 343) w at_341 rfl rfl ?_
      refine s_lastore (pc' := 344) (k := 17) w rfl at_343 (by decide) (leB rfl) rfl ?_
      intro T w
      refine s_dup (pc' := 345) w at_344 rfl rfl ?_
      refine s_iconst (pc' := 346) (2 : Int32) w at_345 (by decide) rfl ?_
      refine s_lload (pc' := 348) w at_346 rfl rfl ?_
      refine s_lastore (pc' := 349) (k := 17) w rfl at_348 (by decide) (leB rfl) rfl ?_
      intro T w
      refine s_dup (pc' := 350) w at_349 rfl rfl ?_
      refine s_iconst (pc' := 351) (3 : Int32) w at_350 (by decide) rfl ?_
      refine s_lload (pc' := 353) w at_351 rfl rfl ?_
      refine s_lastore (pc' := 354) (k := 17) w rfl at_353 (by decide) (leB rfl) rfl ?_
      intro T w
      refine s_dup (pc' := 355) w at_354 rfl rfl ?_
      refine s_iconst (pc' := 356) (4 : Int32) w at_355 (by decide) rfl ?_
      refine s_lload (pc' := 358) w at_356 rfl rfl ?_
      refine s_lastore (pc' := 359) (k := 17) w rfl at_358 (by decide) (leB rfl) rfl ?_
      intro T w
      replace w : St p l e _ s m _ below meth c Z _ _ _ _ h0 n0 T [o0 (.int 3) (.ref (n0 + 2)) (.int 3), o1 .null (.ref ti) (.int l0) (.int u0) (.int l0) .null, aO ([.ref (n0 + 1), .ref (n0 + 3), .ref (n0 + 4), .null, .null, .null, .null, .null, .null, .null]), o1 .null (.ref ti) (.int l1) (.int u1) (.int l1) .null, o1 .null (.ref ti) (.int l2) (.int u2) (.int l2) .null, sOb n0 6 7 8 9 10 11 12 2 13 0, aJ ([]), aI (List.replicate 1024 (Value.int (-1))), aI ([]), aI ([.int l0, .int l1, .int l2]), aI ([.int 0, .int 0, .int 1]), aI ([.int (Int32.ofNat 0), .int (Int32.ofNat b0), .int (Int32.ofNat 0)]), aJ ([.long (mkM b0), .long (mkM b1), .long (mkM b2)]), aJ ([.long 0, .long 0]), aI ([.int s0, .int s1, .int s2]), aI ([.int s0, .int xv, .int s2]), aJ ([.long ww, .long ww, .long ww, .long ww, .long ww]), aJ ([.long ww, .long ww, .long ww, .long ww, .long ww])] 18 1097 := w
      refine s_astore (pc' := 361) (ls' := #[vJ r0, sc, vJ r1, sc, vJ r2, sc, vJ q1, sc, vJ q2, sc, vI sel, vI l0, vI u0, vI l1, vI u1, vI l2, vI u2, vR (n0 + 0), vR (n0 + 5), vI s0, vI s1, vI s2, vI (1 : Int32), vI (Int32.ofNat st'), vI xv, vR (n0 + 14), vR (n0 + 15), vJ ww, sc, vR (n0 + 16), vR (n0 + 17), un, un]) w at_359 rfl rfl rfl ?_
      refine s_aload (pc' := 363) w at_361 rfl rfl rfl ?_
      refine s_aload (pc' := 365) w at_363 rfl rfl rfl ?_
      refine s_virtual (pc' := 368) (rest := []) 0 [(.ref (n0 + 14))] w (c_addOne2 hw l h0 n0 5 6 7 8 9 10 11 12 13 (n0 + 14) s0 s1 s2 l0 l1 l2 (Int32.ofNat 0) (Int32.ofNat b0) (Int32.ofNat 0) 0 0 _ rfl rfl rfl rfl rfl rfl rfl (Lk.new (k := 14) rfl) (by decide) (by decide) (by decide) (by decide) (ad_ne (by decide)) (by decide) (by decide) (by decide)) (Lk.new (k := 5) rfl) (t186 hw) (t187 hw) (w.notFace (t189 hw)) (t189 hw) (t188 hw) (t95 hw) (t190 hw) (by decide) pd23 at_365 (by decide) rfl rfl rfl rfl (Nat.le_of_eq rfl) rfl ?_
      intro T v L' hQ w
      obtain ⟨rfl, hL⟩ := hQ
      replace hL := hL.symm
      subst hL
      dsimp only [oS, oN, cA, nA]
      replace w : St p l e _ s m _ below meth c Z _ _ _ _ h0 n0 T [o0 (.int 3) (.ref (n0 + 2)) (.int 3), o1 .null (.ref ti) (.int l0) (.int u0) (.int l0) .null, aO ([.ref (n0 + 1), .ref (n0 + 3), .ref (n0 + 4), .null, .null, .null, .null, .null, .null, .null]), o1 .null (.ref ti) (.int l1) (.int u1) (.int l1) .null, o1 .null (.ref ti) (.int l2) (.int u2) (.int l2) .null, sOb n0 18 7 8 9 10 11 12 2 13 1, aJ ([]), aI ((List.replicate 1024 (Value.int (-1))).set ((hfin (hfold [(((0 : Int64) ||| (dS s0 l0 (Int32.ofNat 0))) ||| (dS s1 l1 (Int32.ofNat b0))), ((0 : Int64) ||| (dS s2 l2 (Int32.ofNat 0)))])) &&& (1023 : Int32)).toNatClampNeg (.int (entF 0 (hfin (hfold [(((0 : Int64) ||| (dS s0 l0 (Int32.ofNat 0))) ||| (dS s1 l1 (Int32.ofNat b0))), ((0 : Int64) ||| (dS s2 l2 (Int32.ofNat 0)))]))))), aI ([]), aI ([.int l0, .int l1, .int l2]), aI ([.int 0, .int 0, .int 1]), aI ([.int (Int32.ofNat 0), .int (Int32.ofNat b0), .int (Int32.ofNat 0)]), aJ ([.long (mkM b0), .long (mkM b1), .long (mkM b2)]), aJ ([.long (((0 : Int64) ||| (dS s0 l0 (Int32.ofNat 0))) ||| (dS s1 l1 (Int32.ofNat b0))), .long ((0 : Int64) ||| (dS s2 l2 (Int32.ofNat 0)))]), aI ([.int s0, .int s1, .int s2]), aI ([.int s0, .int xv, .int s2]), aJ ([.long ww, .long ww, .long ww, .long ww, .long ww]), aJ ([.long ww, .long ww, .long ww, .long ww, .long ww]), aJ ([.long (((0 : Int64) ||| (dS s0 l0 (Int32.ofNat 0))) ||| (dS s1 l1 (Int32.ofNat b0))), .long ((0 : Int64) ||| (dS s2 l2 (Int32.ofNat 0)))] ++ List.replicate 1022 (.long 0))] 19 2121 := w
      generalize hA0 : (((0 : Int64) ||| (dS s0 l0 (Int32.ofNat 0))) ||| (dS s1 l1 (Int32.ofNat b0))) = A0 at w
      generalize hA1 : ((0 : Int64) ||| (dS s2 l2 (Int32.ofNat 0))) = A1 at w
      refine s_istore (pc' := 370) (ls' := #[vJ r0, sc, vJ r1, sc, vJ r2, sc, vJ q1, sc, vJ q2, sc, vI sel, vI l0, vI u0, vI l1, vI u1, vI l2, vI u2, vR (n0 + 0), vR (n0 + 5), vI s0, vI s1, vI s2, vI (1 : Int32), vI (Int32.ofNat st'), vI xv, vR (n0 + 14), vR (n0 + 15), vJ ww, sc, vR (n0 + 16), vR (n0 + 17), vI (0 : Int32), un]) w at_368 rfl rfl ?_
      refine s_aload (pc' := 372) w at_370 rfl rfl rfl ?_
      refine s_iload (pc' := 374) w at_372 rfl rfl ?_
      refine s_aload (pc' := 376) w at_374 rfl rfl rfl ?_
      refine s_iload (pc' := 378) w at_376 rfl rfl ?_
      change Go p e below _ T (mkF m 378 #[vJ r0, sc, vJ r1, sc, vJ r2, sc, vJ q1, sc, vJ q2, sc, vI sel, vI l0, vI u0, vI l1, vI u1, vI l2, vI u2, vR (n0 + 0), vR (n0 + 5), vI s0, vI s1, vI s2, vI (1 : Int32), vI (Int32.ofNat st'), vI xv, vR (n0 + 14), vR (n0 + 15), vJ ww, sc, vR (n0 + 16), vR (n0 + 17), vI (0 : Int32), un] [(.int (Int32.ofNat st')), (.ref (n0 + 16)), (.int (Int32.ofNat 0)), (.ref (n0 + 5))])
      refine s_virtual (pc' := 381) (rest := []) 0 [(.int (Int32.ofNat 0)), (.ref (n0 + 16)), (.int (Int32.ofNat st'))] w (c_key2 hw l h0 n0 5 18 7 8 9 10 11 12 13 1 16 0 st' _ [Value.long ww, Value.long ww, Value.long ww, Value.long ww, Value.long ww] _ rfl rfl rfl (by decide) (by omega) (by simp) (by simp; omega)) (Lk.new (k := 5) rfl) (t238 hw) (t239 hw) (w.notFace (t241 hw)) (t241 hw) (t240 hw) (t95 hw) (t242 hw) (by decide) pd24 at_378 (by decide) rfl rfl rfl rfl (Nat.le_of_eq rfl) rfl ?_
      intro T v L' hQ w
      obtain ⟨rfl, hL⟩ := hQ
      replace hL := hL.symm
      subst hL
      dsimp only [oS, oN, cA, nA]
      replace w : St p l e _ s m _ below meth c Z _ _ _ _ h0 n0 T [o0 (.int 3) (.ref (n0 + 2)) (.int 3), o1 .null (.ref ti) (.int l0) (.int u0) (.int l0) .null, aO ([.ref (n0 + 1), .ref (n0 + 3), .ref (n0 + 4), .null, .null, .null, .null, .null, .null, .null]), o1 .null (.ref ti) (.int l1) (.int u1) (.int l1) .null, o1 .null (.ref ti) (.int l2) (.int u2) (.int l2) .null, sOb n0 18 7 8 9 10 11 12 2 13 1, aJ ([]), aI ((List.replicate 1024 (Value.int (-1))).set ((hfin (hfold [A0, A1])) &&& (1023 : Int32)).toNatClampNeg (.int (entF 0 (hfin (hfold [A0, A1]))))), aI ([]), aI ([.int l0, .int l1, .int l2]), aI ([.int 0, .int 0, .int 1]), aI ([.int (Int32.ofNat 0), .int (Int32.ofNat b0), .int (Int32.ofNat 0)]), aJ ([.long (mkM b0), .long (mkM b1), .long (mkM b2)]), aJ ([.long A0, .long A1]), aI ([.int s0, .int s1, .int s2]), aI ([.int s0, .int xv, .int s2]), aJ (List.take st' [Value.long ww, Value.long ww, Value.long ww, Value.long ww, Value.long ww] ++ [Value.long A0, Value.long A1] ++ List.drop (st' + 2) [Value.long ww, Value.long ww, Value.long ww, Value.long ww, Value.long ww]), aJ ([.long ww, .long ww, .long ww, .long ww, .long ww]), aJ ([.long A0, .long A1] ++ List.replicate 1022 (.long 0))] 19 2121 := w
      refine s_aload (pc' := 383) w at_381 rfl rfl rfl ?_
      refine s_aload (pc' := 385) w at_383 rfl rfl rfl ?_
      refine s_iload (pc' := 387) w at_385 rfl rfl ?_
      refine s_iload (pc' := 389) w at_387 rfl rfl ?_
      refine s_iload (pc' := 391) w at_389 rfl rfl ?_
      refine s_virtual (pc' := 394) (rest := []) 0 [(.ref (n0 + 16)), (.int (Int32.ofNat st')), (.int (1 : Int32)), (.int xv)] w (c_set2_1 hw l h0 n0 5 18 7 8 9 10 11 12 13 1 16 st' xv l0 l1 l2 (Int32.ofNat 0) (Int32.ofNat b0) (Int32.ofNat 0) (mkM b0) (mkM b1) (mkM b2) A0 (List.take st' [Value.long ww, Value.long ww, Value.long ww, Value.long ww, Value.long ww] ++ [Value.long A0, Value.long A1] ++ List.drop (st' + 2) [Value.long ww, Value.long ww, Value.long ww, Value.long ww, Value.long ww]) _ rfl rfl rfl rfl rfl rfl (by omega) (key_at2_0 hst')) (Lk.new (k := 5) rfl) (t243 hw) (t244 hw) (w.notFace (t246 hw)) (t246 hw) (t245 hw) (t95 hw) (t247 hw) (by decide) pd25 at_391 (by decide) rfl rfl rfl rfl (Nat.le_of_eq rfl) rfl ?_
      intro T v L' hQ w
      obtain ⟨rfl, hL⟩ := hQ
      replace hL := hL.symm
      subst hL
      dsimp only [oS, oN, cA, nA]
      replace w : St p l e _ s m _ below meth c Z _ _ _ _ h0 n0 T [o0 (.int 3) (.ref (n0 + 2)) (.int 3), o1 .null (.ref ti) (.int l0) (.int u0) (.int l0) .null, aO ([.ref (n0 + 1), .ref (n0 + 3), .ref (n0 + 4), .null, .null, .null, .null, .null, .null, .null]), o1 .null (.ref ti) (.int l1) (.int u1) (.int l1) .null, o1 .null (.ref ti) (.int l2) (.int u2) (.int l2) .null, sOb n0 18 7 8 9 10 11 12 2 13 1, aJ ([]), aI ((List.replicate 1024 (Value.int (-1))).set ((hfin (hfold [A0, A1])) &&& (1023 : Int32)).toNatClampNeg (.int (entF 0 (hfin (hfold [A0, A1]))))), aI ([]), aI ([.int l0, .int l1, .int l2]), aI ([.int 0, .int 0, .int 1]), aI ([.int (Int32.ofNat 0), .int (Int32.ofNat b0), .int (Int32.ofNat 0)]), aJ ([.long (mkM b0), .long (mkM b1), .long (mkM b2)]), aJ ([.long A0, .long A1]), aI ([.int s0, .int s1, .int s2]), aI ([.int s0, .int xv, .int s2]), aJ ((List.take st' [Value.long ww, Value.long ww, Value.long ww, Value.long ww, Value.long ww] ++ [Value.long A0, Value.long A1] ++ List.drop (st' + 2) [Value.long ww, Value.long ww, Value.long ww, Value.long ww, Value.long ww]).set (st' + 0) (.long (setF A0 (mkM b1) (Int32.ofNat b0) xv l1))), aJ ([.long ww, .long ww, .long ww, .long ww, .long ww]), aJ ([.long A0, .long A1] ++ List.replicate 1022 (.long 0))] 19 2121 := w
      refine s_aload (pc' := 396) w at_394 rfl rfl rfl ?_
      refine s_aload (pc' := 398) w at_396 rfl rfl rfl ?_
      refine s_virtual (pc' := 401) (rest := []) 0 [(.ref (n0 + 15))] w (c_addTwo2 hw l h0 n0 5 18 7 8 9 10 11 12 13 (n0 + 15) s0 xv s2 l0 l1 l2 (Int32.ofNat 0) (Int32.ofNat b0) (Int32.ofNat 0) A0 A1 (hfin (hfold [A0, A1])) A0 A1 _ rfl rfl rfl rfl rfl rfl rfl (Lk.new (k := 15) rfl) (by decide) (by decide) (by decide) (by decide) (ad_ne (by decide)) (by decide) (by decide) (by decide) (by decide) (by decide)) (Lk.new (k := 5) rfl) (t186 hw) (t187 hw) (w.notFace (t189 hw)) (t189 hw) (t188 hw) (t95 hw) (t190 hw) (by decide) pd23 at_398 (by decide) rfl rfl rfl rfl (Nat.le_of_eq rfl) rfl ?_
      intro T v L' hQ w
      rcases hQ with ⟨rfl, hL, hz⟩ | ⟨rfl, tb, hL⟩
      · replace hL := hL.symm
        subst hL
        replace w : St p l e _ s m _ below meth c Z _ _ _ _ h0 n0 T [o0 (.int 3) (.ref (n0 + 2)) (.int 3), o1 .null (.ref ti) (.int l0) (.int u0) (.int l0) .null, aO ([.ref (n0 + 1), .ref (n0 + 3), .ref (n0 + 4), .null, .null, .null, .null, .null, .null, .null]), o1 .null (.ref ti) (.int l1) (.int u1) (.int l1) .null, o1 .null (.ref ti) (.int l2) (.int u2) (.int l2) .null, sOb n0 18 7 8 9 10 11 12 2 13 1, aJ ([]), aI ((List.replicate 1024 (Value.int (-1))).set ((hfin (hfold [A0, A1])) &&& (1023 : Int32)).toNatClampNeg (.int (entF 0 (hfin (hfold [A0, A1]))))), aI ([]), aI ([.int l0, .int l1, .int l2]), aI ([.int 0, .int 0, .int 1]), aI ([.int (Int32.ofNat 0), .int (Int32.ofNat b0), .int (Int32.ofNat 0)]), aJ ([.long (mkM b0), .long (mkM b1), .long (mkM b2)]), aJ ([.long (((0 : Int64) ||| (dS s0 l0 (Int32.ofNat 0))) ||| (dS xv l1 (Int32.ofNat b0))), .long ((0 : Int64) ||| (dS s2 l2 (Int32.ofNat 0)))]), aI ([.int s0, .int s1, .int s2]), aI ([.int s0, .int xv, .int s2]), aJ ((List.take st' [Value.long ww, Value.long ww, Value.long ww, Value.long ww, Value.long ww] ++ [Value.long A0, Value.long A1] ++ List.drop (st' + 2) [Value.long ww, Value.long ww, Value.long ww, Value.long ww, Value.long ww]).set (st' + 0) (.long (setF A0 (mkM b1) (Int32.ofNat b0) xv l1))), aJ ([.long ww, .long ww, .long ww, .long ww, .long ww]), aJ ([.long A0, .long A1] ++ List.replicate 1022 (.long 0))] 19 2121 := w
        change Go p e below _ T (mkF m 401 #[vJ r0, sc, vJ r1, sc, vJ r2, sc, vJ q1, sc, vJ q2, sc, vI sel, vI l0, vI u0, vI l1, vI u1, vI l2, vI u2, vR (n0 + 0), vR (n0 + 5), vI s0, vI s1, vI s2, vI (1 : Int32), vI (Int32.ofNat st'), vI xv, vR (n0 + 14), vR (n0 + 15), vJ ww, sc, vR (n0 + 16), vR (n0 + 17), vI (0 : Int32), un] [(.int (0 : Int32))])
        generalize hB0 : (((0 : Int64) ||| (dS s0 l0 (Int32.ofNat 0))) ||| (dS xv l1 (Int32.ofNat b0))) = B0 at w hz
        generalize hB1 : ((0 : Int64) ||| (dS s2 l2 (Int32.ofNat 0))) = B1 at w hz
        refine s_istore (pc' := 403) (ls' := #[vJ r0, sc, vJ r1, sc, vJ r2, sc, vJ q1, sc, vJ q2, sc, vI sel, vI l0, vI u0, vI l1, vI u1, vI l2, vI u2, vR (n0 + 0), vR (n0 + 5), vI s0, vI s1, vI s2, vI (1 : Int32), vI (Int32.ofNat st'), vI xv, vR (n0 + 14), vR (n0 + 15), vJ ww, sc, vR (n0 + 16), vR (n0 + 17), vI (0 : Int32), vI (0 : Int32)]) w at_401 rfl rfl ?_
        refine s_aload (pc' := 405) w at_403 rfl rfl rfl ?_
        refine s_iload (pc' := 407) w at_405 rfl rfl ?_
        refine s_aload (pc' := 409) w at_407 rfl rfl rfl ?_
        refine s_iload (pc' := 411) w at_409 rfl rfl ?_
        change Go p e below _ T (mkF m 411 #[vJ r0, sc, vJ r1, sc, vJ r2, sc, vJ q1, sc, vJ q2, sc, vI sel, vI l0, vI u0, vI l1, vI u1, vI l2, vI u2, vR (n0 + 0), vR (n0 + 5), vI s0, vI s1, vI s2, vI (1 : Int32), vI (Int32.ofNat st'), vI xv, vR (n0 + 14), vR (n0 + 15), vJ ww, sc, vR (n0 + 16), vR (n0 + 17), vI (0 : Int32), vI (0 : Int32)] [(.int (Int32.ofNat st')), (.ref (n0 + 17)), (.int (Int32.ofNat 0)), (.ref (n0 + 5))])
        refine s_virtual (pc' := 414) (rest := []) 0 [(.int (Int32.ofNat 0)), (.ref (n0 + 17)), (.int (Int32.ofNat st'))] w (c_key2 hw l h0 n0 5 18 7 8 9 10 11 12 13 1 17 0 st' _ [Value.long ww, Value.long ww, Value.long ww, Value.long ww, Value.long ww] _ rfl rfl rfl (by decide) (by omega) (by simp) (by simp; omega)) (Lk.new (k := 5) rfl) (t238 hw) (t239 hw) (w.notFace (t241 hw)) (t241 hw) (t240 hw) (t95 hw) (t242 hw) (by decide) pd24 at_411 (by decide) rfl rfl rfl rfl (Nat.le_of_eq rfl) rfl ?_
        intro T v L' hQ w
        obtain ⟨rfl, hL⟩ := hQ
        replace hL := hL.symm
        subst hL
        dsimp only [oS, oN, cA, nA]
        replace w : St p l e _ s m _ below meth c Z _ _ _ _ h0 n0 T [o0 (.int 3) (.ref (n0 + 2)) (.int 3), o1 .null (.ref ti) (.int l0) (.int u0) (.int l0) .null, aO ([.ref (n0 + 1), .ref (n0 + 3), .ref (n0 + 4), .null, .null, .null, .null, .null, .null, .null]), o1 .null (.ref ti) (.int l1) (.int u1) (.int l1) .null, o1 .null (.ref ti) (.int l2) (.int u2) (.int l2) .null, sOb n0 18 7 8 9 10 11 12 2 13 1, aJ ([]), aI ((List.replicate 1024 (Value.int (-1))).set ((hfin (hfold [A0, A1])) &&& (1023 : Int32)).toNatClampNeg (.int (entF 0 (hfin (hfold [A0, A1]))))), aI ([]), aI ([.int l0, .int l1, .int l2]), aI ([.int 0, .int 0, .int 1]), aI ([.int (Int32.ofNat 0), .int (Int32.ofNat b0), .int (Int32.ofNat 0)]), aJ ([.long (mkM b0), .long (mkM b1), .long (mkM b2)]), aJ ([.long B0, .long B1]), aI ([.int s0, .int s1, .int s2]), aI ([.int s0, .int xv, .int s2]), aJ ((List.take st' [Value.long ww, Value.long ww, Value.long ww, Value.long ww, Value.long ww] ++ [Value.long A0, Value.long A1] ++ List.drop (st' + 2) [Value.long ww, Value.long ww, Value.long ww, Value.long ww, Value.long ww]).set (st' + 0) (.long (setF A0 (mkM b1) (Int32.ofNat b0) xv l1))), aJ (List.take st' [Value.long ww, Value.long ww, Value.long ww, Value.long ww, Value.long ww] ++ [Value.long A0, Value.long A1] ++ List.drop (st' + 2) [Value.long ww, Value.long ww, Value.long ww, Value.long ww, Value.long ww]), aJ ([.long A0, .long A1] ++ List.replicate 1022 (.long 0))] 19 2121 := w
        refine s_aload (pc' := 416) w at_414 rfl rfl rfl ?_
        refine s_iconst (pc' := 417) (0 : Int32) w at_416 (by decide) rfl ?_
        have hzz := hz
        have hset := set2_1 hb0 hb1 hb2 hsum los0 his0 hx0 los1 his1 hx1 los2 his2 hx2 loxv hixv
        rw [hA0, hB0] at hset
        have hoth : A1 = B1 := by rw [← hA1, ← hB1]
        have hEK : (List.take st' [Value.long ww, Value.long ww, Value.long ww, Value.long ww, Value.long ww] ++ [Value.long A0, Value.long A1] ++ List.drop (st' + 2) [Value.long ww, Value.long ww, Value.long ww, Value.long ww, Value.long ww]).set (st' + 0) (.long (setF A0 (mkM b1) (Int32.ofNat b0) xv l1)) = List.take st' [Value.long ww, Value.long ww, Value.long ww, Value.long ww, Value.long ww] ++ [Value.long B0, Value.long B1] ++ List.drop (st' + 2) [Value.long ww, Value.long ww, Value.long ww, Value.long ww, Value.long ww] := by rw [hset, hoth]; exact list_set2_0 hst'
        rw [hEK] at w
        rw [show (List.take st' [Value.long ww, Value.long ww, Value.long ww, Value.long ww, Value.long ww] ++ [Value.long A0, Value.long A1] ++ List.drop (st' + 2) [Value.long ww, Value.long ww, Value.long ww, Value.long ww, Value.long ww]) = List.take st' [Value.long ww, Value.long ww, Value.long ww, Value.long ww, Value.long ww] ++ [Value.long B0, Value.long B1] ++ List.drop (st' + 2) [Value.long ww, Value.long ww, Value.long ww, Value.long ww, Value.long ww] by rw [hz.1, hz.2]] at w
        obtain ⟨z0, z1, z2, z3, z4, hz5⟩ := list_five2 (a := ww) (B0 := B0) (B1 := B1) hst'
        rw [hz5] at w
        refine s_laload (pc' := 418) (v := (.long z0)) w (Lk.new (k := 16) rfl) at_417 (by decide) rfl rfl ?_
        refine s_aload (pc' := 420) w at_418 rfl rfl rfl ?_
        refine s_iconst (pc' := 421) (0 : Int32) w at_420 (by decide) rfl ?_
        refine s_laload (pc' := 422) (v := (.long z0)) w (Lk.new (k := 17) rfl) at_421 (by decide) rfl rfl ?_
        refine s_lcmp (pc' := 423) w at_422 rfl ?_
        refine s_ifN (pc' := 426) w at_423 (Jvm.Free.XT.ll_ne_f rfl) rfl ?_
        refine s_aload (pc' := 428) w at_426 rfl rfl rfl ?_
        refine s_iconst (pc' := 429) (1 : Int32) w at_428 (by decide) rfl ?_
        refine s_laload (pc' := 430) (v := (.long z1)) w (Lk.new (k := 16) rfl) at_429 (by decide) rfl rfl ?_
        refine s_aload (pc' := 432) w at_430 rfl rfl rfl ?_
        refine s_iconst (pc' := 433) (1 : Int32) w at_432 (by decide) rfl ?_
        refine s_laload (pc' := 434) (v := (.long z1)) w (Lk.new (k := 17) rfl) at_433 (by decide) rfl rfl ?_
        refine s_lcmp (pc' := 435) w at_434 rfl ?_
        refine s_ifN (pc' := 438) w at_435 (Jvm.Free.XT.ll_ne_f rfl) rfl ?_
        refine s_aload (pc' := 440) w at_438 rfl rfl rfl ?_
        refine s_iconst (pc' := 441) (2 : Int32) w at_440 (by decide) rfl ?_
        refine s_laload (pc' := 442) (v := (.long z2)) w (Lk.new (k := 16) rfl) at_441 (by decide) rfl rfl ?_
        refine s_aload (pc' := 444) w at_442 rfl rfl rfl ?_
        refine s_iconst (pc' := 445) (2 : Int32) w at_444 (by decide) rfl ?_
        refine s_laload (pc' := 446) (v := (.long z2)) w (Lk.new (k := 17) rfl) at_445 (by decide) rfl rfl ?_
        refine s_lcmp (pc' := 447) w at_446 rfl ?_
        refine s_ifN (pc' := 450) w at_447 (Jvm.Free.XT.ll_ne_f rfl) rfl ?_
        refine s_aload (pc' := 452) w at_450 rfl rfl rfl ?_
        refine s_iconst (pc' := 453) (3 : Int32) w at_452 (by decide) rfl ?_
        refine s_laload (pc' := 454) (v := (.long z3)) w (Lk.new (k := 16) rfl) at_453 (by decide) rfl rfl ?_
        refine s_aload (pc' := 456) w at_454 rfl rfl rfl ?_
        refine s_iconst (pc' := 457) (3 : Int32) w at_456 (by decide) rfl ?_
        refine s_laload (pc' := 458) (v := (.long z3)) w (Lk.new (k := 17) rfl) at_457 (by decide) rfl rfl ?_
        refine s_lcmp (pc' := 459) w at_458 rfl ?_
        refine s_ifN (pc' := 462) w at_459 (Jvm.Free.XT.ll_ne_f rfl) rfl ?_
        refine s_aload (pc' := 464) w at_462 rfl rfl rfl ?_
        refine s_iconst (pc' := 465) (4 : Int32) w at_464 (by decide) rfl ?_
        refine s_laload (pc' := 466) (v := (.long z4)) w (Lk.new (k := 16) rfl) at_465 (by decide) rfl rfl ?_
        refine s_aload (pc' := 468) w at_466 rfl rfl rfl ?_
        refine s_iconst (pc' := 469) (4 : Int32) w at_468 (by decide) rfl ?_
        refine s_laload (pc' := 470) (v := (.long z4)) w (Lk.new (k := 17) rfl) at_469 (by decide) rfl rfl ?_
        refine s_lcmp (pc' := 471) w at_470 rfl ?_
        refine s_ifN (pc' := 474) w at_471 (Jvm.Free.XT.ll_ne_f rfl) rfl ?_
        refine s_iconst (pc' := 475) (1 : Int32) w at_474 (by decide) rfl ?_
        refine s_goto (pc' := 479) w at_475 (by decide) (by decide) ?_
        exact s_zreturn rfl w at_479 (by decide) (by decide) rfl
      · replace hL := hL.symm
        subst hL
        replace w : St p l e _ s m _ below meth c Z _ _ _ _ h0 n0 T [o0 (.int 3) (.ref (n0 + 2)) (.int 3), o1 .null (.ref ti) (.int l0) (.int u0) (.int l0) .null, aO ([.ref (n0 + 1), .ref (n0 + 3), .ref (n0 + 4), .null, .null, .null, .null, .null, .null, .null]), o1 .null (.ref ti) (.int l1) (.int u1) (.int l1) .null, o1 .null (.ref ti) (.int l2) (.int u2) (.int l2) .null, sOb n0 18 7 8 9 10 11 12 2 13 2, aJ ([]), aI (tb), aI ([]), aI ([.int l0, .int l1, .int l2]), aI ([.int 0, .int 0, .int 1]), aI ([.int (Int32.ofNat 0), .int (Int32.ofNat b0), .int (Int32.ofNat 0)]), aJ ([.long (mkM b0), .long (mkM b1), .long (mkM b2)]), aJ ([.long (((0 : Int64) ||| (dS s0 l0 (Int32.ofNat 0))) ||| (dS xv l1 (Int32.ofNat b0))), .long ((0 : Int64) ||| (dS s2 l2 (Int32.ofNat 0)))]), aI ([.int s0, .int s1, .int s2]), aI ([.int s0, .int xv, .int s2]), aJ ((List.take st' [Value.long ww, Value.long ww, Value.long ww, Value.long ww, Value.long ww] ++ [Value.long A0, Value.long A1] ++ List.drop (st' + 2) [Value.long ww, Value.long ww, Value.long ww, Value.long ww, Value.long ww]).set (st' + 0) (.long (setF A0 (mkM b1) (Int32.ofNat b0) xv l1))), aJ ([.long ww, .long ww, .long ww, .long ww, .long ww]), aJ ([.long A0, .long A1, .long (((0 : Int64) ||| (dS s0 l0 (Int32.ofNat 0))) ||| (dS xv l1 (Int32.ofNat b0))), .long ((0 : Int64) ||| (dS s2 l2 (Int32.ofNat 0)))] ++ List.replicate 1020 (.long 0))] 19 2121 := w
        change Go p e below _ T (mkF m 401 #[vJ r0, sc, vJ r1, sc, vJ r2, sc, vJ q1, sc, vJ q2, sc, vI sel, vI l0, vI u0, vI l1, vI u1, vI l2, vI u2, vR (n0 + 0), vR (n0 + 5), vI s0, vI s1, vI s2, vI (1 : Int32), vI (Int32.ofNat st'), vI xv, vR (n0 + 14), vR (n0 + 15), vJ ww, sc, vR (n0 + 16), vR (n0 + 17), vI (0 : Int32), un] [(.int (1 : Int32))])
        generalize hB0 : (((0 : Int64) ||| (dS s0 l0 (Int32.ofNat 0))) ||| (dS xv l1 (Int32.ofNat b0))) = B0 at w
        generalize hB1 : ((0 : Int64) ||| (dS s2 l2 (Int32.ofNat 0))) = B1 at w
        refine s_istore (pc' := 403) (ls' := #[vJ r0, sc, vJ r1, sc, vJ r2, sc, vJ q1, sc, vJ q2, sc, vI sel, vI l0, vI u0, vI l1, vI u1, vI l2, vI u2, vR (n0 + 0), vR (n0 + 5), vI s0, vI s1, vI s2, vI (1 : Int32), vI (Int32.ofNat st'), vI xv, vR (n0 + 14), vR (n0 + 15), vJ ww, sc, vR (n0 + 16), vR (n0 + 17), vI (0 : Int32), vI (1 : Int32)]) w at_401 rfl rfl ?_
        refine s_aload (pc' := 405) w at_403 rfl rfl rfl ?_
        refine s_iload (pc' := 407) w at_405 rfl rfl ?_
        refine s_aload (pc' := 409) w at_407 rfl rfl rfl ?_
        refine s_iload (pc' := 411) w at_409 rfl rfl ?_
        change Go p e below _ T (mkF m 411 #[vJ r0, sc, vJ r1, sc, vJ r2, sc, vJ q1, sc, vJ q2, sc, vI sel, vI l0, vI u0, vI l1, vI u1, vI l2, vI u2, vR (n0 + 0), vR (n0 + 5), vI s0, vI s1, vI s2, vI (1 : Int32), vI (Int32.ofNat st'), vI xv, vR (n0 + 14), vR (n0 + 15), vJ ww, sc, vR (n0 + 16), vR (n0 + 17), vI (0 : Int32), vI (1 : Int32)] [(.int (Int32.ofNat st')), (.ref (n0 + 17)), (.int (Int32.ofNat 1)), (.ref (n0 + 5))])
        refine s_virtual (pc' := 414) (rest := []) 0 [(.int (Int32.ofNat 1)), (.ref (n0 + 17)), (.int (Int32.ofNat st'))] w (c_key2 hw l h0 n0 5 18 7 8 9 10 11 12 13 2 17 1 st' _ [Value.long ww, Value.long ww, Value.long ww, Value.long ww, Value.long ww] _ rfl rfl rfl (by decide) (by omega) (by simp) (by simp; omega)) (Lk.new (k := 5) rfl) (t238 hw) (t239 hw) (w.notFace (t241 hw)) (t241 hw) (t240 hw) (t95 hw) (t242 hw) (by decide) pd24 at_411 (by decide) rfl rfl rfl rfl (Nat.le_of_eq rfl) rfl ?_
        intro T v L' hQ w
        obtain ⟨rfl, hL⟩ := hQ
        replace hL := hL.symm
        subst hL
        dsimp only [oS, oN, cA, nA]
        replace w : St p l e _ s m _ below meth c Z _ _ _ _ h0 n0 T [o0 (.int 3) (.ref (n0 + 2)) (.int 3), o1 .null (.ref ti) (.int l0) (.int u0) (.int l0) .null, aO ([.ref (n0 + 1), .ref (n0 + 3), .ref (n0 + 4), .null, .null, .null, .null, .null, .null, .null]), o1 .null (.ref ti) (.int l1) (.int u1) (.int l1) .null, o1 .null (.ref ti) (.int l2) (.int u2) (.int l2) .null, sOb n0 18 7 8 9 10 11 12 2 13 2, aJ ([]), aI (tb), aI ([]), aI ([.int l0, .int l1, .int l2]), aI ([.int 0, .int 0, .int 1]), aI ([.int (Int32.ofNat 0), .int (Int32.ofNat b0), .int (Int32.ofNat 0)]), aJ ([.long (mkM b0), .long (mkM b1), .long (mkM b2)]), aJ ([.long B0, .long B1]), aI ([.int s0, .int s1, .int s2]), aI ([.int s0, .int xv, .int s2]), aJ ((List.take st' [Value.long ww, Value.long ww, Value.long ww, Value.long ww, Value.long ww] ++ [Value.long A0, Value.long A1] ++ List.drop (st' + 2) [Value.long ww, Value.long ww, Value.long ww, Value.long ww, Value.long ww]).set (st' + 0) (.long (setF A0 (mkM b1) (Int32.ofNat b0) xv l1))), aJ (List.take st' [Value.long ww, Value.long ww, Value.long ww, Value.long ww, Value.long ww] ++ [Value.long B0, Value.long B1] ++ List.drop (st' + 2) [Value.long ww, Value.long ww, Value.long ww, Value.long ww, Value.long ww]), aJ ([.long A0, .long A1, .long B0, .long B1] ++ List.replicate 1020 (.long 0))] 19 2121 := w
        refine s_aload (pc' := 416) w at_414 rfl rfl rfl ?_
        refine s_iconst (pc' := 417) (0 : Int32) w at_416 (by decide) rfl ?_
        have hset := set2_1 hb0 hb1 hb2 hsum los0 his0 hx0 los1 his1 hx1 los2 his2 hx2 loxv hixv
        rw [hA0, hB0] at hset
        have hoth : A1 = B1 := by rw [← hA1, ← hB1]
        have hEK : (List.take st' [Value.long ww, Value.long ww, Value.long ww, Value.long ww, Value.long ww] ++ [Value.long A0, Value.long A1] ++ List.drop (st' + 2) [Value.long ww, Value.long ww, Value.long ww, Value.long ww, Value.long ww]).set (st' + 0) (.long (setF A0 (mkM b1) (Int32.ofNat b0) xv l1)) = List.take st' [Value.long ww, Value.long ww, Value.long ww, Value.long ww, Value.long ww] ++ [Value.long B0, Value.long B1] ++ List.drop (st' + 2) [Value.long ww, Value.long ww, Value.long ww, Value.long ww, Value.long ww] := by rw [hset, hoth]; exact list_set2_0 hst'
        rw [hEK] at w
        obtain ⟨z0, z1, z2, z3, z4, hz5⟩ := list_five2 (a := ww) (B0 := B0) (B1 := B1) hst'
        rw [hz5] at w
        refine s_laload (pc' := 418) (v := (.long z0)) w (Lk.new (k := 16) rfl) at_417 (by decide) rfl rfl ?_
        refine s_aload (pc' := 420) w at_418 rfl rfl rfl ?_
        refine s_iconst (pc' := 421) (0 : Int32) w at_420 (by decide) rfl ?_
        refine s_laload (pc' := 422) (v := (.long z0)) w (Lk.new (k := 17) rfl) at_421 (by decide) rfl rfl ?_
        refine s_lcmp (pc' := 423) w at_422 rfl ?_
        refine s_ifN (pc' := 426) w at_423 (Jvm.Free.XT.ll_ne_f rfl) rfl ?_
        refine s_aload (pc' := 428) w at_426 rfl rfl rfl ?_
        refine s_iconst (pc' := 429) (1 : Int32) w at_428 (by decide) rfl ?_
        refine s_laload (pc' := 430) (v := (.long z1)) w (Lk.new (k := 16) rfl) at_429 (by decide) rfl rfl ?_
        refine s_aload (pc' := 432) w at_430 rfl rfl rfl ?_
        refine s_iconst (pc' := 433) (1 : Int32) w at_432 (by decide) rfl ?_
        refine s_laload (pc' := 434) (v := (.long z1)) w (Lk.new (k := 17) rfl) at_433 (by decide) rfl rfl ?_
        refine s_lcmp (pc' := 435) w at_434 rfl ?_
        refine s_ifN (pc' := 438) w at_435 (Jvm.Free.XT.ll_ne_f rfl) rfl ?_
        refine s_aload (pc' := 440) w at_438 rfl rfl rfl ?_
        refine s_iconst (pc' := 441) (2 : Int32) w at_440 (by decide) rfl ?_
        refine s_laload (pc' := 442) (v := (.long z2)) w (Lk.new (k := 16) rfl) at_441 (by decide) rfl rfl ?_
        refine s_aload (pc' := 444) w at_442 rfl rfl rfl ?_
        refine s_iconst (pc' := 445) (2 : Int32) w at_444 (by decide) rfl ?_
        refine s_laload (pc' := 446) (v := (.long z2)) w (Lk.new (k := 17) rfl) at_445 (by decide) rfl rfl ?_
        refine s_lcmp (pc' := 447) w at_446 rfl ?_
        refine s_ifN (pc' := 450) w at_447 (Jvm.Free.XT.ll_ne_f rfl) rfl ?_
        refine s_aload (pc' := 452) w at_450 rfl rfl rfl ?_
        refine s_iconst (pc' := 453) (3 : Int32) w at_452 (by decide) rfl ?_
        refine s_laload (pc' := 454) (v := (.long z3)) w (Lk.new (k := 16) rfl) at_453 (by decide) rfl rfl ?_
        refine s_aload (pc' := 456) w at_454 rfl rfl rfl ?_
        refine s_iconst (pc' := 457) (3 : Int32) w at_456 (by decide) rfl ?_
        refine s_laload (pc' := 458) (v := (.long z3)) w (Lk.new (k := 17) rfl) at_457 (by decide) rfl rfl ?_
        refine s_lcmp (pc' := 459) w at_458 rfl ?_
        refine s_ifN (pc' := 462) w at_459 (Jvm.Free.XT.ll_ne_f rfl) rfl ?_
        refine s_aload (pc' := 464) w at_462 rfl rfl rfl ?_
        refine s_iconst (pc' := 465) (4 : Int32) w at_464 (by decide) rfl ?_
        refine s_laload (pc' := 466) (v := (.long z4)) w (Lk.new (k := 16) rfl) at_465 (by decide) rfl rfl ?_
        refine s_aload (pc' := 468) w at_466 rfl rfl rfl ?_
        refine s_iconst (pc' := 469) (4 : Int32) w at_468 (by decide) rfl ?_
        refine s_laload (pc' := 470) (v := (.long z4)) w (Lk.new (k := 17) rfl) at_469 (by decide) rfl rfl ?_
        refine s_lcmp (pc' := 471) w at_470 rfl ?_
        refine s_ifN (pc' := 474) w at_471 (Jvm.Free.XT.ll_ne_f rfl) rfl ?_
        refine s_iconst (pc' := 475) (1 : Int32) w at_474 (by decide) rfl ?_
        refine s_goto (pc' := 479) w at_475 (by decide) (by decide) ?_
        exact s_zreturn rfl w at_479 (by decide) (by decide) rfl
    · change Go p e below _ T (mkF m 191 #[vJ r0, sc, vJ r1, sc, vJ r2, sc, vJ q1, sc, vJ q2, sc, vI sel, vI l0, vI u0, vI l1, vI u1, vI l2, vI u2, vR (n0 + 0), vR (n0 + 5), vI s0, vI s1, vI s2, vI (2 : Int32), vI (Int32.ofNat st'), un, un, un, un, un, un, un, un, un] [(.int (2 : Int32))])
      refine s_ifY (pc' := 211) w at_191 (Jvm.Free.XT.i0_ne_t (by decide)) (by decide) (by decide) ?_
      refine s_iload (pc' := 213) w at_211 rfl rfl ?_
      refine s_iconst (pc' := 214) (1 : Int32) w at_213 (by decide) rfl ?_
      refine s_icmpY (pc' := 234) w at_214 (Jvm.Free.XT.ii_ne_t (by decide)) (by decide) (by decide) ?_
      refine s_iload (pc' := 236) w at_234 rfl rfl ?_
      refine s_iload (pc' := 238) w at_236 rfl rfl ?_
      refine s_lload (pc' := 240) w at_238 rfl rfl ?_
      refine s_bipush (pc' := 242) (32 : Int32) w at_240 (by decide) rfl ?_
      refine s_lushr (pc' := 243) w at_242 rfl ?_
      refine s_static (pc' := 246) (rest := []) 0 [(.int l2), (.int u2), (.long (Jvm.Free.XT.ushrL q2 (32 : Int32)))] w (c_pick hw l h0 n0 l2 u2 (Jvm.Free.XT.ushrL q2 (32 : Int32)) _ hl2) (t183 hw) (t184 hw) (t2 hw) (t185 hw) (by decide) pd22 at_243 (by decide) rfl rfl rfl rfl (Nat.le_of_eq rfl) rfl ?_
      intro T v L' hQ w
      obtain ⟨xv, rfl, loxv, hixv, hL⟩ := hQ
      replace hL := hL.symm
      subst hL
      dsimp only [oS, oN, cA, nA]
      refine s_istore (pc' := 248) (ls' := #[vJ r0, sc, vJ r1, sc, vJ r2, sc, vJ q1, sc, vJ q2, sc, vI sel, vI l0, vI u0, vI l1, vI u1, vI l2, vI u2, vR (n0 + 0), vR (n0 + 5), vI s0, vI s1, vI s2, vI (2 : Int32), vI (Int32.ofNat st'), vI xv, un, un, un, un, un, un, un, un]) w at_246 rfl rfl ?_
      refine s_iconst (pc' := 249) (3 : Int32) w at_248 (by decide) rfl ?_
      refine s_newarray (pc' := 251) (ty := .int) w (t111 hw) rfl (by intro C h; cases h) at_249 (by decide) 3 (by decide) (by decide) (by decide) (by decide) 14 rfl rfl ?_
      intro T w
      replace w : St p l e _ s m _ below meth c Z _ _ _ _ h0 n0 T [o0 (.int 3) (.ref (n0 + 2)) (.int 3), o1 .null (.ref ti) (.int l0) (.int u0) (.int l0) .null, aO ([.ref (n0 + 1), .ref (n0 + 3), .ref (n0 + 4), .null, .null, .null, .null, .null, .null, .null]), o1 .null (.ref ti) (.int l1) (.int u1) (.int l1) .null, o1 .null (.ref ti) (.int l2) (.int u2) (.int l2) .null, sOb n0 6 7 8 9 10 11 12 2 13 0, aJ ([]), aI (List.replicate 1024 (Value.int (-1))), aI ([]), aI ([.int l0, .int l1, .int l2]), aI ([.int 0, .int 0, .int 1]), aI ([.int (Int32.ofNat 0), .int (Int32.ofNat b0), .int (Int32.ofNat 0)]), aJ ([.long (mkM b0), .long (mkM b1), .long (mkM b2)]), aJ ([.long 0, .long 0]), aI ([(.int 0), (.int 0), (.int 0)])] 15 1084 := w
      refine s_dup (pc' := 252) w at_251 rfl rfl ?_
      refine s_iconst (pc' := 253) (0 : Int32) w at_252 (by decide) rfl ?_
      refine s_iload (pc' := 255) w at_253 rfl rfl ?_
      refine s_iastore (pc' := 256) (k := 14) w rfl at_255 (by decide) (leB rfl) rfl ?_
      intro T w
      refine s_dup (pc' := 257) w at_256 rfl rfl ?_
      refine s_iconst (pc' := 258) (1 : Int32) w at_257 (by decide) rfl ?_
      refine s_iload (pc' := 260) w at_258 rfl rfl ?_
      refine s_iastore (pc' := 261) (k := 14) w rfl at_260 (by decide) (leB rfl) rfl ?_
      intro T w
      refine s_dup (pc' := 262) w at_261 rfl rfl ?_
      refine s_iconst (pc' := 263) (2 : Int32) w at_262 (by decide) rfl ?_
      refine s_iload (pc' := 265) w at_263 rfl rfl ?_
      refine s_iastore (pc' := 266) (k := 14) w rfl at_265 (by decide) (leB rfl) rfl ?_
      intro T w
      replace w : St p l e _ s m _ below meth c Z _ _ _ _ h0 n0 T [o0 (.int 3) (.ref (n0 + 2)) (.int 3), o1 .null (.ref ti) (.int l0) (.int u0) (.int l0) .null, aO ([.ref (n0 + 1), .ref (n0 + 3), .ref (n0 + 4), .null, .null, .null, .null, .null, .null, .null]), o1 .null (.ref ti) (.int l1) (.int u1) (.int l1) .null, o1 .null (.ref ti) (.int l2) (.int u2) (.int l2) .null, sOb n0 6 7 8 9 10 11 12 2 13 0, aJ ([]), aI (List.replicate 1024 (Value.int (-1))), aI ([]), aI ([.int l0, .int l1, .int l2]), aI ([.int 0, .int 0, .int 1]), aI ([.int (Int32.ofNat 0), .int (Int32.ofNat b0), .int (Int32.ofNat 0)]), aJ ([.long (mkM b0), .long (mkM b1), .long (mkM b2)]), aJ ([.long 0, .long 0]), aI ([.int s0, .int s1, .int s2])] 15 1084 := w
      refine s_astore (pc' := 268) (ls' := #[vJ r0, sc, vJ r1, sc, vJ r2, sc, vJ q1, sc, vJ q2, sc, vI sel, vI l0, vI u0, vI l1, vI u1, vI l2, vI u2, vR (n0 + 0), vR (n0 + 5), vI s0, vI s1, vI s2, vI (2 : Int32), vI (Int32.ofNat st'), vI xv, vR (n0 + 14), un, un, un, un, un, un, un]) w at_266 rfl rfl rfl ?_
      refine s_iconst (pc' := 269) (3 : Int32) w at_268 (by decide) rfl ?_
      refine s_newarray (pc' := 271) (ty := .int) w (t111 hw) rfl (by intro C h; cases h) at_269 (by decide) 3 (by decide) (by decide) (by decide) (by decide) 15 rfl rfl ?_
      intro T w
      replace w : St p l e _ s m _ below meth c Z _ _ _ _ h0 n0 T [o0 (.int 3) (.ref (n0 + 2)) (.int 3), o1 .null (.ref ti) (.int l0) (.int u0) (.int l0) .null, aO ([.ref (n0 + 1), .ref (n0 + 3), .ref (n0 + 4), .null, .null, .null, .null, .null, .null, .null]), o1 .null (.ref ti) (.int l1) (.int u1) (.int l1) .null, o1 .null (.ref ti) (.int l2) (.int u2) (.int l2) .null, sOb n0 6 7 8 9 10 11 12 2 13 0, aJ ([]), aI (List.replicate 1024 (Value.int (-1))), aI ([]), aI ([.int l0, .int l1, .int l2]), aI ([.int 0, .int 0, .int 1]), aI ([.int (Int32.ofNat 0), .int (Int32.ofNat b0), .int (Int32.ofNat 0)]), aJ ([.long (mkM b0), .long (mkM b1), .long (mkM b2)]), aJ ([.long 0, .long 0]), aI ([.int s0, .int s1, .int s2]), aI ([(.int 0), (.int 0), (.int 0)])] 16 1087 := w
      refine s_dup (pc' := 272) w at_271 rfl rfl ?_
      refine s_iconst (pc' := 273) (0 : Int32) w at_272 (by decide) rfl ?_
      refine s_iload (pc' := 275) w at_273 rfl rfl ?_
      refine s_iastore (pc' := 276) (k := 15) w rfl at_275 (by decide) (leB rfl) rfl ?_
      intro T w
      refine s_dup (pc' := 277) w at_276 rfl rfl ?_
      refine s_iconst (pc' := 278) (1 : Int32) w at_277 (by decide) rfl ?_
      refine s_iload (pc' := 280) w at_278 rfl rfl ?_
      refine s_iastore (pc' := 281) (k := 15) w rfl at_280 (by decide) (leB rfl) rfl ?_
      intro T w
      refine s_dup (pc' := 282) w at_281 rfl rfl ?_
      refine s_iconst (pc' := 283) (2 : Int32) w at_282 (by decide) rfl ?_
      refine s_iload (pc' := 285) w at_283 rfl rfl ?_
      refine s_iastore (pc' := 286) (k := 15) w rfl at_285 (by decide) (leB rfl) rfl ?_
      intro T w
      replace w : St p l e _ s m _ below meth c Z _ _ _ _ h0 n0 T [o0 (.int 3) (.ref (n0 + 2)) (.int 3), o1 .null (.ref ti) (.int l0) (.int u0) (.int l0) .null, aO ([.ref (n0 + 1), .ref (n0 + 3), .ref (n0 + 4), .null, .null, .null, .null, .null, .null, .null]), o1 .null (.ref ti) (.int l1) (.int u1) (.int l1) .null, o1 .null (.ref ti) (.int l2) (.int u2) (.int l2) .null, sOb n0 6 7 8 9 10 11 12 2 13 0, aJ ([]), aI (List.replicate 1024 (Value.int (-1))), aI ([]), aI ([.int l0, .int l1, .int l2]), aI ([.int 0, .int 0, .int 1]), aI ([.int (Int32.ofNat 0), .int (Int32.ofNat b0), .int (Int32.ofNat 0)]), aJ ([.long (mkM b0), .long (mkM b1), .long (mkM b2)]), aJ ([.long 0, .long 0]), aI ([.int s0, .int s1, .int s2]), aI ([.int s0, .int s1, .int s2])] 16 1087 := w
      refine s_astore (pc' := 288) (ls' := #[vJ r0, sc, vJ r1, sc, vJ r2, sc, vJ q1, sc, vJ q2, sc, vI sel, vI l0, vI u0, vI l1, vI u1, vI l2, vI u2, vR (n0 + 0), vR (n0 + 5), vI s0, vI s1, vI s2, vI (2 : Int32), vI (Int32.ofNat st'), vI xv, vR (n0 + 14), vR (n0 + 15), un, un, un, un, un, un]) w at_286 rfl rfl rfl ?_
      refine s_aload (pc' := 290) w at_288 rfl rfl rfl ?_
      refine s_iload (pc' := 292) w at_290 rfl rfl ?_
      refine s_iload (pc' := 294) w at_292 rfl rfl ?_
      refine s_iastore (pc' := 295) (k := 15) w rfl at_294 (by decide) (leB rfl) rfl ?_
      intro T w
      replace w : St p l e _ s m _ below meth c Z _ _ _ _ h0 n0 T [o0 (.int 3) (.ref (n0 + 2)) (.int 3), o1 .null (.ref ti) (.int l0) (.int u0) (.int l0) .null, aO ([.ref (n0 + 1), .ref (n0 + 3), .ref (n0 + 4), .null, .null, .null, .null, .null, .null, .null]), o1 .null (.ref ti) (.int l1) (.int u1) (.int l1) .null, o1 .null (.ref ti) (.int l2) (.int u2) (.int l2) .null, sOb n0 6 7 8 9 10 11 12 2 13 0, aJ ([]), aI (List.replicate 1024 (Value.int (-1))), aI ([]), aI ([.int l0, .int l1, .int l2]), aI ([.int 0, .int 0, .int 1]), aI ([.int (Int32.ofNat 0), .int (Int32.ofNat b0), .int (Int32.ofNat 0)]), aJ ([.long (mkM b0), .long (mkM b1), .long (mkM b2)]), aJ ([.long 0, .long 0]), aI ([.int s0, .int s1, .int s2]), aI ([.int s0, .int s1, .int xv])] 16 1087 := w
      refine s_lload (pc' := 297) w at_295 rfl rfl ?_
      refine s_lloadN (pc' := 298) w at_297 rfl rfl ?_
      refine s_lxor (pc' := 299) w at_298 rfl ?_
      generalize hww : (q2 ^^^ r0) = ww
      refine s_lstore (pc' := 301) (ls' := #[vJ r0, sc, vJ r1, sc, vJ r2, sc, vJ q1, sc, vJ q2, sc, vI sel, vI l0, vI u0, vI l1, vI u1, vI l2, vI u2, vR (n0 + 0), vR (n0 + 5), vI s0, vI s1, vI s2, vI (2 : Int32), vI (Int32.ofNat st'), vI xv, vR (n0 + 14), vR (n0 + 15), vJ ww, sc, un, un, un, un]) w at_299 rfl rfl ?_
      refine s_iconst (pc' := 302) (5 : Int32) w at_301 (by decide) rfl ?_
      refine s_newarray (pc' := 304) (ty := .long) w (t100 hw) rfl (by intro C h; cases h) at_302 (by decide) 5 (by decide) (by decide) (by decide) (by decide) 16 rfl rfl ?_
      intro T w
      replace w : St p l e _ s m _ below meth c Z _ _ _ _ h0 n0 T [o0 (.int 3) (.ref (n0 + 2)) (.int 3), o1 .null (.ref ti) (.int l0) (.int u0) (.int l0) .null, aO ([.ref (n0 + 1), .ref (n0 + 3), .ref (n0 + 4), .null, .null, .null, .null, .null, .null, .null]), o1 .null (.ref ti) (.int l1) (.int u1) (.int l1) .null, o1 .null (.ref ti) (.int l2) (.int u2) (.int l2) .null, sOb n0 6 7 8 9 10 11 12 2 13 0, aJ ([]), aI (List.replicate 1024 (Value.int (-1))), aI ([]), aI ([.int l0, .int l1, .int l2]), aI ([.int 0, .int 0, .int 1]), aI ([.int (Int32.ofNat 0), .int (Int32.ofNat b0), .int (Int32.ofNat 0)]), aJ ([.long (mkM b0), .long (mkM b1), .long (mkM b2)]), aJ ([.long 0, .long 0]), aI ([.int s0, .int s1, .int s2]), aI ([.int s0, .int s1, .int xv]), aJ ([(.long 0), (.long 0), (.long 0), (.long 0), (.long 0)])] 17 1092 := w
      refine s_dup (pc' := 305) w at_304 rfl rfl ?_
      refine s_iconst (pc' := 306) (0 : Int32) w at_305 (by decide) rfl ?_
      refine s_lload (pc' := 308) w at_306 rfl rfl ?_
      refine s_lastore (pc' := 309) (k := 16) w rfl at_308 (by decide) (leB rfl) rfl ?_
      intro T w
      refine s_dup (pc' := 310) w at_309 rfl rfl ?_
      refine s_iconst (pc' := 311) (1 : Int32) w at_310 (by decide) rfl ?_
      refine s_lload (pc' := 313) w at_311 rfl rfl ?_
      refine s_lastore (pc' := 314) (k := 16) w rfl at_313 (by decide) (leB rfl) rfl ?_
      intro T w
      refine s_dup (pc' := 315) w at_314 rfl rfl ?_
      refine s_iconst (pc' := 316) (2 : Int32) w at_315 (by decide) rfl ?_
      refine s_lload (pc' := 318) w at_316 rfl rfl ?_
      refine s_lastore (pc' := 319) (k := 16) w rfl at_318 (by decide) (leB rfl) rfl ?_
      intro T w
      refine s_dup (pc' := 320) w at_319 rfl rfl ?_
      refine s_iconst (pc' := 321) (3 : Int32) w at_320 (by decide) rfl ?_
      refine s_lload (pc' := 323) w at_321 rfl rfl ?_
      refine s_lastore (pc' := 324) (k := 16) w rfl at_323 (by decide) (leB rfl) rfl ?_
      intro T w
      refine s_dup (pc' := 325) w at_324 rfl rfl ?_
      refine s_iconst (pc' := 326) (4 : Int32) w at_325 (by decide) rfl ?_
      refine s_lload (pc' := 328) w at_326 rfl rfl ?_
      refine s_lastore (pc' := 329) (k := 16) w rfl at_328 (by decide) (leB rfl) rfl ?_
      intro T w
      replace w : St p l e _ s m _ below meth c Z _ _ _ _ h0 n0 T [o0 (.int 3) (.ref (n0 + 2)) (.int 3), o1 .null (.ref ti) (.int l0) (.int u0) (.int l0) .null, aO ([.ref (n0 + 1), .ref (n0 + 3), .ref (n0 + 4), .null, .null, .null, .null, .null, .null, .null]), o1 .null (.ref ti) (.int l1) (.int u1) (.int l1) .null, o1 .null (.ref ti) (.int l2) (.int u2) (.int l2) .null, sOb n0 6 7 8 9 10 11 12 2 13 0, aJ ([]), aI (List.replicate 1024 (Value.int (-1))), aI ([]), aI ([.int l0, .int l1, .int l2]), aI ([.int 0, .int 0, .int 1]), aI ([.int (Int32.ofNat 0), .int (Int32.ofNat b0), .int (Int32.ofNat 0)]), aJ ([.long (mkM b0), .long (mkM b1), .long (mkM b2)]), aJ ([.long 0, .long 0]), aI ([.int s0, .int s1, .int s2]), aI ([.int s0, .int s1, .int xv]), aJ ([.long ww, .long ww, .long ww, .long ww, .long ww])] 17 1092 := w
      refine s_astore (pc' := 331) (ls' := #[vJ r0, sc, vJ r1, sc, vJ r2, sc, vJ q1, sc, vJ q2, sc, vI sel, vI l0, vI u0, vI l1, vI u1, vI l2, vI u2, vR (n0 + 0), vR (n0 + 5), vI s0, vI s1, vI s2, vI (2 : Int32), vI (Int32.ofNat st'), vI xv, vR (n0 + 14), vR (n0 + 15), vJ ww, sc, vR (n0 + 16), un, un, un]) w at_329 rfl rfl rfl ?_
      refine s_iconst (pc' := 332) (5 : Int32) w at_331 (by decide) rfl ?_
      refine s_newarray (pc' := 334) (ty := .long) w (t100 hw) rfl (by intro C h; cases h) at_332 (by decide) 5 (by decide) (by decide) (by decide) (by decide) 17 rfl rfl ?_
      intro T w
      replace w : St p l e _ s m _ below meth c Z _ _ _ _ h0 n0 T [o0 (.int 3) (.ref (n0 + 2)) (.int 3), o1 .null (.ref ti) (.int l0) (.int u0) (.int l0) .null, aO ([.ref (n0 + 1), .ref (n0 + 3), .ref (n0 + 4), .null, .null, .null, .null, .null, .null, .null]), o1 .null (.ref ti) (.int l1) (.int u1) (.int l1) .null, o1 .null (.ref ti) (.int l2) (.int u2) (.int l2) .null, sOb n0 6 7 8 9 10 11 12 2 13 0, aJ ([]), aI (List.replicate 1024 (Value.int (-1))), aI ([]), aI ([.int l0, .int l1, .int l2]), aI ([.int 0, .int 0, .int 1]), aI ([.int (Int32.ofNat 0), .int (Int32.ofNat b0), .int (Int32.ofNat 0)]), aJ ([.long (mkM b0), .long (mkM b1), .long (mkM b2)]), aJ ([.long 0, .long 0]), aI ([.int s0, .int s1, .int s2]), aI ([.int s0, .int s1, .int xv]), aJ ([.long ww, .long ww, .long ww, .long ww, .long ww]), aJ ([(.long 0), (.long 0), (.long 0), (.long 0), (.long 0)])] 18 1097 := w
      refine s_dup (pc' := 335) w at_334 rfl rfl ?_
      refine s_iconst (pc' := 336) (0 : Int32) w at_335 (by decide) rfl ?_
      refine s_lload (pc' := 338) w at_336 rfl rfl ?_
      refine s_lastore (pc' := 339) (k := 17) w rfl at_338 (by decide) (leB rfl) rfl ?_
      intro T w
      refine s_dup (pc' := 340) w at_339 rfl rfl ?_
      refine s_iconst (pc' := 341) (1 : Int32) w at_340 (by decide) rfl ?_
      refine s_lload (pc' := 343) w at_341 rfl rfl ?_
      refine s_lastore (pc' := 344) (k := 17) w rfl at_343 (by decide) (leB rfl) rfl ?_
      intro T w
      refine s_dup (pc' := 345) w at_344 rfl rfl ?_
      refine s_iconst (pc' := 346) (2 : Int32) w at_345 (by decide) rfl ?_
      refine s_lload (pc' := 348) w at_346 rfl rfl ?_
      refine s_lastore (pc' := 349) (k := 17) w rfl at_348 (by decide) (leB rfl) rfl ?_
      intro T w
      refine s_dup (pc' := 350) w at_349 rfl rfl ?_
      refine s_iconst (pc' := 351) (3 : Int32) w at_350 (by decide) rfl ?_
      refine s_lload (pc' := 353) w at_351 rfl rfl ?_
      refine s_lastore (pc' := 354) (k := 17) w rfl at_353 (by decide) (leB rfl) rfl ?_
      intro T w
      refine s_dup (pc' := 355) w at_354 rfl rfl ?_
      refine s_iconst (pc' := 356) (4 : Int32) w at_355 (by decide) rfl ?_
      refine s_lload (pc' := 358) w at_356 rfl rfl ?_
      refine s_lastore (pc' := 359) (k := 17) w rfl at_358 (by decide) (leB rfl) rfl ?_
      intro T w
      replace w : St p l e _ s m _ below meth c Z _ _ _ _ h0 n0 T [o0 (.int 3) (.ref (n0 + 2)) (.int 3), o1 .null (.ref ti) (.int l0) (.int u0) (.int l0) .null, aO ([.ref (n0 + 1), .ref (n0 + 3), .ref (n0 + 4), .null, .null, .null, .null, .null, .null, .null]), o1 .null (.ref ti) (.int l1) (.int u1) (.int l1) .null, o1 .null (.ref ti) (.int l2) (.int u2) (.int l2) .null, sOb n0 6 7 8 9 10 11 12 2 13 0, aJ ([]), aI (List.replicate 1024 (Value.int (-1))), aI ([]), aI ([.int l0, .int l1, .int l2]), aI ([.int 0, .int 0, .int 1]), aI ([.int (Int32.ofNat 0), .int (Int32.ofNat b0), .int (Int32.ofNat 0)]), aJ ([.long (mkM b0), .long (mkM b1), .long (mkM b2)]), aJ ([.long 0, .long 0]), aI ([.int s0, .int s1, .int s2]), aI ([.int s0, .int s1, .int xv]), aJ ([.long ww, .long ww, .long ww, .long ww, .long ww]), aJ ([.long ww, .long ww, .long ww, .long ww, .long ww])] 18 1097 := w
      refine s_astore (pc' := 361) (ls' := #[vJ r0, sc, vJ r1, sc, vJ r2, sc, vJ q1, sc, vJ q2, sc, vI sel, vI l0, vI u0, vI l1, vI u1, vI l2, vI u2, vR (n0 + 0), vR (n0 + 5), vI s0, vI s1, vI s2, vI (2 : Int32), vI (Int32.ofNat st'), vI xv, vR (n0 + 14), vR (n0 + 15), vJ ww, sc, vR (n0 + 16), vR (n0 + 17), un, un]) w at_359 rfl rfl rfl ?_
      refine s_aload (pc' := 363) w at_361 rfl rfl rfl ?_
      refine s_aload (pc' := 365) w at_363 rfl rfl rfl ?_
      refine s_virtual (pc' := 368) (rest := []) 0 [(.ref (n0 + 14))] w (c_addOne2 hw l h0 n0 5 6 7 8 9 10 11 12 13 (n0 + 14) s0 s1 s2 l0 l1 l2 (Int32.ofNat 0) (Int32.ofNat b0) (Int32.ofNat 0) 0 0 _ rfl rfl rfl rfl rfl rfl rfl (Lk.new (k := 14) rfl) (by decide) (by decide) (by decide) (by decide) (ad_ne (by decide)) (by decide) (by decide) (by decide)) (Lk.new (k := 5) rfl) (t186 hw) (t187 hw) (w.notFace (t189 hw)) (t189 hw) (t188 hw) (t95 hw) (t190 hw) (by decide) pd23 at_365 (by decide) rfl rfl rfl rfl (Nat.le_of_eq rfl) rfl ?_
      intro T v L' hQ w
      obtain ⟨rfl, hL⟩ := hQ
      replace hL := hL.symm
      subst hL
      dsimp only [oS, oN, cA, nA]
      replace w : St p l e _ s m _ below meth c Z _ _ _ _ h0 n0 T [o0 (.int 3) (.ref (n0 + 2)) (.int 3), o1 .null (.ref ti) (.int l0) (.int u0) (.int l0) .null, aO ([.ref (n0 + 1), .ref (n0 + 3), .ref (n0 + 4), .null, .null, .null, .null, .null, .null, .null]), o1 .null (.ref ti) (.int l1) (.int u1) (.int l1) .null, o1 .null (.ref ti) (.int l2) (.int u2) (.int l2) .null, sOb n0 18 7 8 9 10 11 12 2 13 1, aJ ([]), aI ((List.replicate 1024 (Value.int (-1))).set ((hfin (hfold [(((0 : Int64) ||| (dS s0 l0 (Int32.ofNat 0))) ||| (dS s1 l1 (Int32.ofNat b0))), ((0 : Int64) ||| (dS s2 l2 (Int32.ofNat 0)))])) &&& (1023 : Int32)).toNatClampNeg (.int (entF 0 (hfin (hfold [(((0 : Int64) ||| (dS s0 l0 (Int32.ofNat 0))) ||| (dS s1 l1 (Int32.ofNat b0))), ((0 : Int64) ||| (dS s2 l2 (Int32.ofNat 0)))]))))), aI ([]), aI ([.int l0, .int l1, .int l2]), aI ([.int 0, .int 0, .int 1]), aI ([.int (Int32.ofNat 0), .int (Int32.ofNat b0), .int (Int32.ofNat 0)]), aJ ([.long (mkM b0), .long (mkM b1), .long (mkM b2)]), aJ ([.long (((0 : Int64) ||| (dS s0 l0 (Int32.ofNat 0))) ||| (dS s1 l1 (Int32.ofNat b0))), .long ((0 : Int64) ||| (dS s2 l2 (Int32.ofNat 0)))]), aI ([.int s0, .int s1, .int s2]), aI ([.int s0, .int s1, .int xv]), aJ ([.long ww, .long ww, .long ww, .long ww, .long ww]), aJ ([.long ww, .long ww, .long ww, .long ww, .long ww]), aJ ([.long (((0 : Int64) ||| (dS s0 l0 (Int32.ofNat 0))) ||| (dS s1 l1 (Int32.ofNat b0))), .long ((0 : Int64) ||| (dS s2 l2 (Int32.ofNat 0)))] ++ List.replicate 1022 (.long 0))] 19 2121 := w
      generalize hA0 : (((0 : Int64) ||| (dS s0 l0 (Int32.ofNat 0))) ||| (dS s1 l1 (Int32.ofNat b0))) = A0 at w
      generalize hA1 : ((0 : Int64) ||| (dS s2 l2 (Int32.ofNat 0))) = A1 at w
      refine s_istore (pc' := 370) (ls' := #[vJ r0, sc, vJ r1, sc, vJ r2, sc, vJ q1, sc, vJ q2, sc, vI sel, vI l0, vI u0, vI l1, vI u1, vI l2, vI u2, vR (n0 + 0), vR (n0 + 5), vI s0, vI s1, vI s2, vI (2 : Int32), vI (Int32.ofNat st'), vI xv, vR (n0 + 14), vR (n0 + 15), vJ ww, sc, vR (n0 + 16), vR (n0 + 17), vI (0 : Int32), un]) w at_368 rfl rfl ?_
      refine s_aload (pc' := 372) w at_370 rfl rfl rfl ?_
      refine s_iload (pc' := 374) w at_372 rfl rfl ?_
      refine s_aload (pc' := 376) w at_374 rfl rfl rfl ?_
      refine s_iload (pc' := 378) w at_376 rfl rfl ?_
      change Go p e below _ T (mkF m 378 #[vJ r0, sc, vJ r1, sc, vJ r2, sc, vJ q1, sc, vJ q2, sc, vI sel, vI l0, vI u0, vI l1, vI u1, vI l2, vI u2, vR (n0 + 0), vR (n0 + 5), vI s0, vI s1, vI s2, vI (2 : Int32), vI (Int32.ofNat st'), vI xv, vR (n0 + 14), vR (n0 + 15), vJ ww, sc, vR (n0 + 16), vR (n0 + 17), vI (0 : Int32), un] [(.int (Int32.ofNat st')), (.ref (n0 + 16)), (.int (Int32.ofNat 0)), (.ref (n0 + 5))])
      refine s_virtual (pc' := 381) (rest := []) 0 [(.int (Int32.ofNat 0)), (.ref (n0 + 16)), (.int (Int32.ofNat st'))] w (c_key2 hw l h0 n0 5 18 7 8 9 10 11 12 13 1 16 0 st' _ [Value.long ww, Value.long ww, Value.long ww, Value.long ww, Value.long ww] _ rfl rfl rfl (by decide) (by omega) (by simp) (by simp; omega)) (Lk.new (k := 5) rfl) (t238 hw) (t239 hw) (w.notFace (t241 hw)) (t241 hw) (t240 hw) (t95 hw) (t242 hw) (by decide) pd24 at_378 (by decide) rfl rfl rfl rfl (Nat.le_of_eq rfl) rfl ?_
      intro T v L' hQ w
      obtain ⟨rfl, hL⟩ := hQ
      replace hL := hL.symm
      subst hL
      dsimp only [oS, oN, cA, nA]
      replace w : St p l e _ s m _ below meth c Z _ _ _ _ h0 n0 T [o0 (.int 3) (.ref (n0 + 2)) (.int 3), o1 .null (.ref ti) (.int l0) (.int u0) (.int l0) .null, aO ([.ref (n0 + 1), .ref (n0 + 3), .ref (n0 + 4), .null, .null, .null, .null, .null, .null, .null]), o1 .null (.ref ti) (.int l1) (.int u1) (.int l1) .null, o1 .null (.ref ti) (.int l2) (.int u2) (.int l2) .null, sOb n0 18 7 8 9 10 11 12 2 13 1, aJ ([]), aI ((List.replicate 1024 (Value.int (-1))).set ((hfin (hfold [A0, A1])) &&& (1023 : Int32)).toNatClampNeg (.int (entF 0 (hfin (hfold [A0, A1]))))), aI ([]), aI ([.int l0, .int l1, .int l2]), aI ([.int 0, .int 0, .int 1]), aI ([.int (Int32.ofNat 0), .int (Int32.ofNat b0), .int (Int32.ofNat 0)]), aJ ([.long (mkM b0), .long (mkM b1), .long (mkM b2)]), aJ ([.long A0, .long A1]), aI ([.int s0, .int s1, .int s2]), aI ([.int s0, .int s1, .int xv]), aJ (List.take st' [Value.long ww, Value.long ww, Value.long ww, Value.long ww, Value.long ww] ++ [Value.long A0, Value.long A1] ++ List.drop (st' + 2) [Value.long ww, Value.long ww, Value.long ww, Value.long ww, Value.long ww]), aJ ([.long ww, .long ww, .long ww, .long ww, .long ww]), aJ ([.long A0, .long A1] ++ List.replicate 1022 (.long 0))] 19 2121 := w
      refine s_aload (pc' := 383) w at_381 rfl rfl rfl ?_
      refine s_aload (pc' := 385) w at_383 rfl rfl rfl ?_
      refine s_iload (pc' := 387) w at_385 rfl rfl ?_
      refine s_iload (pc' := 389) w at_387 rfl rfl ?_
      refine s_iload (pc' := 391) w at_389 rfl rfl ?_
      refine s_virtual (pc' := 394) (rest := []) 0 [(.ref (n0 + 16)), (.int (Int32.ofNat st')), (.int (2 : Int32)), (.int xv)] w (c_set2_2 hw l h0 n0 5 18 7 8 9 10 11 12 13 1 16 st' xv l0 l1 l2 (Int32.ofNat 0) (Int32.ofNat b0) (Int32.ofNat 0) (mkM b0) (mkM b1) (mkM b2) A1 (List.take st' [Value.long ww, Value.long ww, Value.long ww, Value.long ww, Value.long ww] ++ [Value.long A0, Value.long A1] ++ List.drop (st' + 2) [Value.long ww, Value.long ww, Value.long ww, Value.long ww, Value.long ww]) _ rfl rfl rfl rfl rfl rfl (by omega) (key_at2_1 hst')) (Lk.new (k := 5) rfl) (t243 hw) (t244 hw) (w.notFace (t246 hw)) (t246 hw) (t245 hw) (t95 hw) (t247 hw) (by decide) pd25 at_391 (by decide) rfl rfl rfl rfl (Nat.le_of_eq rfl) rfl ?_
      intro T v L' hQ w
      obtain ⟨rfl, hL⟩ := hQ
      replace hL := hL.symm
      subst hL
      dsimp only [oS, oN, cA, nA]
      replace w : St p l e _ s m _ below meth c Z _ _ _ _ h0 n0 T [o0 (.int 3) (.ref (n0 + 2)) (.int 3), o1 .null (.ref ti) (.int l0) (.int u0) (.int l0) .null, aO ([.ref (n0 + 1), .ref (n0 + 3), .ref (n0 + 4), .null, .null, .null, .null, .null, .null, .null]), o1 .null (.ref ti) (.int l1) (.int u1) (.int l1) .null, o1 .null (.ref ti) (.int l2) (.int u2) (.int l2) .null, sOb n0 18 7 8 9 10 11 12 2 13 1, aJ ([]), aI ((List.replicate 1024 (Value.int (-1))).set ((hfin (hfold [A0, A1])) &&& (1023 : Int32)).toNatClampNeg (.int (entF 0 (hfin (hfold [A0, A1]))))), aI ([]), aI ([.int l0, .int l1, .int l2]), aI ([.int 0, .int 0, .int 1]), aI ([.int (Int32.ofNat 0), .int (Int32.ofNat b0), .int (Int32.ofNat 0)]), aJ ([.long (mkM b0), .long (mkM b1), .long (mkM b2)]), aJ ([.long A0, .long A1]), aI ([.int s0, .int s1, .int s2]), aI ([.int s0, .int s1, .int xv]), aJ ((List.take st' [Value.long ww, Value.long ww, Value.long ww, Value.long ww, Value.long ww] ++ [Value.long A0, Value.long A1] ++ List.drop (st' + 2) [Value.long ww, Value.long ww, Value.long ww, Value.long ww, Value.long ww]).set (st' + 1) (.long (setF A1 (mkM b2) (Int32.ofNat 0) xv l2))), aJ ([.long ww, .long ww, .long ww, .long ww, .long ww]), aJ ([.long A0, .long A1] ++ List.replicate 1022 (.long 0))] 19 2121 := w
      refine s_aload (pc' := 396) w at_394 rfl rfl rfl ?_
      refine s_aload (pc' := 398) w at_396 rfl rfl rfl ?_
      refine s_virtual (pc' := 401) (rest := []) 0 [(.ref (n0 + 15))] w (c_addTwo2 hw l h0 n0 5 18 7 8 9 10 11 12 13 (n0 + 15) s0 s1 xv l0 l1 l2 (Int32.ofNat 0) (Int32.ofNat b0) (Int32.ofNat 0) A0 A1 (hfin (hfold [A0, A1])) A0 A1 _ rfl rfl rfl rfl rfl rfl rfl (Lk.new (k := 15) rfl) (by decide) (by decide) (by decide) (by decide) (ad_ne (by decide)) (by decide) (by decide) (by decide) (by decide) (by decide)) (Lk.new (k := 5) rfl) (t186 hw) (t187 hw) (w.notFace (t189 hw)) (t189 hw) (t188 hw) (t95 hw) (t190 hw) (by decide) pd23 at_398 (by decide) rfl rfl rfl rfl (Nat.le_of_eq rfl) rfl ?_
      intro T v L' hQ w
      rcases hQ with ⟨rfl, hL, hz⟩ | ⟨rfl, tb, hL⟩
      · replace hL := hL.symm
        subst hL
        replace w : St p l e _ s m _ below meth c Z _ _ _ _ h0 n0 T [o0 (.int 3) (.ref (n0 + 2)) (.int 3), o1 .null (.ref ti) (.int l0) (.int u0) (.int l0) .null, aO ([.ref (n0 + 1), .ref (n0 + 3), .ref (n0 + 4), .null, .null, .null, .null, .null, .null, .null]), o1 .null (.ref ti) (.int l1) (.int u1) (.int l1) .null, o1 .null (.ref ti) (.int l2) (.int u2) (.int l2) .null, sOb n0 18 7 8 9 10 11 12 2 13 1, aJ ([]), aI ((List.replicate 1024 (Value.int (-1))).set ((hfin (hfold [A0, A1])) &&& (1023 : Int32)).toNatClampNeg (.int (entF 0 (hfin (hfold [A0, A1]))))), aI ([]), aI ([.int l0, .int l1, .int l2]), aI ([.int 0, .int 0, .int 1]), aI ([.int (Int32.ofNat 0), .int (Int32.ofNat b0), .int (Int32.ofNat 0)]), aJ ([.long (mkM b0), .long (mkM b1), .long (mkM b2)]), aJ ([.long (((0 : Int64) ||| (dS s0 l0 (Int32.ofNat 0))) ||| (dS s1 l1 (Int32.ofNat b0))), .long ((0 : Int64) ||| (dS xv l2 (Int32.ofNat 0)))]), aI ([.int s0, .int s1, .int s2]), aI ([.int s0, .int s1, .int xv]), aJ ((List.take st' [Value.long ww, Value.long ww, Value.long ww, Value.long ww, Value.long ww] ++ [Value.long A0, Value.long A1] ++ List.drop (st' + 2) [Value.long ww, Value.long ww, Value.long ww, Value.long ww, Value.long ww]).set (st' + 1) (.long (setF A1 (mkM b2) (Int32.ofNat 0) xv l2))), aJ ([.long ww, .long ww, .long ww, .long ww, .long ww]), aJ ([.long A0, .long A1] ++ List.replicate 1022 (.long 0))] 19 2121 := w
        change Go p e below _ T (mkF m 401 #[vJ r0, sc, vJ r1, sc, vJ r2, sc, vJ q1, sc, vJ q2, sc, vI sel, vI l0, vI u0, vI l1, vI u1, vI l2, vI u2, vR (n0 + 0), vR (n0 + 5), vI s0, vI s1, vI s2, vI (2 : Int32), vI (Int32.ofNat st'), vI xv, vR (n0 + 14), vR (n0 + 15), vJ ww, sc, vR (n0 + 16), vR (n0 + 17), vI (0 : Int32), un] [(.int (0 : Int32))])
        generalize hB0 : (((0 : Int64) ||| (dS s0 l0 (Int32.ofNat 0))) ||| (dS s1 l1 (Int32.ofNat b0))) = B0 at w hz
        generalize hB1 : ((0 : Int64) ||| (dS xv l2 (Int32.ofNat 0))) = B1 at w hz
        refine s_istore (pc' := 403) (ls' := #[vJ r0, sc, vJ r1, sc, vJ r2, sc, vJ q1, sc, vJ q2, sc, vI sel, vI l0, vI u0, vI l1, vI u1, vI l2, vI u2, vR (n0 + 0), vR (n0 + 5), vI s0, vI s1, vI s2, vI (2 : Int32), vI (Int32.ofNat st'), vI xv, vR (n0 + 14), vR (n0 + 15), vJ ww, sc, vR (n0 + 16), vR (n0 + 17), vI (0 : Int32), vI (0 : Int32)]) w at_401 rfl rfl ?_
        refine s_aload (pc' := 405) w at_403 rfl rfl rfl ?_
        refine s_iload (pc' := 407) w at_405 rfl rfl ?_
        refine s_aload (pc' := 409) w at_407 rfl rfl rfl ?_
        refine s_iload (pc' := 411) w at_409 rfl rfl ?_
        change Go p e below _ T (mkF m 411 #[vJ r0, sc, vJ r1, sc, vJ r2, sc, vJ q1, sc, vJ q2, sc, vI sel, vI l0, vI u0, vI l1, vI u1, vI l2, vI u2, vR (n0 + 0), vR (n0 + 5), vI s0, vI s1, vI s2, vI (2 : Int32), vI (Int32.ofNat st'), vI xv, vR (n0 + 14), vR (n0 + 15), vJ ww, sc, vR (n0 + 16), vR (n0 + 17), vI (0 : Int32), vI (0 : Int32)] [(.int (Int32.ofNat st')), (.ref (n0 + 17)), (.int (Int32.ofNat 0)), (.ref (n0 + 5))])
        refine s_virtual (pc' := 414) (rest := []) 0 [(.int (Int32.ofNat 0)), (.ref (n0 + 17)), (.int (Int32.ofNat st'))] w (c_key2 hw l h0 n0 5 18 7 8 9 10 11 12 13 1 17 0 st' _ [Value.long ww, Value.long ww, Value.long ww, Value.long ww, Value.long ww] _ rfl rfl rfl (by decide) (by omega) (by simp) (by simp; omega)) (Lk.new (k := 5) rfl) (t238 hw) (t239 hw) (w.notFace (t241 hw)) (t241 hw) (t240 hw) (t95 hw) (t242 hw) (by decide) pd24 at_411 (by decide) rfl rfl rfl rfl (Nat.le_of_eq rfl) rfl ?_
        intro T v L' hQ w
        obtain ⟨rfl, hL⟩ := hQ
        replace hL := hL.symm
        subst hL
        dsimp only [oS, oN, cA, nA]
        replace w : St p l e _ s m _ below meth c Z _ _ _ _ h0 n0 T [o0 (.int 3) (.ref (n0 + 2)) (.int 3), o1 .null (.ref ti) (.int l0) (.int u0) (.int l0) .null, aO ([.ref (n0 + 1), .ref (n0 + 3), .ref (n0 + 4), .null, .null, .null, .null, .null, .null, .null]), o1 .null (.ref ti) (.int l1) (.int u1) (.int l1) .null, o1 .null (.ref ti) (.int l2) (.int u2) (.int l2) .null, sOb n0 18 7 8 9 10 11 12 2 13 1, aJ ([]), aI ((List.replicate 1024 (Value.int (-1))).set ((hfin (hfold [A0, A1])) &&& (1023 : Int32)).toNatClampNeg (.int (entF 0 (hfin (hfold [A0, A1]))))), aI ([]), aI ([.int l0, .int l1, .int l2]), aI ([.int 0, .int 0, .int 1]), aI ([.int (Int32.ofNat 0), .int (Int32.ofNat b0), .int (Int32.ofNat 0)]), aJ ([.long (mkM b0), .long (mkM b1), .long (mkM b2)]), aJ ([.long B0, .long B1]), aI ([.int s0, .int s1, .int s2]), aI ([.int s0, .int s1, .int xv]), aJ ((List.take st' [Value.long ww, Value.long ww, Value.long ww, Value.long ww, Value.long ww] ++ [Value.long A0, Value.long A1] ++ List.drop (st' + 2) [Value.long ww, Value.long ww, Value.long ww, Value.long ww, Value.long ww]).set (st' + 1) (.long (setF A1 (mkM b2) (Int32.ofNat 0) xv l2))), aJ (List.take st' [Value.long ww, Value.long ww, Value.long ww, Value.long ww, Value.long ww] ++ [Value.long A0, Value.long A1] ++ List.drop (st' + 2) [Value.long ww, Value.long ww, Value.long ww, Value.long ww, Value.long ww]), aJ ([.long A0, .long A1] ++ List.replicate 1022 (.long 0))] 19 2121 := w
        refine s_aload (pc' := 416) w at_414 rfl rfl rfl ?_
        refine s_iconst (pc' := 417) (0 : Int32) w at_416 (by decide) rfl ?_
        have hzz := hz
        have hset := set2_2 hb0 hb1 hb2 hsum los0 his0 hx0 los1 his1 hx1 los2 his2 hx2 loxv hixv
        rw [hA1, hB1] at hset
        have hoth : A0 = B0 := by rw [← hA0, ← hB0]
        have hEK : (List.take st' [Value.long ww, Value.long ww, Value.long ww, Value.long ww, Value.long ww] ++ [Value.long A0, Value.long A1] ++ List.drop (st' + 2) [Value.long ww, Value.long ww, Value.long ww, Value.long ww, Value.long ww]).set (st' + 1) (.long (setF A1 (mkM b2) (Int32.ofNat 0) xv l2)) = List.take st' [Value.long ww, Value.long ww, Value.long ww, Value.long ww, Value.long ww] ++ [Value.long B0, Value.long B1] ++ List.drop (st' + 2) [Value.long ww, Value.long ww, Value.long ww, Value.long ww, Value.long ww] := by rw [hset, hoth]; exact list_set2_1 hst'
        rw [hEK] at w
        rw [show (List.take st' [Value.long ww, Value.long ww, Value.long ww, Value.long ww, Value.long ww] ++ [Value.long A0, Value.long A1] ++ List.drop (st' + 2) [Value.long ww, Value.long ww, Value.long ww, Value.long ww, Value.long ww]) = List.take st' [Value.long ww, Value.long ww, Value.long ww, Value.long ww, Value.long ww] ++ [Value.long B0, Value.long B1] ++ List.drop (st' + 2) [Value.long ww, Value.long ww, Value.long ww, Value.long ww, Value.long ww] by rw [hz.1, hz.2]] at w
        obtain ⟨z0, z1, z2, z3, z4, hz5⟩ := list_five2 (a := ww) (B0 := B0) (B1 := B1) hst'
        rw [hz5] at w
        refine s_laload (pc' := 418) (v := (.long z0)) w (Lk.new (k := 16) rfl) at_417 (by decide) rfl rfl ?_
        refine s_aload (pc' := 420) w at_418 rfl rfl rfl ?_
        refine s_iconst (pc' := 421) (0 : Int32) w at_420 (by decide) rfl ?_
        refine s_laload (pc' := 422) (v := (.long z0)) w (Lk.new (k := 17) rfl) at_421 (by decide) rfl rfl ?_
        refine s_lcmp (pc' := 423) w at_422 rfl ?_
        refine s_ifN (pc' := 426) w at_423 (Jvm.Free.XT.ll_ne_f rfl) rfl ?_
        refine s_aload (pc' := 428) w at_426 rfl rfl rfl ?_
        refine s_iconst (pc' := 429) (1 : Int32) w at_428 (by decide) rfl ?_
        refine s_laload (pc' := 430) (v := (.long z1)) w (Lk.new (k := 16) rfl) at_429 (by decide) rfl rfl ?_
        refine s_aload (pc' := 432) w at_430 rfl rfl rfl ?_
        refine s_iconst (pc' := 433) (1 : Int32) w at_432 (by decide) rfl ?_
        refine s_laload (pc' := 434) (v := (.long z1)) w (Lk.new (k := 17) rfl) at_433 (by decide) rfl rfl ?_
        refine s_lcmp (pc' := 435) w at_434 rfl ?_
        refine s_ifN (pc' := 438) w at_435 (Jvm.Free.XT.ll_ne_f rfl) rfl ?_
        refine s_aload (pc' := 440) w at_438 rfl rfl rfl ?_
        refine s_iconst (pc' := 441) (2 : Int32) w at_440 (by decide) rfl ?_
        refine s_laload (pc' := 442) (v := (.long z2)) w (Lk.new (k := 16) rfl) at_441 (by decide) rfl rfl ?_
        refine s_aload (pc' := 444) w at_442 rfl rfl rfl ?_
        refine s_iconst (pc' := 445) (2 : Int32) w at_444 (by decide) rfl ?_
        refine s_laload (pc' := 446) (v := (.long z2)) w (Lk.new (k := 17) rfl) at_445 (by decide) rfl rfl ?_
        refine s_lcmp (pc' := 447) w at_446 rfl ?_
        refine s_ifN (pc' := 450) w at_447 (Jvm.Free.XT.ll_ne_f rfl) rfl ?_
        refine s_aload (pc' := 452) w at_450 rfl rfl rfl ?_
        refine s_iconst (pc' := 453) (3 : Int32) w at_452 (by decide) rfl ?_
        refine s_laload (pc' := 454) (v := (.long z3)) w (Lk.new (k := 16) rfl) at_453 (by decide) rfl rfl ?_
        refine s_aload (pc' := 456) w at_454 rfl rfl rfl ?_
        refine s_iconst (pc' := 457) (3 : Int32) w at_456 (by decide) rfl ?_
        refine s_laload (pc' := 458) (v := (.long z3)) w (Lk.new (k := 17) rfl) at_457 (by decide) rfl rfl ?_
        refine s_lcmp (pc' := 459) w at_458 rfl ?_
        refine s_ifN (pc' := 462) w at_459 (Jvm.Free.XT.ll_ne_f rfl) rfl ?_
        refine s_aload (pc' := 464) w at_462 rfl rfl rfl ?_
        refine s_iconst (pc' := 465) (4 : Int32) w at_464 (by decide) rfl ?_
        refine s_laload (pc' := 466) (v := (.long z4)) w (Lk.new (k := 16) rfl) at_465 (by decide) rfl rfl ?_
        refine s_aload (pc' := 468) w at_466 rfl rfl rfl ?_
        refine s_iconst (pc' := 469) (4 : Int32) w at_468 (by decide) rfl ?_
        refine s_laload (pc' := 470) (v := (.long z4)) w (Lk.new (k := 17) rfl) at_469 (by decide) rfl rfl ?_
        refine s_lcmp (pc' := 471) w at_470 rfl ?_
        refine s_ifN (pc' := 474) w at_471 (Jvm.Free.XT.ll_ne_f rfl) rfl ?_
        refine s_iconst (pc' := 475) (1 : Int32) w at_474 (by decide) rfl ?_
        refine s_goto (pc' := 479) w at_475 (by decide) (by decide) ?_
        exact s_zreturn rfl w at_479 (by decide) (by decide) rfl
      · replace hL := hL.symm
        subst hL
        replace w : St p l e _ s m _ below meth c Z _ _ _ _ h0 n0 T [o0 (.int 3) (.ref (n0 + 2)) (.int 3), o1 .null (.ref ti) (.int l0) (.int u0) (.int l0) .null, aO ([.ref (n0 + 1), .ref (n0 + 3), .ref (n0 + 4), .null, .null, .null, .null, .null, .null, .null]), o1 .null (.ref ti) (.int l1) (.int u1) (.int l1) .null, o1 .null (.ref ti) (.int l2) (.int u2) (.int l2) .null, sOb n0 18 7 8 9 10 11 12 2 13 2, aJ ([]), aI (tb), aI ([]), aI ([.int l0, .int l1, .int l2]), aI ([.int 0, .int 0, .int 1]), aI ([.int (Int32.ofNat 0), .int (Int32.ofNat b0), .int (Int32.ofNat 0)]), aJ ([.long (mkM b0), .long (mkM b1), .long (mkM b2)]), aJ ([.long (((0 : Int64) ||| (dS s0 l0 (Int32.ofNat 0))) ||| (dS s1 l1 (Int32.ofNat b0))), .long ((0 : Int64) ||| (dS xv l2 (Int32.ofNat 0)))]), aI ([.int s0, .int s1, .int s2]), aI ([.int s0, .int s1, .int xv]), aJ ((List.take st' [Value.long ww, Value.long ww, Value.long ww, Value.long ww, Value.long ww] ++ [Value.long A0, Value.long A1] ++ List.drop (st' + 2) [Value.long ww, Value.long ww, Value.long ww, Value.long ww, Value.long ww]).set (st' + 1) (.long (setF A1 (mkM b2) (Int32.ofNat 0) xv l2))), aJ ([.long ww, .long ww, .long ww, .long ww, .long ww]), aJ ([.long A0, .long A1, .long (((0 : Int64) ||| (dS s0 l0 (Int32.ofNat 0))) ||| (dS s1 l1 (Int32.ofNat b0))), .long ((0 : Int64) ||| (dS xv l2 (Int32.ofNat 0)))] ++ List.replicate 1020 (.long 0))] 19 2121 := w
        change Go p e below _ T (mkF m 401 #[vJ r0, sc, vJ r1, sc, vJ r2, sc, vJ q1, sc, vJ q2, sc, vI sel, vI l0, vI u0, vI l1, vI u1, vI l2, vI u2, vR (n0 + 0), vR (n0 + 5), vI s0, vI s1, vI s2, vI (2 : Int32), vI (Int32.ofNat st'), vI xv, vR (n0 + 14), vR (n0 + 15), vJ ww, sc, vR (n0 + 16), vR (n0 + 17), vI (0 : Int32), un] [(.int (1 : Int32))])
        generalize hB0 : (((0 : Int64) ||| (dS s0 l0 (Int32.ofNat 0))) ||| (dS s1 l1 (Int32.ofNat b0))) = B0 at w
        generalize hB1 : ((0 : Int64) ||| (dS xv l2 (Int32.ofNat 0))) = B1 at w
        refine s_istore (pc' := 403) (ls' := #[vJ r0, sc, vJ r1, sc, vJ r2, sc, vJ q1, sc, vJ q2, sc, vI sel, vI l0, vI u0, vI l1, vI u1, vI l2, vI u2, vR (n0 + 0), vR (n0 + 5), vI s0, vI s1, vI s2, vI (2 : Int32), vI (Int32.ofNat st'), vI xv, vR (n0 + 14), vR (n0 + 15), vJ ww, sc, vR (n0 + 16), vR (n0 + 17), vI (0 : Int32), vI (1 : Int32)]) w at_401 rfl rfl ?_
        refine s_aload (pc' := 405) w at_403 rfl rfl rfl ?_
        refine s_iload (pc' := 407) w at_405 rfl rfl ?_
        refine s_aload (pc' := 409) w at_407 rfl rfl rfl ?_
        refine s_iload (pc' := 411) w at_409 rfl rfl ?_
        change Go p e below _ T (mkF m 411 #[vJ r0, sc, vJ r1, sc, vJ r2, sc, vJ q1, sc, vJ q2, sc, vI sel, vI l0, vI u0, vI l1, vI u1, vI l2, vI u2, vR (n0 + 0), vR (n0 + 5), vI s0, vI s1, vI s2, vI (2 : Int32), vI (Int32.ofNat st'), vI xv, vR (n0 + 14), vR (n0 + 15), vJ ww, sc, vR (n0 + 16), vR (n0 + 17), vI (0 : Int32), vI (1 : Int32)] [(.int (Int32.ofNat st')), (.ref (n0 + 17)), (.int (Int32.ofNat 1)), (.ref (n0 + 5))])
        refine s_virtual (pc' := 414) (rest := []) 0 [(.int (Int32.ofNat 1)), (.ref (n0 + 17)), (.int (Int32.ofNat st'))] w (c_key2 hw l h0 n0 5 18 7 8 9 10 11 12 13 2 17 1 st' _ [Value.long ww, Value.long ww, Value.long ww, Value.long ww, Value.long ww] _ rfl rfl rfl (by decide) (by omega) (by simp) (by simp; omega)) (Lk.new (k := 5) rfl) (t238 hw) (t239 hw) (w.notFace (t241 hw)) (t241 hw) (t240 hw) (t95 hw) (t242 hw) (by decide) pd24 at_411 (by decide) rfl rfl rfl rfl (Nat.le_of_eq rfl) rfl ?_
        intro T v L' hQ w
        obtain ⟨rfl, hL⟩ := hQ
        replace hL := hL.symm
        subst hL
        dsimp only [oS, oN, cA, nA]
        replace w : St p l e _ s m _ below meth c Z _ _ _ _ h0 n0 T [o0 (.int 3) (.ref (n0 + 2)) (.int 3), o1 .null (.ref ti) (.int l0) (.int u0) (.int l0) .null, aO ([.ref (n0 + 1), .ref (n0 + 3), .ref (n0 + 4), .null, .null, .null, .null, .null, .null, .null]), o1 .null (.ref ti) (.int l1) (.int u1) (.int l1) .null, o1 .null (.ref ti) (.int l2) (.int u2) (.int l2) .null, sOb n0 18 7 8 9 10 11 12 2 13 2, aJ ([]), aI (tb), aI ([]), aI ([.int l0, .int l1, .int l2]), aI ([.int 0, .int 0, .int 1]), aI ([.int (Int32.ofNat 0), .int (Int32.ofNat b0), .int (Int32.ofNat 0)]), aJ ([.long (mkM b0), .long (mkM b1), .long (mkM b2)]), aJ ([.long B0, .long B1]), aI ([.int s0, .int s1, .int s2]), aI ([.int s0, .int s1, .int xv]), aJ ((List.take st' [Value.long ww, Value.long ww, Value.long ww, Value.long ww, Value.long ww] ++ [Value.long A0, Value.long A1] ++ List.drop (st' + 2) [Value.long ww, Value.long ww, Value.long ww, Value.long ww, Value.long ww]).set (st' + 1) (.long (setF A1 (mkM b2) (Int32.ofNat 0) xv l2))), aJ (List.take st' [Value.long ww, Value.long ww, Value.long ww, Value.long ww, Value.long ww] ++ [Value.long B0, Value.long B1] ++ List.drop (st' + 2) [Value.long ww, Value.long ww, Value.long ww, Value.long ww, Value.long ww]), aJ ([.long A0, .long A1, .long B0, .long B1] ++ List.replicate 1020 (.long 0))] 19 2121 := w
        refine s_aload (pc' := 416) w at_414 rfl rfl rfl ?_
        refine s_iconst (pc' := 417) (0 : Int32) w at_416 (by decide) rfl ?_
        have hset := set2_2 hb0 hb1 hb2 hsum los0 his0 hx0 los1 his1 hx1 los2 his2 hx2 loxv hixv
        rw [hA1, hB1] at hset
        have hoth : A0 = B0 := by rw [← hA0, ← hB0]
        have hEK : (List.take st' [Value.long ww, Value.long ww, Value.long ww, Value.long ww, Value.long ww] ++ [Value.long A0, Value.long A1] ++ List.drop (st' + 2) [Value.long ww, Value.long ww, Value.long ww, Value.long ww, Value.long ww]).set (st' + 1) (.long (setF A1 (mkM b2) (Int32.ofNat 0) xv l2)) = List.take st' [Value.long ww, Value.long ww, Value.long ww, Value.long ww, Value.long ww] ++ [Value.long B0, Value.long B1] ++ List.drop (st' + 2) [Value.long ww, Value.long ww, Value.long ww, Value.long ww, Value.long ww] := by rw [hset, hoth]; exact list_set2_1 hst'
        rw [hEK] at w
        obtain ⟨z0, z1, z2, z3, z4, hz5⟩ := list_five2 (a := ww) (B0 := B0) (B1 := B1) hst'
        rw [hz5] at w
        refine s_laload (pc' := 418) (v := (.long z0)) w (Lk.new (k := 16) rfl) at_417 (by decide) rfl rfl ?_
        refine s_aload (pc' := 420) w at_418 rfl rfl rfl ?_
        refine s_iconst (pc' := 421) (0 : Int32) w at_420 (by decide) rfl ?_
        refine s_laload (pc' := 422) (v := (.long z0)) w (Lk.new (k := 17) rfl) at_421 (by decide) rfl rfl ?_
        refine s_lcmp (pc' := 423) w at_422 rfl ?_
        refine s_ifN (pc' := 426) w at_423 (Jvm.Free.XT.ll_ne_f rfl) rfl ?_
        refine s_aload (pc' := 428) w at_426 rfl rfl rfl ?_
        refine s_iconst (pc' := 429) (1 : Int32) w at_428 (by decide) rfl ?_
        refine s_laload (pc' := 430) (v := (.long z1)) w (Lk.new (k := 16) rfl) at_429 (by decide) rfl rfl ?_
        refine s_aload (pc' := 432) w at_430 rfl rfl rfl ?_
        refine s_iconst (pc' := 433) (1 : Int32) w at_432 (by decide) rfl ?_
        refine s_laload (pc' := 434) (v := (.long z1)) w (Lk.new (k := 17) rfl) at_433 (by decide) rfl rfl ?_
        refine s_lcmp (pc' := 435) w at_434 rfl ?_
        refine s_ifN (pc' := 438) w at_435 (Jvm.Free.XT.ll_ne_f rfl) rfl ?_
        refine s_aload (pc' := 440) w at_438 rfl rfl rfl ?_
        refine s_iconst (pc' := 441) (2 : Int32) w at_440 (by decide) rfl ?_
        refine s_laload (pc' := 442) (v := (.long z2)) w (Lk.new (k := 16) rfl) at_441 (by decide) rfl rfl ?_
        refine s_aload (pc' := 444) w at_442 rfl rfl rfl ?_
        refine s_iconst (pc' := 445) (2 : Int32) w at_444 (by decide) rfl ?_
        refine s_laload (pc' := 446) (v := (.long z2)) w (Lk.new (k := 17) rfl) at_445 (by decide) rfl rfl ?_
        refine s_lcmp (pc' := 447) w at_446 rfl ?_
        refine s_ifN (pc' := 450) w at_447 (Jvm.Free.XT.ll_ne_f rfl) rfl ?_
        refine s_aload (pc' := 452) w at_450 rfl rfl rfl ?_
        refine s_iconst (pc' := 453) (3 : Int32) w at_452 (by decide) rfl ?_
        refine s_laload (pc' := 454) (v := (.long z3)) w (Lk.new (k := 16) rfl) at_453 (by decide) rfl rfl ?_
        refine s_aload (pc' := 456) w at_454 rfl rfl rfl ?_
        refine s_iconst (pc' := 457) (3 : Int32) w at_456 (by decide) rfl ?_
        refine s_laload (pc' := 458) (v := (.long z3)) w (Lk.new (k := 17) rfl) at_457 (by decide) rfl rfl ?_
        refine s_lcmp (pc' := 459) w at_458 rfl ?_
        refine s_ifN (pc' := 462) w at_459 (Jvm.Free.XT.ll_ne_f rfl) rfl ?_
        refine s_aload (pc' := 464) w at_462 rfl rfl rfl ?_
        refine s_iconst (pc' := 465) (4 : Int32) w at_464 (by decide) rfl ?_
        refine s_laload (pc' := 466) (v := (.long z4)) w (Lk.new (k := 16) rfl) at_465 (by decide) rfl rfl ?_
        refine s_aload (pc' := 468) w at_466 rfl rfl rfl ?_
        refine s_iconst (pc' := 469) (4 : Int32) w at_468 (by decide) rfl ?_
        refine s_laload (pc' := 470) (v := (.long z4)) w (Lk.new (k := 17) rfl) at_469 (by decide) rfl rfl ?_
        refine s_lcmp (pc' := 471) w at_470 rfl ?_
        refine s_ifN (pc' := 474) w at_471 (Jvm.Free.XT.ll_ne_f rfl) rfl ?_
        refine s_iconst (pc' := 475) (1 : Int32) w at_474 (by decide) rfl ?_
        refine s_goto (pc' := 479) w at_475 (by decide) (by decide) ?_
        exact s_zreturn rfl w at_479 (by decide) (by decide) rfl
set_option maxRecDepth 65536 in
set_option maxHeartbeats 40000000 in
theorem comes_1 {Post : Tables → Env → Array Value → State → Outcome → State → Prop} (hpost : ∀ tb e args s v u, (limb_1_1.after args s (.returned v) u = true ∧ limb_1_2.after args s (.returned v) u = true ∧ True) → FrameEnd s (.returned v) u (Jvm.fieldLocs frame_1_writes args s ++ Jvm.arrayLocs frame_1_arrays args s ++ Jvm.staticLocs frame_1_statics s) 48 4352 → Post tb e args s (.returned v) u) :
    ArmFor flags0 classFile x code maxLocals ret World_1 tables_1 room_1 Calls_1 rest_1 Pre_1 Post := by
  intro l hfl _ _ p e ha hc hk s m args below hf hA hF happ hP
  obtain ⟨hcalls, hrest, hpre⟩ := hP
  obtain ⟨-, -, -, hnamed, -, -, -, hat⟩ := (Spec.applies_iff hf).mp happ
  obtain ⟨hg, hn⟩ := and_e (Cond.before_iff.mp (show (Jvm.Cond.and given_1 narrow_1).before args s = true from hpre))
  obtain ⟨hct, hg⟩ := and_e hg
  obtain ⟨hv0, hg⟩ := and_e hg
  obtain ⟨hv1, hg⟩ := and_e hg
  obtain ⟨hv2, hg⟩ := and_e hg
  obtain ⟨hv3, hg⟩ := and_e hg
  obtain ⟨hv4, hg⟩ := and_e hg
  have hv5 := hg
  obtain ⟨w0, w1, w2, w3, w4, w5, rfl⟩ : ∃ w0 w1 w2 w3 w4 w5 : Value, args = #[w0, w1, w2, w3, w4, w5] := by
    have hs : args.size = 6 := by simpa [Cond.value, given_1] using hct
    obtain ⟨L⟩ := args
    match L, hs with
    | [w0, w1, w2, w3, w4, w5], _ => exact ⟨w0, w1, w2, w3, w4, w5, rfl⟩
  have hw : Tw s _ := fun d (hd : d ∈ tables_1) => atoms_spec (ws := Jvm.Cond.code x code maxLocals ret :: tables_1) hat d (List.mem_cons_of_mem _ hd)
  have hfit : Fit s := fun {y c} hc i hi => by
    obtain ⟨ha, rfl⟩ := Array.getElem?_eq_some_iff.mp hc
    have q := List.all_eq_true.mp ((Array.all_eq_true_iff_forall_mem.mp hF) _ (Array.getElem_mem ha)) i (List.mem_range.mpr hi)
    simpa [Array.getElem?_eq_getElem hi] using q
  obtain ⟨hsets, hown0⟩ := atoms_of _ (rest_1_c_eq ▸ (show rest_1_c.before _ s = true from hrest))
  obtain ⟨i0, ei0⟩ := isL_v hv0
  obtain rfl : w0 = (.long i0) := Option.some.inj ei0
  obtain ⟨i1, ei1⟩ := isL_v hv1
  obtain rfl : w1 = (.long i1) := Option.some.inj ei1
  obtain ⟨i2, ei2⟩ := isL_v hv2
  obtain rfl : w2 = (.long i2) := Option.some.inj ei2
  obtain ⟨i3, ei3⟩ := isL_v hv3
  obtain rfl : w3 = (.long i3) := Option.some.inj ei3
  obtain ⟨i4, ei4⟩ := isL_v hv4
  obtain rfl : w4 = (.long i4) := Option.some.inj ei4
  obtain ⟨i5, ei5⟩ := is_v hv5
  obtain rfl : w5 = (.int i5) := Option.some.inj ei5
  have hs2 := hsets _ (List.mem_of_getElem? (i := 2) rfl)
  have hs6 := Cond.before_iff.mp (hsets _ (List.mem_of_getElem? (i := 6) rfl))
  have hs8 := Cond.before_iff.mp (hsets _ (List.mem_of_getElem? (i := 8) rfl))
  obtain ⟨de, ede⟩ := arr_v hs6
  have SD : Sta s s.heap "java/util/ArrayList" "DEFAULTCAPACITY_EMPTY_ELEMENTDATA" "[Ljava/lang/Object;" (.ref de) := Sta.start ede (Or.inr ⟨hw _ (List.mem_of_getElem? (i := 11) rfl), hs2⟩)
  obtain ⟨dcl, AD⟩ := Arr.start ede hs6
  have hdcl := own_len0 ede (AD.fin (Vm.Alike.refl _)) hs8
  obtain ⟨ti, eti⟩ := exa_v hn
  have SI : Sta s s.heap "com/example/ryazan/ryazan/lang/Type" "INT" "Lcom/example/ryazan/ryazan/lang/Type;" (.ref ti) := Sta.start eti (Or.inr ⟨hw _ (List.mem_of_getElem? (i := 39) rfl), hw _ (List.mem_of_getElem? (i := 40) rfl)⟩)
  obtain ⟨n, o, h1, h2, h3, _, L, rfl, ⟨Ls', rfl, N, -⟩, hq⟩ := c_law hw l s.heap s.heap.size i0 i1 i2 i3 i4 i5 de dcl ti SD AD hdcl SI s.heap (Hp.start s s) p e ha hc hk s m _ below hf ((Spec.applies_iff_loose hf).mp happ).1 ⟨rfl, State.Warmed39.refl s, rfl⟩ trivial
  refine ⟨n, _, h1, h2, h3, hpost _ _ _ _ _ _ ⟨Cond.after_iff.mpr rfl, Cond.after_iff.mpr (eq_i res_at (Term.int_eval (1)) rfl), trivial⟩ ⟨hq.1, hq.2.1, (hq.2.2.sift fun y hy => Or.inr (N y hy)).mono (by decide) (by decide)⟩⟩
theorem main_1_1 : Claimed_1_1 := comes_1 fun _ _ _ _ _ _ h hF => ⟨h.1, hF⟩
theorem main_1_2 : Claimed_1_2 := comes_1 fun _ _ _ _ _ _ h hF => ⟨h.2.1, hF⟩
end Jvm.Pilot.@@N@@
namespace Jvm.Pilot.@@N@@
open Jvm Jvm.ClassFile Sem Op Lib Jvm.Free Jvm.Stand Jvm.Pilot.@@N@@.Jvm.D
/-! MADE BY PROGRAM (witnessworld.py) out of the Statement's table words and the real class files: 35 classes; the members and pool entries that the words name. The judged class is class 1, her method 4. -/
namespace start1
open Jvm.ClassFile
def u (s : String) : CpInfo := .utf8 (stringToUtf16 s)
/-- a pool by its gaps: so many unusable entries, then the entry; so many at the end -/
def gap : Nat → List CpInfo → List CpInfo
  | 0, r => r
  | n + 1, r => .unusable :: gap n r
def poolList (es : List (Nat × CpInfo)) (last : Nat) : List CpInfo := es.foldr (fun e r => gap e.1 (e.2 :: r)) (gap last [])
def pool (es : List (Nat × CpInfo)) (last : Nat) : Array CpInfo := ⟨poolList es last⟩
def fileOf (pool : Array CpInfo) (this : Nat) (attrs : Array Attribute := #[]) (ms : Array MethodInfo := #[]) (fl : Nat := 33) (sup : Nat := 0) (ifs : Array Nat := #[]) (fds : Array FieldInfo := #[]) : ClassFile where
  minorVersion := 0
  majorVersion := 65
  constantPool := pool
  accessFlags := fl
  thisClass := this
  superClass := sup
  interfaces := ifs
  fields := fds
  methods := ms
  attributes := attrs
def plain (name : String) (sup : Option ClassId) : Class where
  name := name
  kind := .ordinary
  loader := none
  accessFlags := 33
  super := sup
  interfaces := #[]
  cf := none
  fields := #[]
  methods := #[]
  instanceTypes := #[]
  staticTypes := #[]
  resolved := #[]
  callSites := []
  init := .initialized
  statics := none
  mirror := none

def pool0 : Array CpInfo := pool [(5, u "<init>"), (0, u "()V"), (1, .class_ 10), (1, u "java/lang/Object")] 113

def k0c0 : Code := { maxStack := 0, maxLocals := 1, code := object_method_1_code, exceptionTable := #[], attributes := #[] }
def k0m0 : Method := { name := "<init>", desc := "()V", sig := { parameters := [], returnType := none }, accessFlags := 1, code := some k0c0 }
/-- java/lang/Object -/
def k0 : Class := { plain "java/lang/Object" none with
  accessFlags := 33
  interfaces := #[]
  cf := some (fileOf pool0 8 #[] #[{ accessFlags := 1, nameIndex := 5, descriptorIndex := 6, attributes := #[] }] 33 0 #[] #[])
  fields := #[]
  methods := #[k0m0]
  instanceTypes := #[]
  staticTypes := #[]
  resolved := Array.replicate 124 none
  statics := none }

def pool1 : Array CpInfo := pool [(2, .class_ 4), (0, .nameAndType 5 6), (0, u "java/lang/Object"), (0, u "<init>"), (0, u "()V"), (2, .long 2147483647), (1, .long 4294967295), (1, .methodref 14 15), (0, .class_ 16), (0, .nameAndType 17 18), (0, u "com/example/ryazan/ryazan/statespace/StateStoreSetPinLaw"), (0, u "low"), (0, u "(J)I"), (0, .methodref 14 20), (0, .nameAndType 21 18), (0, u "high"), (0, .class_ 23), (0, u "java/util/ArrayList"), (0, .methodref 22 3), (0, .class_ 26), (0, u "com/example/ryazan/ryazan/model/Model$Variable"), (0, .fieldref 28 29), (0, .class_ 30), (0, .nameAndType 31 32), (0, u "com/example/ryazan/ryazan/lang/Type"), (0, u "INT"), (0, u "Lcom/example/ryazan/ryazan/lang/Type;"), (0, .methodref 25 34), (0, .nameAndType 5 35), (0, u "(Ljava/lang/String;Lcom/example/ryazan/ryazan/lang/Type;IIILcom/example/ryazan/ryazan/lang/SourcePosition;)V"), (0, .methodref 22 37), (0, .nameAndType 38 39), (0, u "add"), (0, u "(Ljava/lang/Object;)Z"), (0, .class_ 41), (0, u "com/example/ryazan/ryazan/statespace/StateStore"), (0, .methodref 40 43), (0, .nameAndType 5 44), (0, u "(Ljava/util/List;)V"), (0, .methodref 14 46), (0, .nameAndType 47 48), (0, u "within"), (0, u "(IIJ)I"), (0, .methodref 40 50), (0, .nameAndType 38 51), (0, u "([I)I"), (0, .methodref 40 53), (0, .nameAndType 54 55), (0, u "key"), (0, u "(I[JI)V"), (0, .methodref 40 57), (0, .nameAndType 58 59), (0, u "set"), (0, u "([JIII)V"), (2, u "law"), (0, u "(JJJJJI)Z")] 11

def k1m0 : Method := { name := "<init>", desc := "()V", sig := { parameters := [], returnType := none }, accessFlags := 2, code := none }
def k1c1 : Code := { maxStack := 3, maxLocals := 2, code := method_2_code, exceptionTable := #[], attributes := #[] }
def k1m1 : Method := { name := "low", desc := "(J)I", sig := { parameters := [.long], returnType := some .int }, accessFlags := 10, code := some k1c1 }
def k1c2 : Code := { maxStack := 6, maxLocals := 8, code := method_3_code, exceptionTable := #[], attributes := #[] }
def k1m2 : Method := { name := "high", desc := "(J)I", sig := { parameters := [.long], returnType := some .int }, accessFlags := 10, code := some k1c2 }
def k1c3 : Code := { maxStack := 8, maxLocals := 6, code := method_4_code, exceptionTable := #[], attributes := #[] }
def k1m3 : Method := { name := "within", desc := "(IIJ)I", sig := { parameters := [.int, .int, .long], returnType := some .int }, accessFlags := 10, code := some k1c3 }
def k1c4 : Code := { maxStack := 9, maxLocals := 33, code := code, exceptionTable := #[], attributes := #[] }
def k1m4 : Method := { name := "law", desc := "(JJJJJI)Z", sig := { parameters := [.long, .long, .long, .long, .long, .int], returnType := some .boolean }, accessFlags := 9, code := some k1c4 }
/-- com/example/ryazan/ryazan/statespace/StateStoreSetPinLaw -/
def k1 : Class := { plain "com/example/ryazan/ryazan/statespace/StateStoreSetPinLaw" (some 0) with
  accessFlags := 49
  interfaces := #[]
  cf := some (fileOf pool1 14 #[] #[{ accessFlags := 2, nameIndex := 5, descriptorIndex := 6, attributes := #[] }, { accessFlags := 10, nameIndex := 17, descriptorIndex := 18, attributes := #[] }, { accessFlags := 10, nameIndex := 21, descriptorIndex := 18, attributes := #[] }, { accessFlags := 10, nameIndex := 47, descriptorIndex := 48, attributes := #[] }, { accessFlags := 9, nameIndex := 62, descriptorIndex := 63, attributes := #[] }] 49 2 #[] #[])
  fields := #[]
  methods := #[k1m0, k1m1, k1m2, k1m3, k1m4]
  instanceTypes := #[]
  staticTypes := #[]
  resolved := Array.replicate 75 none
  statics := none }

def pool2 : Array CpInfo := pool [(8, .class_ 10), (1, u "java/lang/Iterable"), (24, .class_ 36), (0, u "java/lang/Object")] 25

/-- java/lang/Iterable -/
def k2 : Class := { plain "java/lang/Iterable" (some 0) with
  accessFlags := 1537
  interfaces := #[]
  cf := some (fileOf pool2 8 #[] #[] 1537 35 #[] #[])
  fields := #[]
  methods := #[]
  instanceTypes := #[]
  staticTypes := #[]
  resolved := Array.replicate 62 none
  statics := none }

def pool3 : Array CpInfo := pool [(10, .class_ 12), (1, u "java/util/Collection"), (47, .class_ 61), (0, u "java/lang/Object"), (0, .class_ 63), (0, u "java/lang/Iterable")] 51

/-- java/util/Collection -/
def k3 : Class := { plain "java/util/Collection" (some 0) with
  accessFlags := 1537
  interfaces := #[2]
  cf := some (fileOf pool3 10 #[] #[] 1537 60 #[62] #[])
  fields := #[]
  methods := #[]
  instanceTypes := #[]
  staticTypes := #[]
  resolved := Array.replicate 115 none
  statics := none }

def pool4 : Array CpInfo := pool [(1, .methodref 2 3), (0, .class_ 4), (0, .nameAndType 5 6), (0, u "java/lang/Object"), (0, u "<init>"), (0, u "()V"), (1, .class_ 10), (1, u "java/util/AbstractCollection"), (66, .class_ 78), (0, u "java/util/Collection")] 81

def k4c0 : Code := { maxStack := 1, maxLocals := 1, code := jdk_22_method_1_code, exceptionTable := #[], attributes := #[] }
def k4m0 : Method := { name := "<init>", desc := "()V", sig := { parameters := [], returnType := none }, accessFlags := 4, code := some k4c0 }
/-- java/util/AbstractCollection -/
def k4 : Class := { plain "java/util/AbstractCollection" (some 0) with
  accessFlags := 1057
  interfaces := #[3]
  cf := some (fileOf pool4 8 #[] #[{ accessFlags := 4, nameIndex := 5, descriptorIndex := 6, attributes := #[] }] 1057 2 #[77] #[])
  fields := #[]
  methods := #[k4m0]
  instanceTypes := #[]
  staticTypes := #[]
  resolved := Array.replicate 160 none
  statics := none }

def pool5 : Array CpInfo := pool [(8, .class_ 10), (1, u "java/util/SequencedCollection"), (15, .class_ 27), (0, u "java/lang/Object"), (0, .class_ 29), (0, u "java/util/Collection")] 27

/-- java/util/SequencedCollection -/
def k5 : Class := { plain "java/util/SequencedCollection" (some 0) with
  accessFlags := 1537
  interfaces := #[3]
  cf := some (fileOf pool5 8 #[] #[] 1537 26 #[28] #[])
  fields := #[]
  methods := #[]
  instanceTypes := #[]
  staticTypes := #[]
  resolved := Array.replicate 57 none
  statics := none }

def pool6 : Array CpInfo := pool [(8, .class_ 10), (1, u "java/util/List"), (64, u "get"), (0, u "(I)Ljava/lang/Object;"), (2, u "size"), (0, u "()I"), (22, .class_ 104), (0, u "java/lang/Object"), (15, .class_ 121), (0, u "java/util/SequencedCollection")] 129

def k6m0 : Method := { name := "size", desc := "()I", sig := { parameters := [], returnType := some .int }, accessFlags := 1025, code := none }
def k6m1 : Method := { name := "get", desc := "(I)Ljava/lang/Object;", sig := { parameters := [.int], returnType := some (.object "java/lang/Object") }, accessFlags := 1025, code := none }
/-- java/util/List -/
def k6 : Class := { plain "java/util/List" (some 0) with
  accessFlags := 1537
  interfaces := #[5]
  cf := some (fileOf pool6 8 #[] #[{ accessFlags := 1025, nameIndex := 79, descriptorIndex := 80, attributes := #[] }, { accessFlags := 1025, nameIndex := 75, descriptorIndex := 76, attributes := #[] }] 1537 103 #[120] #[])
  fields := #[]
  methods := #[k6m0, k6m1]
  instanceTypes := #[]
  staticTypes := #[]
  resolved := Array.replicate 251 none
  statics := none }

def pool7 : Array CpInfo := pool [(1, .methodref 2 3), (0, .class_ 4), (0, .nameAndType 5 6), (0, u "java/util/AbstractCollection"), (0, u "<init>"), (0, u "()V"), (0, .fieldref 8 9), (0, .class_ 10), (0, .nameAndType 11 12), (0, u "java/util/AbstractList"), (0, u "modCount"), (0, u "I"), (64, .class_ 78), (0, u "java/util/AbstractList$Itr"), (3, .class_ 83), (0, u "java/util/AbstractList$ListItr"), (9, .class_ 94), (0, u "java/util/AbstractList$RandomAccessSubList"), (3, .class_ 99), (0, u "java/util/AbstractList$SubList"), (33, .class_ 134), (0, u "java/util/List"), (73, .class_ 209), (0, u "java/util/AbstractList$SubList$1"), (0, .class_ 211), (0, u "java/util/AbstractList$RandomAccessSpliterator")] 6

def k7c0 : Code := { maxStack := 2, maxLocals := 1, code := jdk_39_method_1_code, exceptionTable := #[], attributes := #[] }
def k7m0 : Method := { name := "<init>", desc := "()V", sig := { parameters := [], returnType := none }, accessFlags := 4, code := some k7c0 }
/-- java/util/AbstractList -/
def k7 : Class := { plain "java/util/AbstractList" (some 4) with
  accessFlags := 1057
  interfaces := #[6]
  cf := some (fileOf pool7 8 #[.nestMembers #[93, 98, 208, 210, 82, 77]] #[{ accessFlags := 4, nameIndex := 5, descriptorIndex := 6, attributes := #[] }] 1057 2 #[133] #[{ accessFlags := 132, nameIndex := 11, descriptorIndex := 12, attributes := #[] }])
  fields := #[{ name := "modCount", type := .int, accessFlags := 132, slot := 0, constantValue := 0 }]
  methods := #[k7m0]
  instanceTypes := #[.int]
  staticTypes := #[]
  resolved := Array.replicate 218 none
  statics := none }

def pool8 : Array CpInfo := pool [(1, .class_ 2), (0, u "java/util/RandomAccess"), (0, .class_ 4), (0, u "java/lang/Object")] 2

/-- java/util/RandomAccess -/
def k8 : Class := { plain "java/util/RandomAccess" (some 0) with
  accessFlags := 1537
  interfaces := #[]
  cf := some (fileOf pool8 1 #[] #[] 1537 3 #[] #[])
  fields := #[]
  methods := #[]
  instanceTypes := #[]
  staticTypes := #[]
  resolved := Array.replicate 7 none
  statics := none }

def pool9 : Array CpInfo := pool [(1, .class_ 2), (0, u "java/lang/Cloneable"), (0, .class_ 4), (0, u "java/lang/Object")] 2

/-- java/lang/Cloneable -/
def k9 : Class := { plain "java/lang/Cloneable" (some 0) with
  accessFlags := 1537
  interfaces := #[]
  cf := some (fileOf pool9 1 #[] #[] 1537 3 #[] #[])
  fields := #[]
  methods := #[]
  instanceTypes := #[]
  staticTypes := #[]
  resolved := Array.replicate 7 none
  statics := none }

def pool10 : Array CpInfo := pool [(1, .class_ 2), (0, u "java/io/Serializable"), (0, .class_ 4), (0, u "java/lang/Object")] 2

/-- java/io/Serializable -/
def k10 : Class := { plain "java/io/Serializable" (some 0) with
  accessFlags := 1537
  interfaces := #[]
  cf := some (fileOf pool10 1 #[] #[] 1537 3 #[] #[])
  fields := #[]
  methods := #[]
  instanceTypes := #[]
  staticTypes := #[]
  resolved := Array.replicate 7 none
  statics := none }

def pool11 : Array CpInfo := pool [(1, .methodref 2 3), (0, .class_ 4), (0, .nameAndType 5 6), (0, u "java/util/AbstractList"), (0, u "<init>"), (0, u "()V"), (0, .class_ 8), (0, u "java/lang/Object"), (0, .fieldref 10 11), (0, .class_ 12), (0, .nameAndType 13 14), (0, u "java/util/ArrayList"), (0, u "elementData"), (0, u "[Ljava/lang/Object;"), (2, u "EMPTY_ELEMENTDATA"), (21, .fieldref 10 40), (0, .nameAndType 41 14), (0, u "DEFAULTCAPACITY_EMPTY_ELEMENTDATA"), (5, u "()[Ljava/lang/Object;"), (0, .fieldref 10 49), (0, .nameAndType 50 51), (0, u "size"), (0, u "I"), (11, .fieldref 10 64), (0, .nameAndType 65 51), (0, u "modCount"), (3, .methodref 10 70), (0, .nameAndType 71 72), (0, u "grow"), (0, u "(I)[Ljava/lang/Object;"), (6, .methodref 80 81), (0, .class_ 82), (0, .nameAndType 83 84), (0, u "java/lang/Math"), (0, u "max"), (0, u "(II)I"), (11, u "(Ljava/lang/Object;)Z"), (21, .methodref 119 120), (0, .class_ 121), (0, .nameAndType 122 84), (0, u "java/util/Objects"), (0, u "checkIndex"), (0, .methodref 10 124), (0, .nameAndType 13 125), (0, u "(I)Ljava/lang/Object;"), (3, .methodref 10 130), (0, .nameAndType 71 47), (0, .methodref 10 132), (0, .nameAndType 133 134), (0, u "add"), (0, u "(Ljava/lang/Object;[Ljava/lang/Object;I)V"), (13, .class_ 149), (0, u "java/util/List"), (36, u "()I"), (75, .class_ 263), (0, u "java/util/ArrayList$ListItr"), (3, .class_ 268), (0, u "java/util/ArrayList$Itr"), (7, .class_ 277), (0, u "java/util/ArrayList$SubList"), (12, .class_ 291), (0, u "java/util/ArrayList$ArrayListSpliterator"), (37, .class_ 330), (0, u "java/util/RandomAccess"), (0, .class_ 332), (0, u "java/lang/Cloneable"), (0, .class_ 334), (0, u "java/io/Serializable"), (0, u "serialVersionUID"), (0, u "J"), (3, u "DEFAULT_CAPACITY"), (40, u "get"), (118, .class_ 501), (0, u "java/util/ArrayList$SubList$2"), (0, .class_ 503), (0, u "java/util/ArrayList$SubList$1")] 5

def k11c0 : Code := { maxStack := 2, maxLocals := 1, code := jdk_38_method_2_code, exceptionTable := #[], attributes := #[] }
def k11m0 : Method := { name := "<init>", desc := "()V", sig := { parameters := [], returnType := none }, accessFlags := 1, code := some k11c0 }
def k11c1 : Code := { maxStack := 4, maxLocals := 4, code := jdk_38_method_6_code, exceptionTable := #[], attributes := #[] }
def k11m1 : Method := { name := "grow", desc := "(I)[Ljava/lang/Object;", sig := { parameters := [.int], returnType := some (.array (.object "java/lang/Object")) }, accessFlags := 2, code := some k11c1 }
def k11c2 : Code := { maxStack := 3, maxLocals := 1, code := jdk_38_method_7_code, exceptionTable := #[], attributes := #[] }
def k11m2 : Method := { name := "grow", desc := "()[Ljava/lang/Object;", sig := { parameters := [], returnType := some (.array (.object "java/lang/Object")) }, accessFlags := 2, code := some k11c2 }
def k11c3 : Code := { maxStack := 1, maxLocals := 1, code := jdk_38_method_8_code, exceptionTable := #[], attributes := #[] }
def k11m3 : Method := { name := "size", desc := "()I", sig := { parameters := [], returnType := some .int }, accessFlags := 1, code := some k11c3 }
def k11c4 : Code := { maxStack := 2, maxLocals := 2, code := jdk_38_method_18_code, exceptionTable := #[], attributes := #[] }
def k11m4 : Method := { name := "elementData", desc := "(I)Ljava/lang/Object;", sig := { parameters := [.int], returnType := some (.object "java/lang/Object") }, accessFlags := 0, code := some k11c4 }
def k11c5 : Code := { maxStack := 2, maxLocals := 2, code := jdk_38_method_20_code, exceptionTable := #[], attributes := #[] }
def k11m5 : Method := { name := "get", desc := "(I)Ljava/lang/Object;", sig := { parameters := [.int], returnType := some (.object "java/lang/Object") }, accessFlags := 1, code := some k11c5 }
def k11c6 : Code := { maxStack := 3, maxLocals := 4, code := jdk_38_method_24_code, exceptionTable := #[], attributes := #[] }
def k11m6 : Method := { name := "add", desc := "(Ljava/lang/Object;[Ljava/lang/Object;I)V", sig := { parameters := [(.object "java/lang/Object"), (.array (.object "java/lang/Object")), .int], returnType := none }, accessFlags := 2, code := some k11c6 }
def k11c7 : Code := { maxStack := 4, maxLocals := 2, code := jdk_38_method_25_code, exceptionTable := #[], attributes := #[] }
def k11m7 : Method := { name := "add", desc := "(Ljava/lang/Object;)Z", sig := { parameters := [(.object "java/lang/Object")], returnType := some .boolean }, accessFlags := 1, code := some k11c7 }
/-- java/util/ArrayList -/
def k11 : Class := { plain "java/util/ArrayList" (some 7) with
  accessFlags := 33
  interfaces := #[6, 8, 9, 10]
  cf := some (fileOf pool11 10 #[.nestMembers #[290, 276, 500, 502, 262, 267]] #[{ accessFlags := 1, nameIndex := 5, descriptorIndex := 6, attributes := #[] }, { accessFlags := 2, nameIndex := 71, descriptorIndex := 72, attributes := #[] }, { accessFlags := 2, nameIndex := 71, descriptorIndex := 47, attributes := #[] }, { accessFlags := 1, nameIndex := 50, descriptorIndex := 186, attributes := #[] }, { accessFlags := 0, nameIndex := 13, descriptorIndex := 125, attributes := #[] }, { accessFlags := 1, nameIndex := 381, descriptorIndex := 125, attributes := #[] }, { accessFlags := 2, nameIndex := 133, descriptorIndex := 134, attributes := #[] }, { accessFlags := 1, nameIndex := 133, descriptorIndex := 96, attributes := #[] }] 33 2 #[148, 329, 331, 333] #[{ accessFlags := 26, nameIndex := 335, descriptorIndex := 336, attributes := #[] }, { accessFlags := 26, nameIndex := 340, descriptorIndex := 51, attributes := #[] }, { accessFlags := 26, nameIndex := 17, descriptorIndex := 14, attributes := #[] }, { accessFlags := 26, nameIndex := 41, descriptorIndex := 14, attributes := #[] }, { accessFlags := 128, nameIndex := 13, descriptorIndex := 14, attributes := #[] }, { accessFlags := 2, nameIndex := 50, descriptorIndex := 51, attributes := #[] }])
  fields := #[{ name := "serialVersionUID", type := .long, accessFlags := 26, slot := 0, constantValue := 0 }, { name := "DEFAULT_CAPACITY", type := .int, accessFlags := 26, slot := 1, constantValue := 0 }, { name := "EMPTY_ELEMENTDATA", type := (.array (.object "java/lang/Object")), accessFlags := 26, slot := 2, constantValue := 0 }, { name := "DEFAULTCAPACITY_EMPTY_ELEMENTDATA", type := (.array (.object "java/lang/Object")), accessFlags := 26, slot := 3, constantValue := 0 }, { name := "elementData", type := (.array (.object "java/lang/Object")), accessFlags := 128, slot := 1, constantValue := 0 }, { name := "size", type := .int, accessFlags := 2, slot := 2, constantValue := 0 }]
  methods := #[k11m0, k11m1, k11m2, k11m3, k11m4, k11m5, k11m6, k11m7]
  instanceTypes := #[.int, (.array (.object "java/lang/Object")), .int]
  staticTypes := #[.long, .int, (.array (.object "java/lang/Object")), (.array (.object "java/lang/Object"))]
  resolved := Array.replicate 509 none
  statics := some 0 }

def pool12 : Array CpInfo := pool [(1, .methodref 2 3), (0, .class_ 4), (0, .nameAndType 5 6), (0, u "java/lang/Object"), (0, u "<init>"), (0, u "()V"), (0, .class_ 8), (0, u "java/lang/Record")] 13

def k12c0 : Code := { maxStack := 1, maxLocals := 1, code := jdk_30_method_1_code, exceptionTable := #[], attributes := #[] }
def k12m0 : Method := { name := "<init>", desc := "()V", sig := { parameters := [], returnType := none }, accessFlags := 4, code := some k12c0 }
/-- java/lang/Record -/
def k12 : Class := { plain "java/lang/Record" (some 0) with
  accessFlags := 1057
  interfaces := #[]
  cf := some (fileOf pool12 7 #[] #[{ accessFlags := 4, nameIndex := 5, descriptorIndex := 6, attributes := #[] }] 1057 2 #[] #[])
  fields := #[]
  methods := #[k12m0]
  instanceTypes := #[]
  staticTypes := #[]
  resolved := Array.replicate 22 none
  statics := none }

def pool13 : Array CpInfo := pool [(1, .methodref 2 3), (0, .class_ 4), (0, .nameAndType 5 6), (0, u "java/lang/Record"), (0, u "<init>"), (0, u "()V"), (0, .fieldref 8 9), (0, .class_ 10), (0, .nameAndType 11 12), (0, u "com/example/ryazan/ryazan/model/Model$Variable"), (0, u "name"), (0, u "Ljava/lang/String;"), (0, .fieldref 8 14), (0, .nameAndType 15 16), (0, u "type"), (0, u "Lcom/example/ryazan/ryazan/lang/Type;"), (0, .fieldref 8 18), (0, .nameAndType 19 20), (0, u "low"), (0, u "I"), (0, .fieldref 8 22), (0, .nameAndType 23 20), (0, u "high"), (0, .fieldref 8 25), (0, .nameAndType 26 20), (0, u "initial"), (0, .fieldref 8 28), (0, .nameAndType 29 30), (0, u "position"), (0, u "Lcom/example/ryazan/ryazan/lang/SourcePosition;"), (42, u "()I"), (10, u "(Ljava/lang/String;Lcom/example/ryazan/ryazan/lang/Type;IIILcom/example/ryazan/ryazan/lang/SourcePosition;)V"), (12, .class_ 98), (0, u "com/example/ryazan/ryazan/model/Model")] 24

def k13c0 : Code := { maxStack := 2, maxLocals := 7, code := prog_172_method_1_code, exceptionTable := #[], attributes := #[] }
def k13m0 : Method := { name := "<init>", desc := "(Ljava/lang/String;Lcom/example/ryazan/ryazan/lang/Type;IIILcom/example/ryazan/ryazan/lang/SourcePosition;)V", sig := { parameters := [(.object "java/lang/String"), (.object "com/example/ryazan/ryazan/lang/Type"), .int, .int, .int, (.object "com/example/ryazan/ryazan/lang/SourcePosition")], returnType := none }, accessFlags := 1, code := some k13c0 }
def k13c1 : Code := { maxStack := 1, maxLocals := 1, code := prog_172_method_9_code, exceptionTable := #[], attributes := #[] }
def k13m1 : Method := { name := "low", desc := "()I", sig := { parameters := [], returnType := some .int }, accessFlags := 1, code := some k13c1 }
def k13c2 : Code := { maxStack := 1, maxLocals := 1, code := prog_172_method_10_code, exceptionTable := #[], attributes := #[] }
def k13m2 : Method := { name := "high", desc := "()I", sig := { parameters := [], returnType := some .int }, accessFlags := 1, code := some k13c2 }
/-- com/example/ryazan/ryazan/model/Model$Variable -/
def k13 : Class := { plain "com/example/ryazan/ryazan/model/Model$Variable" (some 12) with
  accessFlags := 49
  interfaces := #[]
  cf := some (fileOf pool13 8 #[.nestHost 97] #[{ accessFlags := 1, nameIndex := 5, descriptorIndex := 84, attributes := #[] }, { accessFlags := 1, nameIndex := 19, descriptorIndex := 73, attributes := #[] }, { accessFlags := 1, nameIndex := 23, descriptorIndex := 73, attributes := #[] }] 49 2 #[] #[{ accessFlags := 18, nameIndex := 11, descriptorIndex := 12, attributes := #[] }, { accessFlags := 18, nameIndex := 15, descriptorIndex := 16, attributes := #[] }, { accessFlags := 18, nameIndex := 19, descriptorIndex := 20, attributes := #[] }, { accessFlags := 18, nameIndex := 23, descriptorIndex := 20, attributes := #[] }, { accessFlags := 18, nameIndex := 26, descriptorIndex := 20, attributes := #[] }, { accessFlags := 18, nameIndex := 29, descriptorIndex := 30, attributes := #[] }])
  fields := #[{ name := "name", type := (.object "java/lang/String"), accessFlags := 18, slot := 0, constantValue := 0 }, { name := "type", type := (.object "com/example/ryazan/ryazan/lang/Type"), accessFlags := 18, slot := 1, constantValue := 0 }, { name := "low", type := .int, accessFlags := 18, slot := 2, constantValue := 0 }, { name := "high", type := .int, accessFlags := 18, slot := 3, constantValue := 0 }, { name := "initial", type := .int, accessFlags := 18, slot := 4, constantValue := 0 }, { name := "position", type := (.object "com/example/ryazan/ryazan/lang/SourcePosition"), accessFlags := 18, slot := 5, constantValue := 0 }]
  methods := #[k13m0, k13m1, k13m2]
  instanceTypes := #[(.object "java/lang/String"), (.object "com/example/ryazan/ryazan/lang/Type"), .int, .int, .int, (.object "com/example/ryazan/ryazan/lang/SourcePosition")]
  staticTypes := #[]
  resolved := Array.replicate 123 none
  statics := none }

def pool14 : Array CpInfo := pool [(1, .class_ 2), (0, u "java/lang/constant/Constable"), (0, .class_ 4), (0, u "java/lang/Object")] 6

/-- java/lang/constant/Constable -/
def k14 : Class := { plain "java/lang/constant/Constable" (some 0) with
  accessFlags := 1537
  interfaces := #[]
  cf := some (fileOf pool14 1 #[] #[] 1537 3 #[] #[])
  fields := #[]
  methods := #[]
  instanceTypes := #[]
  staticTypes := #[]
  resolved := Array.replicate 11 none
  statics := none }

def pool15 : Array CpInfo := pool [(1, .class_ 2), (0, u "java/lang/Comparable"), (0, .class_ 4), (0, u "java/lang/Object")] 7

/-- java/lang/Comparable -/
def k15 : Class := { plain "java/lang/Comparable" (some 0) with
  accessFlags := 1537
  interfaces := #[]
  cf := some (fileOf pool15 1 #[] #[] 1537 3 #[] #[])
  fields := #[]
  methods := #[]
  instanceTypes := #[]
  staticTypes := #[]
  resolved := Array.replicate 12 none
  statics := none }

def pool16 : Array CpInfo := pool [(2, .class_ 4), (1, u "java/lang/Enum"), (0, u "name"), (0, u "Ljava/lang/String;"), (2, u "ordinal"), (0, u "I"), (1, .class_ 14), (1, u "java/lang/Object"), (4, u "hash"), (86, .class_ 108), (1, u "java/lang/Enum$EnumDesc"), (2, .class_ 112), (0, u "java/lang/constant/Constable"), (0, .class_ 114), (0, u "java/lang/Comparable"), (0, .class_ 116), (0, u "java/io/Serializable")] 87

/-- java/lang/Enum -/
def k16 : Class := { plain "java/lang/Enum" (some 0) with
  accessFlags := 1057
  interfaces := #[14, 15, 10]
  cf := some (fileOf pool16 2 #[.nestMembers #[106]] #[] 1057 12 #[111, 113, 115] #[{ accessFlags := 18, nameIndex := 5, descriptorIndex := 6, attributes := #[] }, { accessFlags := 18, nameIndex := 9, descriptorIndex := 10, attributes := #[] }, { accessFlags := 2, nameIndex := 19, descriptorIndex := 10, attributes := #[] }])
  fields := #[{ name := "name", type := (.object "java/lang/String"), accessFlags := 18, slot := 0, constantValue := 0 }, { name := "ordinal", type := .int, accessFlags := 18, slot := 1, constantValue := 0 }, { name := "hash", type := .int, accessFlags := 2, slot := 2, constantValue := 0 }]
  methods := #[]
  instanceTypes := #[(.object "java/lang/String"), .int, .int]
  staticTypes := #[]
  resolved := Array.replicate 204 none
  statics := none }

def pool17 : Array CpInfo := pool [(1, .class_ 2), (0, u "com/example/ryazan/ryazan/lang/Type"), (2, u "INT"), (0, u "Lcom/example/ryazan/ryazan/lang/Type;"), (2, u "DOUBLE"), (2, u "BOOL"), (2, u "$VALUES"), (0, u "[Lcom/example/ryazan/ryazan/lang/Type;"), (6, .class_ 25), (1, u "java/lang/Enum"), (8, u "keyword"), (0, u "Ljava/lang/String;")] 32

/-- com/example/ryazan/ryazan/lang/Type -/
def k17 : Class := { plain "com/example/ryazan/ryazan/lang/Type" (some 16) with
  accessFlags := 16433
  interfaces := #[]
  cf := some (fileOf pool17 1 #[] #[] 16433 23 #[] #[{ accessFlags := 16409, nameIndex := 5, descriptorIndex := 6, attributes := #[] }, { accessFlags := 16409, nameIndex := 9, descriptorIndex := 6, attributes := #[] }, { accessFlags := 16409, nameIndex := 12, descriptorIndex := 6, attributes := #[] }, { accessFlags := 18, nameIndex := 34, descriptorIndex := 35, attributes := #[] }, { accessFlags := 4122, nameIndex := 15, descriptorIndex := 16, attributes := #[] }])
  fields := #[{ name := "INT", type := (.object "com/example/ryazan/ryazan/lang/Type"), accessFlags := 16409, slot := 0, constantValue := 0 }, { name := "DOUBLE", type := (.object "com/example/ryazan/ryazan/lang/Type"), accessFlags := 16409, slot := 1, constantValue := 0 }, { name := "BOOL", type := (.object "com/example/ryazan/ryazan/lang/Type"), accessFlags := 16409, slot := 2, constantValue := 0 }, { name := "keyword", type := (.object "java/lang/String"), accessFlags := 18, slot := 3, constantValue := 0 }, { name := "$VALUES", type := (.array (.object "com/example/ryazan/ryazan/lang/Type")), accessFlags := 4122, slot := 3, constantValue := 0 }]
  methods := #[]
  instanceTypes := #[(.object "java/lang/String"), .int, .int, (.object "java/lang/String")]
  staticTypes := #[(.object "com/example/ryazan/ryazan/lang/Type"), (.object "com/example/ryazan/ryazan/lang/Type"), (.object "com/example/ryazan/ryazan/lang/Type"), (.array (.object "com/example/ryazan/ryazan/lang/Type"))]
  resolved := Array.replicate 68 none
  statics := some 1 }

def pool18 : Array CpInfo := pool [(1, .class_ 2), (0, u "java/lang/Math"), (1, .class_ 6), (1, u "java/lang/Object"), (0, u "<init>"), (0, u "()V"), (89, .class_ 100), (1, u "java/lang/Math$RandomNumberGeneratorHolder"), (19, u "multiplyExact"), (51, u "negativeZeroFloatBits"), (0, u "J"), (2, u "negativeZeroDoubleBits"), (21, u "max"), (2, u "min"), (43, u "$assertionsDisabled"), (0, u "Z"), (88, u "(II)I"), (2, u "twoToTheDoubleScaleDown"), (0, u "D"), (4, u "twoToTheDoubleScaleUp"), (9, u "E"), (3, u "PI"), (2, u "TAU"), (2, u "DEGREES_TO_RADIANS"), (0, u "RADIANS_TO_DEGREES"), (39, u "toIntExact"), (0, u "(J)I")] 53

def k18m0 : Method := { name := "<init>", desc := "()V", sig := { parameters := [], returnType := none }, accessFlags := 2, code := none }
def k18c1 : Code := { maxStack := 4, maxLocals := 4, code := jdk_29_method_28_code, exceptionTable := #[], attributes := #[] }
def k18m1 : Method := { name := "multiplyExact", desc := "(II)I", sig := { parameters := [.int, .int], returnType := some .int }, accessFlags := 9, code := some k18c1 }
def k18c2 : Code := { maxStack := 4, maxLocals := 2, code := jdk_29_method_43_code, exceptionTable := #[], attributes := #[] }
def k18m2 : Method := { name := "toIntExact", desc := "(J)I", sig := { parameters := [.long], returnType := some .int }, accessFlags := 9, code := some k18c2 }
def k18c3 : Code := { maxStack := 2, maxLocals := 2, code := jdk_29_method_65_code, exceptionTable := #[], attributes := #[] }
def k18m3 : Method := { name := "max", desc := "(II)I", sig := { parameters := [.int, .int], returnType := some .int }, accessFlags := 9, code := some k18c3 }
def k18c4 : Code := { maxStack := 2, maxLocals := 2, code := jdk_29_method_69_code, exceptionTable := #[], attributes := #[] }
def k18m4 : Method := { name := "min", desc := "(II)I", sig := { parameters := [.int, .int], returnType := some .int }, accessFlags := 9, code := some k18c4 }
/-- java/lang/Math -/
def k18 : Class := { plain "java/lang/Math" (some 0) with
  accessFlags := 49
  interfaces := #[]
  cf := some (fileOf pool18 1 #[.nestMembers #[98]] #[{ accessFlags := 2, nameIndex := 7, descriptorIndex := 8, attributes := #[] }, { accessFlags := 9, nameIndex := 120, descriptorIndex := 335, attributes := #[] }, { accessFlags := 9, nameIndex := 405, descriptorIndex := 406, attributes := #[] }, { accessFlags := 9, nameIndex := 198, descriptorIndex := 335, attributes := #[] }, { accessFlags := 9, nameIndex := 201, descriptorIndex := 335, attributes := #[] }] 49 4 #[] #[{ accessFlags := 25, nameIndex := 354, descriptorIndex := 339, attributes := #[] }, { accessFlags := 25, nameIndex := 358, descriptorIndex := 339, attributes := #[] }, { accessFlags := 25, nameIndex := 361, descriptorIndex := 339, attributes := #[] }, { accessFlags := 26, nameIndex := 364, descriptorIndex := 339, attributes := #[] }, { accessFlags := 26, nameIndex := 365, descriptorIndex := 339, attributes := #[] }, { accessFlags := 26, nameIndex := 172, descriptorIndex := 173, attributes := #[] }, { accessFlags := 26, nameIndex := 176, descriptorIndex := 173, attributes := #[] }, { accessFlags := 8, nameIndex := 344, descriptorIndex := 339, attributes := #[] }, { accessFlags := 8, nameIndex := 338, descriptorIndex := 339, attributes := #[] }, { accessFlags := 4120, nameIndex := 245, descriptorIndex := 246, attributes := #[] }])
  fields := #[{ name := "E", type := .double, accessFlags := 25, slot := 0, constantValue := 0 }, { name := "PI", type := .double, accessFlags := 25, slot := 1, constantValue := 0 }, { name := "TAU", type := .double, accessFlags := 25, slot := 2, constantValue := 0 }, { name := "DEGREES_TO_RADIANS", type := .double, accessFlags := 26, slot := 3, constantValue := 0 }, { name := "RADIANS_TO_DEGREES", type := .double, accessFlags := 26, slot := 4, constantValue := 0 }, { name := "negativeZeroFloatBits", type := .long, accessFlags := 26, slot := 5, constantValue := 0 }, { name := "negativeZeroDoubleBits", type := .long, accessFlags := 26, slot := 6, constantValue := 0 }, { name := "twoToTheDoubleScaleUp", type := .double, accessFlags := 8, slot := 7, constantValue := 0 }, { name := "twoToTheDoubleScaleDown", type := .double, accessFlags := 8, slot := 8, constantValue := 0 }, { name := "$assertionsDisabled", type := .boolean, accessFlags := 4120, slot := 9, constantValue := 0 }]
  methods := #[k18m0, k18m1, k18m2, k18m3, k18m4]
  instanceTypes := #[]
  staticTypes := #[.double, .double, .double, .double, .double, .long, .long, .double, .double, .boolean]
  resolved := Array.replicate 460 none
  statics := none }

def pool19 : Array CpInfo := pool [(1, .methodref 2 3), (0, .class_ 4), (0, .nameAndType 5 6), (0, u "java/lang/Object"), (0, u "<init>"), (0, u "()V"), (0, .fieldref 8 9), (0, .class_ 10), (0, .nameAndType 11 12), (0, u "com/example/ryazan/ryazan/statespace/StateStore"), (0, u "packed"), (0, u "[J"), (0, .fieldref 8 14), (0, .nameAndType 15 16), (0, u "slotBits"), (0, u "I"), (0, .methodref 8 18), (0, .nameAndType 19 20), (0, u "emptyTable"), (0, u "(I)[I"), (0, .fieldref 8 22), (0, .nameAndType 23 24), (0, u "table"), (0, u "[I"), (0, .fieldref 8 26), (0, .nameAndType 27 24), (0, u "hashes"), (0, .interfaceMethodref 29 30), (0, .class_ 31), (0, .nameAndType 32 33), (0, u "java/util/List"), (0, u "size"), (0, u "()I"), (0, .fieldref 8 35), (0, .nameAndType 36 24), (0, u "lows"), (0, .fieldref 8 38), (0, .nameAndType 39 24), (0, u "words"), (0, .fieldref 8 41), (0, .nameAndType 42 24), (0, u "shifts"), (0, .fieldref 8 44), (0, .nameAndType 45 12), (0, u "masks"), (0, .interfaceMethodref 29 47), (0, .nameAndType 48 49), (0, u "get"), (0, u "(I)Ljava/lang/Object;"), (0, .class_ 51), (0, u "com/example/ryazan/ryazan/model/Model$Variable"), (0, .methodref 50 53), (0, .nameAndType 54 33), (0, u "high"), (0, .methodref 50 56), (0, .nameAndType 57 33), (0, u "low"), (0, .methodref 59 60), (0, .class_ 61), (0, .nameAndType 62 63), (0, u "java/lang/Long"), (0, u "numberOfLeadingZeros"), (0, u "(J)I"), (0, .fieldref 8 65), (0, .nameAndType 66 16), (0, u "wordsPerState"), (0, .fieldref 8 68), (0, .nameAndType 69 12), (0, u "key"), (0, .fieldref 8 71), (0, .nameAndType 32 16), (0, .methodref 8 73), (0, .nameAndType 74 6), (0, u "placeAgain"), (0, .methodref 8 76), (0, .nameAndType 77 78), (0, u "pack"), (0, u "([I)V"), (0, .methodref 8 80), (0, .nameAndType 81 82), (0, u "hash"), (0, u "([JI)I"), (0, .methodref 8 84), (0, .nameAndType 85 86), (0, u "add"), (0, u "([JII)I"), (0, .methodref 88 89), (0, .class_ 90), (0, .nameAndType 91 92), (0, u "java/lang/Math"), (0, u "multiplyExact"), (0, u "(II)I"), (0, .methodref 88 94), (0, .nameAndType 95 92), (0, u "max"), (4, .methodref 8 101), (0, .nameAndType 102 86), (0, u "slot"), (0, .methodref 8 104), (0, .nameAndType 105 106), (0, u "number"), (0, u "(I)I"), (0, .methodref 108 109), (0, .class_ 110), (0, .nameAndType 111 112), (0, u "java/util/Arrays"), (0, u "copyOf"), (0, u "([JI)[J"), (3, .methodref 117 118), (0, .class_ 119), (0, .nameAndType 120 121), (0, u "java/lang/System"), (0, u "arraycopy"), (0, u "(Ljava/lang/Object;ILjava/lang/Object;II)V"), (0, .long 18446744073709551615), (1, .methodref 108 125), (0, .nameAndType 126 127), (0, u "fill"), (0, u "([JJ)V"), (4, .methodref 8 133), (0, .nameAndType 134 135), (0, u "sharesHash"), (0, u "(II)Z"), (2, u "read"), (0, .methodref 8 140), (0, .nameAndType 141 92), (0, u "entry"), (3, .methodref 8 146), (0, .nameAndType 147 148), (0, u "holds"), (0, u "(II[JI)Z"), (3, .methodref 88 153), (0, .nameAndType 154 63), (0, u "toIntExact"), (0, .methodref 108 156), (0, .nameAndType 126 157), (0, u "([II)V"), (0, .long 11400714819323198485), (1, .long 13787848793156543929), (1, u "EMPTY"), (2, u "FIRST_SLOT_BITS"), (1, u "(Ljava/util/List;)V"), (6, u "([I)I"), (6, u "(I[JI)V"), (0, u "set"), (0, u "([JIII)V")] 7

def k19c0 : Code := { maxStack := 6, maxLocals := 10, code := prog_197_method_1_code, exceptionTable := #[], attributes := #[] }
def k19m0 : Method := { name := "<init>", desc := "(Ljava/util/List;)V", sig := { parameters := [(.object "java/util/List")], returnType := none }, accessFlags := 0, code := some k19c0 }
def k19c1 : Code := { maxStack := 6, maxLocals := 2, code := prog_197_method_5_code, exceptionTable := #[], attributes := #[] }
def k19m1 : Method := { name := "add", desc := "([I)I", sig := { parameters := [(.array .int)], returnType := some .int }, accessFlags := 0, code := some k19c1 }
def k19c2 : Code := { maxStack := 2, maxLocals := 1, code := prog_197_method_9_code, exceptionTable := #[], attributes := #[] }
def k19m2 : Method := { name := "placeAgain", desc := "()V", sig := { parameters := [], returnType := none }, accessFlags := 2, code := some k19c2 }
def k19c3 : Code := { maxStack := 5, maxLocals := 4, code := prog_197_method_11_code, exceptionTable := #[], attributes := #[] }
def k19m3 : Method := { name := "key", desc := "(I[JI)V", sig := { parameters := [.int, (.array .long), .int], returnType := none }, accessFlags := 0, code := some k19c3 }
def k19c4 : Code := { maxStack := 8, maxLocals := 8, code := prog_197_method_12_code, exceptionTable := #[], attributes := #[] }
def k19m4 : Method := { name := "set", desc := "([JIII)V", sig := { parameters := [(.array .long), .int, .int, .int], returnType := none }, accessFlags := 0, code := some k19c4 }
def k19c5 : Code := { maxStack := 8, maxLocals := 3, code := prog_197_method_13_code, exceptionTable := #[], attributes := #[] }
def k19m5 : Method := { name := "pack", desc := "([I)V", sig := { parameters := [(.array .int)], returnType := none }, accessFlags := 2, code := some k19c5 }
def k19c6 : Code := { maxStack := 5, maxLocals := 7, code := prog_197_method_16_code, exceptionTable := #[], attributes := #[] }
def k19m6 : Method := { name := "add", desc := "([JII)I", sig := { parameters := [(.array .long), .int, .int], returnType := some .int }, accessFlags := 2, code := some k19c6 }
def k19c7 : Code := { maxStack := 5, maxLocals := 6, code := prog_197_method_17_code, exceptionTable := #[], attributes := #[] }
def k19m7 : Method := { name := "slot", desc := "([JII)I", sig := { parameters := [(.array .long), .int, .int], returnType := some .int }, accessFlags := 2, code := some k19c7 }
def k19c8 : Code := { maxStack := 5, maxLocals := 7, code := prog_197_method_18_code, exceptionTable := #[], attributes := #[] }
def k19m8 : Method := { name := "holds", desc := "(II[JI)Z", sig := { parameters := [.int, .int, (.array .long), .int], returnType := some .boolean }, accessFlags := 2, code := some k19c8 }
def k19c9 : Code := { maxStack := 3, maxLocals := 3, code := prog_197_method_19_code, exceptionTable := #[], attributes := #[] }
def k19m9 : Method := { name := "entry", desc := "(II)I", sig := { parameters := [.int, .int], returnType := some .int }, accessFlags := 2, code := some k19c9 }
def k19c10 : Code := { maxStack := 3, maxLocals := 3, code := prog_197_method_20_code, exceptionTable := #[], attributes := #[] }
def k19m10 : Method := { name := "sharesHash", desc := "(II)Z", sig := { parameters := [.int, .int], returnType := some .boolean }, accessFlags := 2, code := some k19c10 }
def k19c11 : Code := { maxStack := 4, maxLocals := 2, code := prog_197_method_21_code, exceptionTable := #[], attributes := #[] }
def k19m11 : Method := { name := "number", desc := "(I)I", sig := { parameters := [.int], returnType := some .int }, accessFlags := 2, code := some k19c11 }
def k19c12 : Code := { maxStack := 3, maxLocals := 2, code := prog_197_method_24_code, exceptionTable := #[], attributes := #[] }
def k19m12 : Method := { name := "emptyTable", desc := "(I)[I", sig := { parameters := [.int], returnType := some (.array .int) }, accessFlags := 10, code := some k19c12 }
def k19c13 : Code := { maxStack := 5, maxLocals := 6, code := prog_197_method_25_code, exceptionTable := #[], attributes := #[] }
def k19m13 : Method := { name := "hash", desc := "([JI)I", sig := { parameters := [(.array .long), .int], returnType := some .int }, accessFlags := 0, code := some k19c13 }
/-- com/example/ryazan/ryazan/statespace/StateStore -/
def k19 : Class := { plain "com/example/ryazan/ryazan/statespace/StateStore" (some 0) with
  accessFlags := 48
  interfaces := #[]
  cf := some (fileOf pool19 8 #[] #[{ accessFlags := 0, nameIndex := 5, descriptorIndex := 167, attributes := #[] }, { accessFlags := 0, nameIndex := 85, descriptorIndex := 174, attributes := #[] }, { accessFlags := 2, nameIndex := 74, descriptorIndex := 6, attributes := #[] }, { accessFlags := 0, nameIndex := 69, descriptorIndex := 181, attributes := #[] }, { accessFlags := 0, nameIndex := 182, descriptorIndex := 183, attributes := #[] }, { accessFlags := 2, nameIndex := 77, descriptorIndex := 78, attributes := #[] }, { accessFlags := 2, nameIndex := 85, descriptorIndex := 86, attributes := #[] }, { accessFlags := 2, nameIndex := 102, descriptorIndex := 86, attributes := #[] }, { accessFlags := 2, nameIndex := 147, descriptorIndex := 148, attributes := #[] }, { accessFlags := 2, nameIndex := 141, descriptorIndex := 92, attributes := #[] }, { accessFlags := 2, nameIndex := 134, descriptorIndex := 135, attributes := #[] }, { accessFlags := 2, nameIndex := 105, descriptorIndex := 106, attributes := #[] }, { accessFlags := 10, nameIndex := 19, descriptorIndex := 20, attributes := #[] }, { accessFlags := 0, nameIndex := 81, descriptorIndex := 82, attributes := #[] }] 48 2 #[] #[{ accessFlags := 26, nameIndex := 162, descriptorIndex := 16, attributes := #[] }, { accessFlags := 26, nameIndex := 165, descriptorIndex := 16, attributes := #[] }, { accessFlags := 18, nameIndex := 36, descriptorIndex := 24, attributes := #[] }, { accessFlags := 18, nameIndex := 39, descriptorIndex := 24, attributes := #[] }, { accessFlags := 18, nameIndex := 42, descriptorIndex := 24, attributes := #[] }, { accessFlags := 18, nameIndex := 45, descriptorIndex := 12, attributes := #[] }, { accessFlags := 18, nameIndex := 66, descriptorIndex := 16, attributes := #[] }, { accessFlags := 18, nameIndex := 69, descriptorIndex := 12, attributes := #[] }, { accessFlags := 2, nameIndex := 11, descriptorIndex := 12, attributes := #[] }, { accessFlags := 2, nameIndex := 15, descriptorIndex := 16, attributes := #[] }, { accessFlags := 2, nameIndex := 23, descriptorIndex := 24, attributes := #[] }, { accessFlags := 2, nameIndex := 32, descriptorIndex := 16, attributes := #[] }, { accessFlags := 2, nameIndex := 27, descriptorIndex := 24, attributes := #[] }, { accessFlags := 2, nameIndex := 138, descriptorIndex := 16, attributes := #[] }])
  fields := #[{ name := "EMPTY", type := .int, accessFlags := 26, slot := 0, constantValue := 0 }, { name := "FIRST_SLOT_BITS", type := .int, accessFlags := 26, slot := 1, constantValue := 0 }, { name := "lows", type := (.array .int), accessFlags := 18, slot := 0, constantValue := 0 }, { name := "words", type := (.array .int), accessFlags := 18, slot := 1, constantValue := 0 }, { name := "shifts", type := (.array .int), accessFlags := 18, slot := 2, constantValue := 0 }, { name := "masks", type := (.array .long), accessFlags := 18, slot := 3, constantValue := 0 }, { name := "wordsPerState", type := .int, accessFlags := 18, slot := 4, constantValue := 0 }, { name := "key", type := (.array .long), accessFlags := 18, slot := 5, constantValue := 0 }, { name := "packed", type := (.array .long), accessFlags := 2, slot := 6, constantValue := 0 }, { name := "slotBits", type := .int, accessFlags := 2, slot := 7, constantValue := 0 }, { name := "table", type := (.array .int), accessFlags := 2, slot := 8, constantValue := 0 }, { name := "size", type := .int, accessFlags := 2, slot := 9, constantValue := 0 }, { name := "hashes", type := (.array .int), accessFlags := 2, slot := 10, constantValue := 0 }, { name := "read", type := .int, accessFlags := 2, slot := 11, constantValue := 0 }]
  methods := #[k19m0, k19m1, k19m2, k19m3, k19m4, k19m5, k19m6, k19m7, k19m8, k19m9, k19m10, k19m11, k19m12, k19m13]
  instanceTypes := #[(.array .int), (.array .int), (.array .int), (.array .long), .int, (.array .long), (.array .long), .int, (.array .int), .int, (.array .int), .int]
  staticTypes := #[.int, .int]
  resolved := Array.replicate 191 none
  statics := none }

def pool20 : Array CpInfo := pool [(2, .class_ 4), (1, u "java/lang/Object"), (0, u "<init>"), (0, u "()V"), (7, .class_ 16), (1, u "java/util/Arrays"), (57, .class_ 76), (1, u "java/util/Arrays$NaturalOrder"), (36, .class_ 115), (1, u "java/util/Arrays$LegacyMergeSort"), (1, u "Z"), (32, .methodref 151 152), (0, .class_ 153), (0, .nameAndType 154 155), (0, u "java/lang/System"), (0, u "arraycopy"), (0, u "(Ljava/lang/Object;ILjava/lang/Object;II)V"), (146, u "copyOf"), (1, .methodref 305 306), (0, .class_ 307), (0, .nameAndType 308 309), (0, u "java/lang/Math"), (0, u "min"), (0, u "(II)I"), (65, .class_ 376), (0, u "java/util/Arrays$ArrayList"), (68, u "$assertionsDisabled"), (269, u "MIN_ARRAY_SORT_GRAN"), (0, u "I"), (2, u "INSERTIONSORT_THRESHOLD"), (120, u "fill"), (0, u "([JJ)V"), (3, u "([II)V"), (26, u "([JI)[J"), (102, .class_ 976), (0, u "java/util/Arrays$ArrayItr")] 52

def k20m0 : Method := { name := "<init>", desc := "()V", sig := { parameters := [], returnType := none }, accessFlags := 2, code := none }
def k20c1 : Code := { maxStack := 4, maxLocals := 5, code := jdk_65_method_101_code, exceptionTable := #[], attributes := #[] }
def k20m1 : Method := { name := "fill", desc := "([JJ)V", sig := { parameters := [(.array .long), .long], returnType := none }, accessFlags := 9, code := some k20c1 }
def k20c2 : Code := { maxStack := 3, maxLocals := 4, code := jdk_65_method_103_code, exceptionTable := #[], attributes := #[] }
def k20m2 : Method := { name := "fill", desc := "([II)V", sig := { parameters := [(.array .int), .int], returnType := none }, accessFlags := 9, code := some k20c2 }
def k20c3 : Code := { maxStack := 6, maxLocals := 3, code := jdk_65_method_124_code, exceptionTable := #[], attributes := #[] }
def k20m3 : Method := { name := "copyOf", desc := "([JI)[J", sig := { parameters := [(.array .long), .int], returnType := some (.array .long) }, accessFlags := 9, code := some k20c3 }
/-- java/util/Arrays -/
def k20 : Class := { plain "java/util/Arrays" (some 0) with
  accessFlags := 49
  interfaces := #[]
  cf := some (fileOf pool20 14 #[.nestMembers #[975, 375, 113, 74]] #[{ accessFlags := 2, nameIndex := 5, descriptorIndex := 6, attributes := #[] }, { accessFlags := 9, nameIndex := 840, descriptorIndex := 841, attributes := #[] }, { accessFlags := 9, nameIndex := 840, descriptorIndex := 845, attributes := #[] }, { accessFlags := 9, nameIndex := 302, descriptorIndex := 872, attributes := #[] }] 49 2 #[] #[{ accessFlags := 26, nameIndex := 715, descriptorIndex := 716, attributes := #[] }, { accessFlags := 26, nameIndex := 719, descriptorIndex := 716, attributes := #[] }, { accessFlags := 4120, nameIndex := 445, descriptorIndex := 117, attributes := #[] }])
  fields := #[{ name := "MIN_ARRAY_SORT_GRAN", type := .int, accessFlags := 26, slot := 0, constantValue := 0 }, { name := "INSERTIONSORT_THRESHOLD", type := .int, accessFlags := 26, slot := 1, constantValue := 0 }, { name := "$assertionsDisabled", type := .boolean, accessFlags := 4120, slot := 2, constantValue := 0 }]
  methods := #[k20m0, k20m1, k20m2, k20m3]
  instanceTypes := #[]
  staticTypes := #[.int, .int, .boolean]
  resolved := Array.replicate 1029 none
  statics := none }

def pool21 : Array CpInfo := pool [(2, .class_ 4), (1, u "java/lang/Object"), (0, u "<init>"), (0, u "()V"), (35, .class_ 44), (1, u "java/util/Objects"), (60, .methodref 106 107), (0, .class_ 108), (0, .nameAndType 109 110), (0, u "jdk/internal/util/Preconditions"), (0, u "checkIndex"), (0, u "(IILjava/util/function/BiFunction;)I"), (60, u "(II)I")] 12

def k21m0 : Method := { name := "<init>", desc := "()V", sig := { parameters := [], returnType := none }, accessFlags := 2, code := none }
def k21c1 : Code := { maxStack := 3, maxLocals := 2, code := jdk_31_method_17_code, exceptionTable := #[], attributes := #[] }
def k21m1 : Method := { name := "checkIndex", desc := "(II)I", sig := { parameters := [.int, .int], returnType := some .int }, accessFlags := 9, code := some k21c1 }
/-- java/util/Objects -/
def k21 : Class := { plain "java/util/Objects" (some 0) with
  accessFlags := 49
  interfaces := #[]
  cf := some (fileOf pool21 42 #[] #[{ accessFlags := 2, nameIndex := 5, descriptorIndex := 6, attributes := #[] }, { accessFlags := 9, nameIndex := 109, descriptorIndex := 171, attributes := #[] }] 49 2 #[] #[])
  fields := #[]
  methods := #[k21m0, k21m1]
  instanceTypes := #[]
  staticTypes := #[]
  resolved := Array.replicate 184 none
  statics := none }

def pool22 : Array CpInfo := pool [(2, .class_ 4), (1, u "java/lang/Object"), (0, u "<init>"), (0, u "()V"), (17, .class_ 26), (1, u "jdk/internal/util/Preconditions"), (6, u "checkIndex"), (21, .class_ 56), (0, u "jdk/internal/util/Preconditions$4"), (57, .class_ 115), (0, u "jdk/internal/util/Preconditions$1"), (7, u "SIOOBE_FORMATTER"), (0, u "Ljava/util/function/BiFunction;"), (0, .class_ 126), (0, u "jdk/internal/util/Preconditions$2"), (3, u "AIOOBE_FORMATTER"), (0, .class_ 132), (0, u "jdk/internal/util/Preconditions$3"), (3, u "IOOBE_FORMATTER"), (41, u "(IILjava/util/function/BiFunction;)I")] 15

def k22m0 : Method := { name := "<init>", desc := "()V", sig := { parameters := [], returnType := none }, accessFlags := 1, code := none }
def k22c1 : Code := { maxStack := 3, maxLocals := 3, code := jdk_41_method_11_code, exceptionTable := #[], attributes := #[] }
def k22m1 : Method := { name := "checkIndex", desc := "(IILjava/util/function/BiFunction;)I", sig := { parameters := [.int, .int, (.object "java/util/function/BiFunction")], returnType := some .int }, accessFlags := 9, code := some k22c1 }
/-- jdk/internal/util/Preconditions -/
def k22 : Class := { plain "jdk/internal/util/Preconditions" (some 0) with
  accessFlags := 33
  interfaces := #[]
  cf := some (fileOf pool22 24 #[.nestMembers #[55, 131, 125, 114]] #[{ accessFlags := 1, nameIndex := 5, descriptorIndex := 6, attributes := #[] }, { accessFlags := 9, nameIndex := 33, descriptorIndex := 178, attributes := #[] }] 33 2 #[] #[{ accessFlags := 25, nameIndex := 123, descriptorIndex := 124, attributes := #[] }, { accessFlags := 25, nameIndex := 130, descriptorIndex := 124, attributes := #[] }, { accessFlags := 25, nameIndex := 136, descriptorIndex := 124, attributes := #[] }])
  fields := #[{ name := "SIOOBE_FORMATTER", type := (.object "java/util/function/BiFunction"), accessFlags := 25, slot := 0, constantValue := 0 }, { name := "AIOOBE_FORMATTER", type := (.object "java/util/function/BiFunction"), accessFlags := 25, slot := 1, constantValue := 0 }, { name := "IOOBE_FORMATTER", type := (.object "java/util/function/BiFunction"), accessFlags := 25, slot := 2, constantValue := 0 }]
  methods := #[k22m0, k22m1]
  instanceTypes := #[]
  staticTypes := #[(.object "java/util/function/BiFunction"), (.object "java/util/function/BiFunction"), (.object "java/util/function/BiFunction")]
  resolved := Array.replicate 194 none
  statics := none }

def pool23 : Array CpInfo := pool [(2, .class_ 4), (1, u "java/lang/Object"), (0, u "<init>"), (0, u "()V"), (1, .class_ 10), (1, u "java/lang/Number"), (2, .class_ 14), (0, u "java/io/Serializable"), (0, u "serialVersionUID"), (0, u "J")] 20

def k23m0 : Method := { name := "<init>", desc := "()V", sig := { parameters := [], returnType := none }, accessFlags := 1, code := none }
/-- java/lang/Number -/
def k23 : Class := { plain "java/lang/Number" (some 0) with
  accessFlags := 1057
  interfaces := #[10]
  cf := some (fileOf pool23 8 #[] #[{ accessFlags := 1, nameIndex := 5, descriptorIndex := 6, attributes := #[] }] 1057 2 #[13] #[{ accessFlags := 26, nameIndex := 15, descriptorIndex := 16, attributes := #[] }])
  fields := #[{ name := "serialVersionUID", type := .long, accessFlags := 26, slot := 0, constantValue := 0 }]
  methods := #[k23m0]
  instanceTypes := #[]
  staticTypes := #[.long]
  resolved := Array.replicate 37 none
  statics := none }

def pool24 : Array CpInfo := pool [(1, .class_ 2), (0, u "java/lang/constant/ConstantDesc"), (0, .class_ 4), (0, u "java/lang/Object")] 32

/-- java/lang/constant/ConstantDesc -/
def k24 : Class := { plain "java/lang/constant/ConstantDesc" (some 0) with
  accessFlags := 1537
  interfaces := #[]
  cf := some (fileOf pool24 1 #[] #[] 1537 3 #[] #[])
  fields := #[]
  methods := #[]
  instanceTypes := #[]
  staticTypes := #[]
  resolved := Array.replicate 37 none
  statics := none }

def pool25 : Array CpInfo := pool [(1, .class_ 2), (0, u "java/lang/Long"), (15, .class_ 20), (1, u "java/lang/Integer"), (79, u "numberOfLeadingZeros"), (0, u "(J)I"), (133, .class_ 237), (1, u "java/lang/Long$LongCache"), (33, .class_ 272), (0, u "java/lang/Number"), (2, u "value"), (0, u "J"), (31, .methodref 18 309), (0, .nameAndType 100 310), (0, u "(I)I"), (50, u "TYPE"), (0, u "Ljava/lang/Class;"), (0, .class_ 364), (0, u "java/lang/Comparable"), (0, .class_ 366), (0, u "java/lang/constant/Constable"), (0, .class_ 368), (0, u "java/lang/constant/ConstantDesc"), (0, u "MIN_VALUE"), (1, u "MAX_VALUE"), (4, u "SIZE"), (0, u "I"), (1, u "BYTES"), (1, u "serialVersionUID")] 142

def k25c0 : Code := { maxStack := 3, maxLocals := 3, code := jdk_35_method_48_code, exceptionTable := #[], attributes := #[] }
def k25m0 : Method := { name := "numberOfLeadingZeros", desc := "(J)I", sig := { parameters := [.long], returnType := some .int }, accessFlags := 9, code := some k25c0 }
/-- java/lang/Long -/
def k25 : Class := { plain "java/lang/Long" (some 23) with
  accessFlags := 49
  interfaces := #[15, 14, 24]
  cf := some (fileOf pool25 1 #[.nestMembers #[235]] #[{ accessFlags := 9, nameIndex := 100, descriptorIndex := 101, attributes := #[] }] 49 271 #[363, 365, 367] #[{ accessFlags := 25, nameIndex := 369, descriptorIndex := 276, attributes := #[] }, { accessFlags := 25, nameIndex := 371, descriptorIndex := 276, attributes := #[] }, { accessFlags := 25, nameIndex := 361, descriptorIndex := 362, attributes := #[] }, { accessFlags := 18, nameIndex := 275, descriptorIndex := 276, attributes := #[] }, { accessFlags := 25, nameIndex := 376, descriptorIndex := 377, attributes := #[] }, { accessFlags := 25, nameIndex := 379, descriptorIndex := 377, attributes := #[] }, { accessFlags := 26, nameIndex := 381, descriptorIndex := 276, attributes := #[] }])
  fields := #[{ name := "MIN_VALUE", type := .long, accessFlags := 25, slot := 0, constantValue := 0 }, { name := "MAX_VALUE", type := .long, accessFlags := 25, slot := 1, constantValue := 0 }, { name := "TYPE", type := (.object "java/lang/Class"), accessFlags := 25, slot := 2, constantValue := 0 }, { name := "value", type := .long, accessFlags := 18, slot := 0, constantValue := 0 }, { name := "SIZE", type := .int, accessFlags := 25, slot := 3, constantValue := 0 }, { name := "BYTES", type := .int, accessFlags := 25, slot := 4, constantValue := 0 }, { name := "serialVersionUID", type := .long, accessFlags := 26, slot := 5, constantValue := 0 }]
  methods := #[k25m0]
  instanceTypes := #[.long]
  staticTypes := #[.long, .long, (.object "java/lang/Class"), .int, .int, .long]
  resolved := Array.replicate 524 none
  statics := none }

def pool26 : Array CpInfo := pool [(1, .class_ 2), (0, u "java/lang/Integer"), (16, u "digits"), (0, u "[C"), (32, u "numberOfLeadingZeros"), (0, u "(I)I"), (30, u "DigitOnes"), (0, u "[B"), (2, u "DigitTens"), (99, .class_ 190), (0, u "java/lang/Integer$IntegerCache"), (3, u "I"), (8, .class_ 204), (0, u "java/lang/Number"), (2, u "value"), (56, .integer 65536), (37, u "TYPE"), (0, u "Ljava/lang/Class;"), (0, .class_ 305), (0, u "java/lang/Comparable"), (0, .class_ 307), (0, u "java/lang/constant/Constable"), (0, .class_ 309), (0, u "java/lang/constant/ConstantDesc"), (0, u "MIN_VALUE"), (1, u "MAX_VALUE"), (3, u "SIZE"), (1, u "BYTES"), (1, u "serialVersionUID"), (0, u "J")] 131

def k26c0 : Code := { maxStack := 3, maxLocals := 2, code := jdk_33_method_47_code, exceptionTable := #[], attributes := #[] }
def k26m0 : Method := { name := "numberOfLeadingZeros", desc := "(I)I", sig := { parameters := [.int], returnType := some .int }, accessFlags := 9, code := some k26c0 }
/-- java/lang/Integer -/
def k26 : Class := { plain "java/lang/Integer" (some 23) with
  accessFlags := 49
  interfaces := #[15, 14, 24]
  cf := some (fileOf pool26 1 #[.nestMembers #[189]] #[{ accessFlags := 9, nameIndex := 53, descriptorIndex := 54, attributes := #[] }] 49 203 #[304, 306, 308] #[{ accessFlags := 25, nameIndex := 310, descriptorIndex := 194, attributes := #[] }, { accessFlags := 25, nameIndex := 312, descriptorIndex := 194, attributes := #[] }, { accessFlags := 25, nameIndex := 302, descriptorIndex := 303, attributes := #[] }, { accessFlags := 24, nameIndex := 19, descriptorIndex := 20, attributes := #[] }, { accessFlags := 24, nameIndex := 89, descriptorIndex := 86, attributes := #[] }, { accessFlags := 24, nameIndex := 85, descriptorIndex := 86, attributes := #[] }, { accessFlags := 18, nameIndex := 207, descriptorIndex := 194, attributes := #[] }, { accessFlags := 25, nameIndex := 316, descriptorIndex := 194, attributes := #[] }, { accessFlags := 25, nameIndex := 318, descriptorIndex := 194, attributes := #[] }, { accessFlags := 26, nameIndex := 320, descriptorIndex := 321, attributes := #[] }])
  fields := #[{ name := "MIN_VALUE", type := .int, accessFlags := 25, slot := 0, constantValue := 0 }, { name := "MAX_VALUE", type := .int, accessFlags := 25, slot := 1, constantValue := 0 }, { name := "TYPE", type := (.object "java/lang/Class"), accessFlags := 25, slot := 2, constantValue := 0 }, { name := "digits", type := (.array .char), accessFlags := 24, slot := 3, constantValue := 0 }, { name := "DigitTens", type := (.array .byte), accessFlags := 24, slot := 4, constantValue := 0 }, { name := "DigitOnes", type := (.array .byte), accessFlags := 24, slot := 5, constantValue := 0 }, { name := "value", type := .int, accessFlags := 18, slot := 0, constantValue := 0 }, { name := "SIZE", type := .int, accessFlags := 25, slot := 6, constantValue := 0 }, { name := "BYTES", type := .int, accessFlags := 25, slot := 7, constantValue := 0 }, { name := "serialVersionUID", type := .long, accessFlags := 26, slot := 8, constantValue := 0 }]
  methods := #[k26m0]
  instanceTypes := #[.int]
  staticTypes := #[.int, .int, (.object "java/lang/Class"), (.array .char), (.array .byte), (.array .byte), .int, .int, .long]
  resolved := Array.replicate 453 none
  statics := none }

def pool27 : Array CpInfo := pool [(2, .class_ 4), (1, u "java/lang/Object"), (0, u "<init>"), (0, u "()V"), (1, .class_ 10), (1, u "java/lang/System"), (0, u "allowSecurityManager"), (0, u "I"), (16, u "cons"), (0, u "Ljava/io/Console;"), (77, .class_ 110), (1, u "java/lang/System$CallersHolder"), (43, u "initialErrStream"), (0, u "Ljava/io/PrintStream;"), (19, u "security"), (0, u "Ljava/lang/SecurityManager;"), (31, .class_ 209), (0, u "java/lang/System$1"), (7, u "props"), (0, u "Ljava/util/Properties;"), (2, u "lineSeparator"), (0, u "Ljava/lang/String;"), (96, .class_ 321), (1, u "java/lang/System$LoggerFinder"), (5, .class_ 328), (0, u "java/lang/System$Logger"), (67, u "err"), (2, u "out"), (91, u "notSupportedJnuEncoding"), (15, u "in"), (17, u "initialIn"), (0, u "Ljava/io/InputStream;"), (35, u "bootLayer"), (0, u "Ljava/lang/ModuleLayer;"), (99, .class_ 664), (0, u "java/lang/System$2"), (9, u "NEVER"), (2, u "MAYBE"), (49, u "arraycopy"), (0, u "(Ljava/lang/Object;ILjava/lang/Object;II)V"), (72, .class_ 802), (0, u "java/lang/System$Logger$Level")] 31

def k27m0 : Method := { name := "<init>", desc := "()V", sig := { parameters := [], returnType := none }, accessFlags := 2, code := none }
def k27m1 : Method := { name := "arraycopy", desc := "(Ljava/lang/Object;ILjava/lang/Object;II)V", sig := { parameters := [(.object "java/lang/Object"), .int, (.object "java/lang/Object"), .int, .int], returnType := none }, accessFlags := 265, code := none }
/-- java/lang/System -/
def k27 : Class := { plain "java/lang/System" (some 0) with
  accessFlags := 49
  interfaces := #[]
  cf := some (fileOf pool27 8 #[.nestMembers #[319, 327, 801, 108, 663, 208]] #[{ accessFlags := 2, nameIndex := 5, descriptorIndex := 6, attributes := #[] }, { accessFlags := 265, nameIndex := 727, descriptorIndex := 728, attributes := #[] }] 49 2 #[] #[{ accessFlags := 25, nameIndex := 507, descriptorIndex := 526, attributes := #[] }, { accessFlags := 25, nameIndex := 399, descriptorIndex := 155, attributes := #[] }, { accessFlags := 25, nameIndex := 396, descriptorIndex := 155, attributes := #[] }, { accessFlags := 10, nameIndex := 525, descriptorIndex := 526, attributes := #[] }, { accessFlags := 26, nameIndex := 674, descriptorIndex := 12, attributes := #[] }, { accessFlags := 26, nameIndex := 677, descriptorIndex := 12, attributes := #[] }, { accessFlags := 10, nameIndex := 11, descriptorIndex := 12, attributes := #[] }, { accessFlags := 74, nameIndex := 175, descriptorIndex := 176, attributes := #[] }, { accessFlags := 10, nameIndex := 491, descriptorIndex := 222, attributes := #[] }, { accessFlags := 74, nameIndex := 29, descriptorIndex := 30, attributes := #[] }, { accessFlags := 74, nameIndex := 154, descriptorIndex := 155, attributes := #[] }, { accessFlags := 10, nameIndex := 217, descriptorIndex := 218, attributes := #[] }, { accessFlags := 10, nameIndex := 221, descriptorIndex := 222, attributes := #[] }, { accessFlags := 8, nameIndex := 562, descriptorIndex := 563, attributes := #[] }])
  fields := #[{ name := "in", type := (.object "java/io/InputStream"), accessFlags := 25, slot := 0, constantValue := 0 }, { name := "out", type := (.object "java/io/PrintStream"), accessFlags := 25, slot := 1, constantValue := 0 }, { name := "err", type := (.object "java/io/PrintStream"), accessFlags := 25, slot := 2, constantValue := 0 }, { name := "initialIn", type := (.object "java/io/InputStream"), accessFlags := 10, slot := 3, constantValue := 0 }, { name := "NEVER", type := .int, accessFlags := 26, slot := 4, constantValue := 0 }, { name := "MAYBE", type := .int, accessFlags := 26, slot := 5, constantValue := 0 }, { name := "allowSecurityManager", type := .int, accessFlags := 10, slot := 6, constantValue := 0 }, { name := "security", type := (.object "java/lang/SecurityManager"), accessFlags := 74, slot := 7, constantValue := 0 }, { name := "notSupportedJnuEncoding", type := (.object "java/lang/String"), accessFlags := 10, slot := 8, constantValue := 0 }, { name := "cons", type := (.object "java/io/Console"), accessFlags := 74, slot := 9, constantValue := 0 }, { name := "initialErrStream", type := (.object "java/io/PrintStream"), accessFlags := 74, slot := 10, constantValue := 0 }, { name := "props", type := (.object "java/util/Properties"), accessFlags := 10, slot := 11, constantValue := 0 }, { name := "lineSeparator", type := (.object "java/lang/String"), accessFlags := 10, slot := 12, constantValue := 0 }, { name := "bootLayer", type := (.object "java/lang/ModuleLayer"), accessFlags := 8, slot := 13, constantValue := 0 }]
  methods := #[k27m0, k27m1]
  instanceTypes := #[]
  staticTypes := #[(.object "java/io/InputStream"), (.object "java/io/PrintStream"), (.object "java/io/PrintStream"), (.object "java/io/InputStream"), .int, .int, .int, (.object "java/lang/SecurityManager"), (.object "java/lang/String"), (.object "java/io/Console"), (.object "java/io/PrintStream"), (.object "java/util/Properties"), (.object "java/lang/String"), (.object "java/lang/ModuleLayer")]
  resolved := Array.replicate 834 none
  statics := none }

/-- the primitive byte -/
def k28 : Class := { plain "byte" none with kind := .primitive 'B', accessFlags := 0x411 }
/-- [B -/
def k29 : Class := { plain "[B" (some 0) with kind := .array 28 .byte, interfaces := #[9, 10], accessFlags := 1041 }

/-- the primitive int -/
def k30 : Class := { plain "int" none with kind := .primitive 'I', accessFlags := 0x411 }
/-- [I -/
def k31 : Class := { plain "[I" (some 0) with kind := .array 30 .int, interfaces := #[9, 10], accessFlags := 1041 }

/-- the primitive long -/
def k32 : Class := { plain "long" none with kind := .primitive 'J', accessFlags := 0x411 }
/-- [J -/
def k33 : Class := { plain "[J" (some 0) with kind := .array 32 .long, interfaces := #[9, 10], accessFlags := 1041 }

/-- [Ljava/lang/Object; -/
def k34 : Class := { plain "[Ljava/lang/Object;" (some 0) with kind := .array 0 (.object "java/lang/Object"), interfaces := #[9, 10], accessFlags := 1041 }

def heap : Heap := #[{ cls := 11, slots := #[.long 0, .int 0, .ref 3, .ref 4], vm := .statics 11 },
  { cls := 17, slots := #[.ref 2, .null, .null, .null], vm := .statics 17 },
  { cls := 17, slots := #[.null, .int 0, .int 0, .null], vm := .none },
  { cls := 34, slots := #[], vm := .none },
  { cls := 34, slots := #[], vm := .none }]
def classes : Array Class := #[k0, k1, k2, k3, k4, k5, k6, k7, k8, k9, k10, k11, k12, k13, k14, k15, k16, k17, k18, k19, k20, k21, k22, k23, k24, k25, k26, k27, k28, k29, k30, k31, k32, k33, k34]
def interned : List (Array UInt16 × Addr) := []
def slotsUsed : Nat := 12
def theMethod : MethodId := ⟨1, 4⟩
def args0 : Array Value := #[.long 5, .long 6, .long 7, .long 1, .long 2, .int 3]
def aboutOver (below : List Frame) : State where
  vm := { classes := classes, interned := interned.toArray }
  heap := heap
  slotsUsed := slotsUsed
  threads := #[{ frames := .invoking theMethod args0 :: below }]
def below0 : List Frame := [.native { method := ⟨0, 0⟩, args := #[] }]
def about1 : State := aboutOver below0
def p0 : Program := .bare "" "" ""
def e0 : Env := launch0.env 0 0 0
theorem w_frames : about1.frames = Frame.invoking theMethod args0 :: below0 := rfl
set_option maxRecDepth 65536 in
theorem w_args : argsFit about1.vm theMethod args0 = true := by decide +kernel
set_option maxRecDepth 65536 in
theorem w_heap : heapFits about1 = true := by decide +kernel
set_option maxRecDepth 65536 in
theorem w_runnable : about1.curStatus? = some .runnable := by decide +kernel
set_option maxRecDepth 65536 in
theorem w_alone : about1.alone = true := by decide +kernel
set_option maxRecDepth 65536 in
theorem w_named : about1.methodNamed? x = some theMethod := by decide +kernel
set_option maxRecDepth 65536 in
theorem w_hears : about1.hears theMethod below0 = true := by decide +kernel
set_option maxRecDepth 65536 in
theorem w_ripe : about1.ripe theMethod args0 below0 = true := by decide +kernel
theorem w_running : about1.status = .running := rfl
set_option maxRecDepth 65536 in
theorem w_room : about1.hasRoom e0.platform room_1 = true :=
  launch0.hasRoom_least _ room_1 (by decide +kernel) (by decide +kernel) (by decide +kernel) (by decide +kernel) (by decide +kernel) (by decide +kernel)
theorem allAtoms_all (ts : List Jvm.Cond) (a : Array Jvm.Value) (st : Jvm.State) : (allAtoms ts).before a st = ts.all (fun c => c.before a st) := by
  induction ts with
  | nil => rfl
  | cons c t ih =>
    show (Jvm.Cond.and c (allAtoms t)).before a st = _
    rw [Jvm.Cond.before_and, ih, List.all_cons]
def words1 : List Jvm.Cond := Jvm.Cond.code x code maxLocals ret :: tables_1
/-- a 'code' word, met by the world's own term for the bytes: nothing is compared byte by byte -/
theorem code_word {y : MethodName} {bytes : ByteArray} {mx : Nat} {rt : Option FieldType} {a : Array Value} {s : State} {m : MethodId} {meth : Method} {c : Code} (h1 : s.methodNamed? y = some m) (h2 : s.vm.method? m = some meth) (h3 : meth.code = some c) (h4 : c.code = bytes)
    (h5 : (c.maxLocals == mx && c.exceptionTable.isEmpty && decide (c.maxStack ≤ mostOperands) && decide (meth.sig.returnType = rt) && !meth.locks && decide (parseMethodDescriptor y.desc = some meth.sig)) = true) : (Jvm.Cond.code y bytes mx rt).before a s = true := by
  simp only [Bool.and_eq_true, beq_iff_eq, Bool.not_eq_true', decide_eq_true_eq] at h5
  obtain ⟨⟨⟨⟨⟨g1, g2⟩, g3⟩, g4⟩, g5⟩, g6⟩ := h5
  simp [Cond.before, Cond.holds, Cond.value, h1, h2, h3, h4, g1, g2, g3, g4, g5, g6]
def isCode : Jvm.Cond → Bool
  | .code _ _ _ _ => true
  | _ => false
theorem all_split {L : List Jvm.Cond} {P : Jvm.Cond → Bool} (h1 : L.all (fun c => isCode c || P c) = true) (h2 : ∀ c ∈ L.filter isCode, P c = true) : L.all P = true := by
  refine List.all_eq_true.mpr fun c hc => ?_
  have h := List.all_eq_true.mp h1 c hc
  rcases Bool.eq_false_or_eq_true (isCode c) with hi | hi
  · exact h2 c (List.mem_filter.mpr ⟨hc, hi⟩)
  · simpa [hi] using h
set_option maxRecDepth 65536 in
theorem w_c0 : (Jvm.Cond.code x code maxLocals ret).before args0 about1 = true := code_word (m := ⟨1, 4⟩) (meth := k1m4) (c := k1c4) (by decide +kernel) rfl rfl rfl (by decide +kernel)
set_option maxRecDepth 65536 in
theorem w_c1 : (Jvm.Cond.code ({ cls := "com/example/ryazan/ryazan/statespace/StateStoreSetPinLaw", name := "low", desc := "(J)I" } : Jvm.MethodName) method_2_code (2 : Nat) (Option.some Jvm.ClassFile.FieldType.int)).before args0 about1 = true := code_word (m := ⟨1, 1⟩) (meth := k1m1) (c := k1c1) (by decide +kernel) rfl rfl rfl (by decide +kernel)
set_option maxRecDepth 65536 in
theorem w_c2 : (Jvm.Cond.code ({ cls := "com/example/ryazan/ryazan/statespace/StateStoreSetPinLaw", name := "high", desc := "(J)I" } : Jvm.MethodName) method_3_code (8 : Nat) (Option.some Jvm.ClassFile.FieldType.int)).before args0 about1 = true := code_word (m := ⟨1, 2⟩) (meth := k1m2) (c := k1c2) (by decide +kernel) rfl rfl rfl (by decide +kernel)
set_option maxRecDepth 65536 in
theorem w_c3 : (Jvm.Cond.code ({ cls := "java/util/ArrayList", name := "<init>", desc := "()V" } : Jvm.MethodName) jdk_38_method_2_code (1 : Nat) (Option.none : Option Jvm.ClassFile.FieldType)).before args0 about1 = true := code_word (m := ⟨11, 0⟩) (meth := k11m0) (c := k11c0) (by decide +kernel) rfl rfl rfl (by decide +kernel)
set_option maxRecDepth 65536 in
theorem w_c4 : (Jvm.Cond.code ({ cls := "java/util/AbstractList", name := "<init>", desc := "()V" } : Jvm.MethodName) jdk_39_method_1_code (1 : Nat) (Option.none : Option Jvm.ClassFile.FieldType)).before args0 about1 = true := code_word (m := ⟨7, 0⟩) (meth := k7m0) (c := k7c0) (by decide +kernel) rfl rfl rfl (by decide +kernel)
set_option maxRecDepth 65536 in
theorem w_c5 : (Jvm.Cond.code ({ cls := "java/util/AbstractCollection", name := "<init>", desc := "()V" } : Jvm.MethodName) jdk_22_method_1_code (1 : Nat) (Option.none : Option Jvm.ClassFile.FieldType)).before args0 about1 = true := code_word (m := ⟨4, 0⟩) (meth := k4m0) (c := k4c0) (by decide +kernel) rfl rfl rfl (by decide +kernel)
set_option maxRecDepth 65536 in
theorem w_c6 : (Jvm.Cond.code ({ cls := "java/lang/Object", name := "<init>", desc := "()V" } : Jvm.MethodName) object_method_1_code (1 : Nat) (Option.none : Option Jvm.ClassFile.FieldType)).before args0 about1 = true := code_word (m := ⟨0, 0⟩) (meth := k0m0) (c := k0c0) (by decide +kernel) rfl rfl rfl (by decide +kernel)
set_option maxRecDepth 65536 in
theorem w_c7 : (Jvm.Cond.code ({ cls := "com/example/ryazan/ryazan/model/Model$Variable", name := "<init>", desc := "(Ljava/lang/String;Lcom/example/ryazan/ryazan/lang/Type;IIILcom/example/ryazan/ryazan/lang/SourcePosition;)V" } : Jvm.MethodName) prog_172_method_1_code (7 : Nat) (Option.none : Option Jvm.ClassFile.FieldType)).before args0 about1 = true := code_word (m := ⟨13, 0⟩) (meth := k13m0) (c := k13c0) (by decide +kernel) rfl rfl rfl (by decide +kernel)
set_option maxRecDepth 65536 in
theorem w_c8 : (Jvm.Cond.code ({ cls := "java/lang/Record", name := "<init>", desc := "()V" } : Jvm.MethodName) jdk_30_method_1_code (1 : Nat) (Option.none : Option Jvm.ClassFile.FieldType)).before args0 about1 = true := code_word (m := ⟨12, 0⟩) (meth := k12m0) (c := k12c0) (by decide +kernel) rfl rfl rfl (by decide +kernel)
set_option maxRecDepth 65536 in
theorem w_c9 : (Jvm.Cond.code ({ cls := "java/util/ArrayList", name := "add", desc := "(Ljava/lang/Object;)Z" } : Jvm.MethodName) jdk_38_method_25_code (2 : Nat) (Option.some Jvm.ClassFile.FieldType.boolean)).before args0 about1 = true := code_word (m := ⟨11, 7⟩) (meth := k11m7) (c := k11c7) (by decide +kernel) rfl rfl rfl (by decide +kernel)
set_option maxRecDepth 65536 in
theorem w_c10 : (Jvm.Cond.code ({ cls := "java/util/ArrayList", name := "add", desc := "(Ljava/lang/Object;[Ljava/lang/Object;I)V" } : Jvm.MethodName) jdk_38_method_24_code (4 : Nat) (Option.none : Option Jvm.ClassFile.FieldType)).before args0 about1 = true := code_word (m := ⟨11, 6⟩) (meth := k11m6) (c := k11c6) (by decide +kernel) rfl rfl rfl (by decide +kernel)
set_option maxRecDepth 65536 in
theorem w_c11 : (Jvm.Cond.code ({ cls := "java/util/ArrayList", name := "grow", desc := "()[Ljava/lang/Object;" } : Jvm.MethodName) jdk_38_method_7_code (1 : Nat) (Option.some (Jvm.ClassFile.FieldType.array (Jvm.ClassFile.FieldType.object "java/lang/Object")))).before args0 about1 = true := code_word (m := ⟨11, 2⟩) (meth := k11m2) (c := k11c2) (by decide +kernel) rfl rfl rfl (by decide +kernel)
set_option maxRecDepth 65536 in
theorem w_c12 : (Jvm.Cond.code ({ cls := "java/util/ArrayList", name := "grow", desc := "(I)[Ljava/lang/Object;" } : Jvm.MethodName) jdk_38_method_6_code (4 : Nat) (Option.some (Jvm.ClassFile.FieldType.array (Jvm.ClassFile.FieldType.object "java/lang/Object")))).before args0 about1 = true := code_word (m := ⟨11, 1⟩) (meth := k11m1) (c := k11c1) (by decide +kernel) rfl rfl rfl (by decide +kernel)
set_option maxRecDepth 65536 in
theorem w_c13 : (Jvm.Cond.code ({ cls := "java/lang/Math", name := "max", desc := "(II)I" } : Jvm.MethodName) jdk_29_method_65_code (2 : Nat) (Option.some Jvm.ClassFile.FieldType.int)).before args0 about1 = true := code_word (m := ⟨18, 3⟩) (meth := k18m3) (c := k18c3) (by decide +kernel) rfl rfl rfl (by decide +kernel)
set_option maxRecDepth 65536 in
theorem w_c14 : (Jvm.Cond.code ({ cls := "com/example/ryazan/ryazan/statespace/StateStore", name := "<init>", desc := "(Ljava/util/List;)V" } : Jvm.MethodName) prog_197_method_1_code (10 : Nat) (Option.none : Option Jvm.ClassFile.FieldType)).before args0 about1 = true := code_word (m := ⟨19, 0⟩) (meth := k19m0) (c := k19c0) (by decide +kernel) rfl rfl rfl (by decide +kernel)
set_option maxRecDepth 65536 in
theorem w_c15 : (Jvm.Cond.code ({ cls := "com/example/ryazan/ryazan/statespace/StateStore", name := "emptyTable", desc := "(I)[I" } : Jvm.MethodName) prog_197_method_24_code (2 : Nat) (Option.some (Jvm.ClassFile.FieldType.array Jvm.ClassFile.FieldType.int))).before args0 about1 = true := code_word (m := ⟨19, 12⟩) (meth := k19m12) (c := k19c12) (by decide +kernel) rfl rfl rfl (by decide +kernel)
set_option maxRecDepth 65536 in
theorem w_c16 : (Jvm.Cond.code ({ cls := "java/lang/Math", name := "toIntExact", desc := "(J)I" } : Jvm.MethodName) jdk_29_method_43_code (2 : Nat) (Option.some Jvm.ClassFile.FieldType.int)).before args0 about1 = true := code_word (m := ⟨18, 2⟩) (meth := k18m2) (c := k18c2) (by decide +kernel) rfl rfl rfl (by decide +kernel)
set_option maxRecDepth 65536 in
theorem w_c17 : (Jvm.Cond.code ({ cls := "java/util/Arrays", name := "fill", desc := "([II)V" } : Jvm.MethodName) jdk_65_method_103_code (4 : Nat) (Option.none : Option Jvm.ClassFile.FieldType)).before args0 about1 = true := code_word (m := ⟨20, 2⟩) (meth := k20m2) (c := k20c2) (by decide +kernel) rfl rfl rfl (by decide +kernel)
set_option maxRecDepth 65536 in
theorem w_c18 : (Jvm.Cond.code ({ cls := "java/util/ArrayList", name := "size", desc := "()I" } : Jvm.MethodName) jdk_38_method_8_code (1 : Nat) (Option.some Jvm.ClassFile.FieldType.int)).before args0 about1 = true := code_word (m := ⟨11, 3⟩) (meth := k11m3) (c := k11c3) (by decide +kernel) rfl rfl rfl (by decide +kernel)
set_option maxRecDepth 65536 in
theorem w_c19 : (Jvm.Cond.code ({ cls := "java/util/ArrayList", name := "get", desc := "(I)Ljava/lang/Object;" } : Jvm.MethodName) jdk_38_method_20_code (2 : Nat) (Option.some (Jvm.ClassFile.FieldType.object "java/lang/Object"))).before args0 about1 = true := code_word (m := ⟨11, 5⟩) (meth := k11m5) (c := k11c5) (by decide +kernel) rfl rfl rfl (by decide +kernel)
set_option maxRecDepth 65536 in
theorem w_c20 : (Jvm.Cond.code ({ cls := "java/util/Objects", name := "checkIndex", desc := "(II)I" } : Jvm.MethodName) jdk_31_method_17_code (2 : Nat) (Option.some Jvm.ClassFile.FieldType.int)).before args0 about1 = true := code_word (m := ⟨21, 1⟩) (meth := k21m1) (c := k21c1) (by decide +kernel) rfl rfl rfl (by decide +kernel)
set_option maxRecDepth 65536 in
theorem w_c21 : (Jvm.Cond.code ({ cls := "jdk/internal/util/Preconditions", name := "checkIndex", desc := "(IILjava/util/function/BiFunction;)I" } : Jvm.MethodName) jdk_41_method_11_code (3 : Nat) (Option.some Jvm.ClassFile.FieldType.int)).before args0 about1 = true := code_word (m := ⟨22, 1⟩) (meth := k22m1) (c := k22c1) (by decide +kernel) rfl rfl rfl (by decide +kernel)
set_option maxRecDepth 65536 in
theorem w_c22 : (Jvm.Cond.code ({ cls := "java/util/ArrayList", name := "elementData", desc := "(I)Ljava/lang/Object;" } : Jvm.MethodName) jdk_38_method_18_code (2 : Nat) (Option.some (Jvm.ClassFile.FieldType.object "java/lang/Object"))).before args0 about1 = true := code_word (m := ⟨11, 4⟩) (meth := k11m4) (c := k11c4) (by decide +kernel) rfl rfl rfl (by decide +kernel)
set_option maxRecDepth 65536 in
theorem w_c23 : (Jvm.Cond.code ({ cls := "com/example/ryazan/ryazan/model/Model$Variable", name := "high", desc := "()I" } : Jvm.MethodName) prog_172_method_10_code (1 : Nat) (Option.some Jvm.ClassFile.FieldType.int)).before args0 about1 = true := code_word (m := ⟨13, 2⟩) (meth := k13m2) (c := k13c2) (by decide +kernel) rfl rfl rfl (by decide +kernel)
set_option maxRecDepth 65536 in
theorem w_c24 : (Jvm.Cond.code ({ cls := "com/example/ryazan/ryazan/model/Model$Variable", name := "low", desc := "()I" } : Jvm.MethodName) prog_172_method_9_code (1 : Nat) (Option.some Jvm.ClassFile.FieldType.int)).before args0 about1 = true := code_word (m := ⟨13, 1⟩) (meth := k13m1) (c := k13c1) (by decide +kernel) rfl rfl rfl (by decide +kernel)
set_option maxRecDepth 65536 in
theorem w_c25 : (Jvm.Cond.code ({ cls := "java/lang/Long", name := "numberOfLeadingZeros", desc := "(J)I" } : Jvm.MethodName) jdk_35_method_48_code (3 : Nat) (Option.some Jvm.ClassFile.FieldType.int)).before args0 about1 = true := code_word (m := ⟨25, 0⟩) (meth := k25m0) (c := k25c0) (by decide +kernel) rfl rfl rfl (by decide +kernel)
set_option maxRecDepth 65536 in
theorem w_c26 : (Jvm.Cond.code ({ cls := "java/lang/Integer", name := "numberOfLeadingZeros", desc := "(I)I" } : Jvm.MethodName) jdk_33_method_47_code (2 : Nat) (Option.some Jvm.ClassFile.FieldType.int)).before args0 about1 = true := code_word (m := ⟨26, 0⟩) (meth := k26m0) (c := k26c0) (by decide +kernel) rfl rfl rfl (by decide +kernel)
set_option maxRecDepth 65536 in
theorem w_c27 : (Jvm.Cond.code ({ cls := "com/example/ryazan/ryazan/statespace/StateStoreSetPinLaw", name := "within", desc := "(IIJ)I" } : Jvm.MethodName) method_4_code (6 : Nat) (Option.some Jvm.ClassFile.FieldType.int)).before args0 about1 = true := code_word (m := ⟨1, 3⟩) (meth := k1m3) (c := k1c3) (by decide +kernel) rfl rfl rfl (by decide +kernel)
set_option maxRecDepth 65536 in
theorem w_c28 : (Jvm.Cond.code ({ cls := "com/example/ryazan/ryazan/statespace/StateStore", name := "add", desc := "([I)I" } : Jvm.MethodName) prog_197_method_5_code (2 : Nat) (Option.some Jvm.ClassFile.FieldType.int)).before args0 about1 = true := code_word (m := ⟨19, 1⟩) (meth := k19m1) (c := k19c1) (by decide +kernel) rfl rfl rfl (by decide +kernel)
set_option maxRecDepth 65536 in
theorem w_c29 : (Jvm.Cond.code ({ cls := "com/example/ryazan/ryazan/statespace/StateStore", name := "placeAgain", desc := "()V" } : Jvm.MethodName) prog_197_method_9_code (1 : Nat) (Option.none : Option Jvm.ClassFile.FieldType)).before args0 about1 = true := code_word (m := ⟨19, 2⟩) (meth := k19m2) (c := k19c2) (by decide +kernel) rfl rfl rfl (by decide +kernel)
set_option maxRecDepth 65536 in
theorem w_c30 : (Jvm.Cond.code ({ cls := "com/example/ryazan/ryazan/statespace/StateStore", name := "pack", desc := "([I)V" } : Jvm.MethodName) prog_197_method_13_code (3 : Nat) (Option.none : Option Jvm.ClassFile.FieldType)).before args0 about1 = true := code_word (m := ⟨19, 5⟩) (meth := k19m5) (c := k19c5) (by decide +kernel) rfl rfl rfl (by decide +kernel)
set_option maxRecDepth 65536 in
theorem w_c31 : (Jvm.Cond.code ({ cls := "java/util/Arrays", name := "fill", desc := "([JJ)V" } : Jvm.MethodName) jdk_65_method_101_code (5 : Nat) (Option.none : Option Jvm.ClassFile.FieldType)).before args0 about1 = true := code_word (m := ⟨20, 1⟩) (meth := k20m1) (c := k20c1) (by decide +kernel) rfl rfl rfl (by decide +kernel)
set_option maxRecDepth 65536 in
theorem w_c32 : (Jvm.Cond.code ({ cls := "com/example/ryazan/ryazan/statespace/StateStore", name := "hash", desc := "([JI)I" } : Jvm.MethodName) prog_197_method_25_code (6 : Nat) (Option.some Jvm.ClassFile.FieldType.int)).before args0 about1 = true := code_word (m := ⟨19, 13⟩) (meth := k19m13) (c := k19c13) (by decide +kernel) rfl rfl rfl (by decide +kernel)
set_option maxRecDepth 65536 in
theorem w_c33 : (Jvm.Cond.code ({ cls := "com/example/ryazan/ryazan/statespace/StateStore", name := "add", desc := "([JII)I" } : Jvm.MethodName) prog_197_method_16_code (7 : Nat) (Option.some Jvm.ClassFile.FieldType.int)).before args0 about1 = true := code_word (m := ⟨19, 6⟩) (meth := k19m6) (c := k19c6) (by decide +kernel) rfl rfl rfl (by decide +kernel)
set_option maxRecDepth 65536 in
theorem w_c34 : (Jvm.Cond.code ({ cls := "com/example/ryazan/ryazan/statespace/StateStore", name := "slot", desc := "([JII)I" } : Jvm.MethodName) prog_197_method_17_code (6 : Nat) (Option.some Jvm.ClassFile.FieldType.int)).before args0 about1 = true := code_word (m := ⟨19, 7⟩) (meth := k19m7) (c := k19c7) (by decide +kernel) rfl rfl rfl (by decide +kernel)
set_option maxRecDepth 65536 in
theorem w_c35 : (Jvm.Cond.code ({ cls := "java/lang/Math", name := "multiplyExact", desc := "(II)I" } : Jvm.MethodName) jdk_29_method_28_code (4 : Nat) (Option.some Jvm.ClassFile.FieldType.int)).before args0 about1 = true := code_word (m := ⟨18, 1⟩) (meth := k18m1) (c := k18c1) (by decide +kernel) rfl rfl rfl (by decide +kernel)
set_option maxRecDepth 65536 in
theorem w_c36 : (Jvm.Cond.code ({ cls := "java/util/Arrays", name := "copyOf", desc := "([JI)[J" } : Jvm.MethodName) jdk_65_method_124_code (3 : Nat) (Option.some (Jvm.ClassFile.FieldType.array Jvm.ClassFile.FieldType.long))).before args0 about1 = true := code_word (m := ⟨20, 3⟩) (meth := k20m3) (c := k20c3) (by decide +kernel) rfl rfl rfl (by decide +kernel)
set_option maxRecDepth 65536 in
theorem w_c37 : (Jvm.Cond.code ({ cls := "java/lang/Math", name := "min", desc := "(II)I" } : Jvm.MethodName) jdk_29_method_69_code (2 : Nat) (Option.some Jvm.ClassFile.FieldType.int)).before args0 about1 = true := code_word (m := ⟨18, 4⟩) (meth := k18m4) (c := k18c4) (by decide +kernel) rfl rfl rfl (by decide +kernel)
set_option maxRecDepth 65536 in
theorem w_c38 : (Jvm.Cond.code ({ cls := "com/example/ryazan/ryazan/statespace/StateStore", name := "entry", desc := "(II)I" } : Jvm.MethodName) prog_197_method_19_code (3 : Nat) (Option.some Jvm.ClassFile.FieldType.int)).before args0 about1 = true := code_word (m := ⟨19, 9⟩) (meth := k19m9) (c := k19c9) (by decide +kernel) rfl rfl rfl (by decide +kernel)
set_option maxRecDepth 65536 in
theorem w_c39 : (Jvm.Cond.code ({ cls := "com/example/ryazan/ryazan/statespace/StateStore", name := "key", desc := "(I[JI)V" } : Jvm.MethodName) prog_197_method_11_code (4 : Nat) (Option.none : Option Jvm.ClassFile.FieldType)).before args0 about1 = true := code_word (m := ⟨19, 3⟩) (meth := k19m3) (c := k19c3) (by decide +kernel) rfl rfl rfl (by decide +kernel)
set_option maxRecDepth 65536 in
theorem w_c40 : (Jvm.Cond.code ({ cls := "com/example/ryazan/ryazan/statespace/StateStore", name := "set", desc := "([JIII)V" } : Jvm.MethodName) prog_197_method_12_code (8 : Nat) (Option.none : Option Jvm.ClassFile.FieldType)).before args0 about1 = true := code_word (m := ⟨19, 4⟩) (meth := k19m4) (c := k19c4) (by decide +kernel) rfl rfl rfl (by decide +kernel)
set_option maxRecDepth 65536 in
theorem w_c41 : (Jvm.Cond.code ({ cls := "com/example/ryazan/ryazan/statespace/StateStore", name := "holds", desc := "(II[JI)Z" } : Jvm.MethodName) prog_197_method_18_code (7 : Nat) (Option.some Jvm.ClassFile.FieldType.boolean)).before args0 about1 = true := code_word (m := ⟨19, 8⟩) (meth := k19m8) (c := k19c8) (by decide +kernel) rfl rfl rfl (by decide +kernel)
set_option maxRecDepth 65536 in
theorem w_c42 : (Jvm.Cond.code ({ cls := "com/example/ryazan/ryazan/statespace/StateStore", name := "sharesHash", desc := "(II)Z" } : Jvm.MethodName) prog_197_method_20_code (3 : Nat) (Option.some Jvm.ClassFile.FieldType.boolean)).before args0 about1 = true := code_word (m := ⟨19, 10⟩) (meth := k19m10) (c := k19c10) (by decide +kernel) rfl rfl rfl (by decide +kernel)
set_option maxRecDepth 65536 in
theorem w_c43 : (Jvm.Cond.code ({ cls := "com/example/ryazan/ryazan/statespace/StateStore", name := "number", desc := "(I)I" } : Jvm.MethodName) prog_197_method_21_code (2 : Nat) (Option.some Jvm.ClassFile.FieldType.int)).before args0 about1 = true := code_word (m := ⟨19, 11⟩) (meth := k19m11) (c := k19c11) (by decide +kernel) rfl rfl rfl (by decide +kernel)
def codes1 : List Jvm.Cond := [Jvm.Cond.code x code maxLocals ret, Jvm.Cond.code ({ cls := "com/example/ryazan/ryazan/statespace/StateStoreSetPinLaw", name := "low", desc := "(J)I" } : Jvm.MethodName) method_2_code (2 : Nat) (Option.some Jvm.ClassFile.FieldType.int), Jvm.Cond.code ({ cls := "com/example/ryazan/ryazan/statespace/StateStoreSetPinLaw", name := "high", desc := "(J)I" } : Jvm.MethodName) method_3_code (8 : Nat) (Option.some Jvm.ClassFile.FieldType.int), Jvm.Cond.code ({ cls := "java/util/ArrayList", name := "<init>", desc := "()V" } : Jvm.MethodName) jdk_38_method_2_code (1 : Nat) (Option.none : Option Jvm.ClassFile.FieldType), Jvm.Cond.code ({ cls := "java/util/AbstractList", name := "<init>", desc := "()V" } : Jvm.MethodName) jdk_39_method_1_code (1 : Nat) (Option.none : Option Jvm.ClassFile.FieldType), Jvm.Cond.code ({ cls := "java/util/AbstractCollection", name := "<init>", desc := "()V" } : Jvm.MethodName) jdk_22_method_1_code (1 : Nat) (Option.none : Option Jvm.ClassFile.FieldType), Jvm.Cond.code ({ cls := "java/lang/Object", name := "<init>", desc := "()V" } : Jvm.MethodName) object_method_1_code (1 : Nat) (Option.none : Option Jvm.ClassFile.FieldType), Jvm.Cond.code ({ cls := "com/example/ryazan/ryazan/model/Model$Variable", name := "<init>", desc := "(Ljava/lang/String;Lcom/example/ryazan/ryazan/lang/Type;IIILcom/example/ryazan/ryazan/lang/SourcePosition;)V" } : Jvm.MethodName) prog_172_method_1_code (7 : Nat) (Option.none : Option Jvm.ClassFile.FieldType), Jvm.Cond.code ({ cls := "java/lang/Record", name := "<init>", desc := "()V" } : Jvm.MethodName) jdk_30_method_1_code (1 : Nat) (Option.none : Option Jvm.ClassFile.FieldType), Jvm.Cond.code ({ cls := "java/util/ArrayList", name := "add", desc := "(Ljava/lang/Object;)Z" } : Jvm.MethodName) jdk_38_method_25_code (2 : Nat) (Option.some Jvm.ClassFile.FieldType.boolean), Jvm.Cond.code ({ cls := "java/util/ArrayList", name := "add", desc := "(Ljava/lang/Object;[Ljava/lang/Object;I)V" } : Jvm.MethodName) jdk_38_method_24_code (4 : Nat) (Option.none : Option Jvm.ClassFile.FieldType), Jvm.Cond.code ({ cls := "java/util/ArrayList", name := "grow", desc := "()[Ljava/lang/Object;" } : Jvm.MethodName) jdk_38_method_7_code (1 : Nat) (Option.some (Jvm.ClassFile.FieldType.array (Jvm.ClassFile.FieldType.object "java/lang/Object"))), Jvm.Cond.code ({ cls := "java/util/ArrayList", name := "grow", desc := "(I)[Ljava/lang/Object;" } : Jvm.MethodName) jdk_38_method_6_code (4 : Nat) (Option.some (Jvm.ClassFile.FieldType.array (Jvm.ClassFile.FieldType.object "java/lang/Object"))), Jvm.Cond.code ({ cls := "java/lang/Math", name := "max", desc := "(II)I" } : Jvm.MethodName) jdk_29_method_65_code (2 : Nat) (Option.some Jvm.ClassFile.FieldType.int), Jvm.Cond.code ({ cls := "com/example/ryazan/ryazan/statespace/StateStore", name := "<init>", desc := "(Ljava/util/List;)V" } : Jvm.MethodName) prog_197_method_1_code (10 : Nat) (Option.none : Option Jvm.ClassFile.FieldType), Jvm.Cond.code ({ cls := "com/example/ryazan/ryazan/statespace/StateStore", name := "emptyTable", desc := "(I)[I" } : Jvm.MethodName) prog_197_method_24_code (2 : Nat) (Option.some (Jvm.ClassFile.FieldType.array Jvm.ClassFile.FieldType.int)), Jvm.Cond.code ({ cls := "java/lang/Math", name := "toIntExact", desc := "(J)I" } : Jvm.MethodName) jdk_29_method_43_code (2 : Nat) (Option.some Jvm.ClassFile.FieldType.int), Jvm.Cond.code ({ cls := "java/util/Arrays", name := "fill", desc := "([II)V" } : Jvm.MethodName) jdk_65_method_103_code (4 : Nat) (Option.none : Option Jvm.ClassFile.FieldType), Jvm.Cond.code ({ cls := "java/util/ArrayList", name := "size", desc := "()I" } : Jvm.MethodName) jdk_38_method_8_code (1 : Nat) (Option.some Jvm.ClassFile.FieldType.int), Jvm.Cond.code ({ cls := "java/util/ArrayList", name := "get", desc := "(I)Ljava/lang/Object;" } : Jvm.MethodName) jdk_38_method_20_code (2 : Nat) (Option.some (Jvm.ClassFile.FieldType.object "java/lang/Object")), Jvm.Cond.code ({ cls := "java/util/Objects", name := "checkIndex", desc := "(II)I" } : Jvm.MethodName) jdk_31_method_17_code (2 : Nat) (Option.some Jvm.ClassFile.FieldType.int), Jvm.Cond.code ({ cls := "jdk/internal/util/Preconditions", name := "checkIndex", desc := "(IILjava/util/function/BiFunction;)I" } : Jvm.MethodName) jdk_41_method_11_code (3 : Nat) (Option.some Jvm.ClassFile.FieldType.int), Jvm.Cond.code ({ cls := "java/util/ArrayList", name := "elementData", desc := "(I)Ljava/lang/Object;" } : Jvm.MethodName) jdk_38_method_18_code (2 : Nat) (Option.some (Jvm.ClassFile.FieldType.object "java/lang/Object")), Jvm.Cond.code ({ cls := "com/example/ryazan/ryazan/model/Model$Variable", name := "high", desc := "()I" } : Jvm.MethodName) prog_172_method_10_code (1 : Nat) (Option.some Jvm.ClassFile.FieldType.int), Jvm.Cond.code ({ cls := "com/example/ryazan/ryazan/model/Model$Variable", name := "low", desc := "()I" } : Jvm.MethodName) prog_172_method_9_code (1 : Nat) (Option.some Jvm.ClassFile.FieldType.int), Jvm.Cond.code ({ cls := "java/lang/Long", name := "numberOfLeadingZeros", desc := "(J)I" } : Jvm.MethodName) jdk_35_method_48_code (3 : Nat) (Option.some Jvm.ClassFile.FieldType.int), Jvm.Cond.code ({ cls := "java/lang/Integer", name := "numberOfLeadingZeros", desc := "(I)I" } : Jvm.MethodName) jdk_33_method_47_code (2 : Nat) (Option.some Jvm.ClassFile.FieldType.int), Jvm.Cond.code ({ cls := "com/example/ryazan/ryazan/statespace/StateStoreSetPinLaw", name := "within", desc := "(IIJ)I" } : Jvm.MethodName) method_4_code (6 : Nat) (Option.some Jvm.ClassFile.FieldType.int), Jvm.Cond.code ({ cls := "com/example/ryazan/ryazan/statespace/StateStore", name := "add", desc := "([I)I" } : Jvm.MethodName) prog_197_method_5_code (2 : Nat) (Option.some Jvm.ClassFile.FieldType.int), Jvm.Cond.code ({ cls := "com/example/ryazan/ryazan/statespace/StateStore", name := "placeAgain", desc := "()V" } : Jvm.MethodName) prog_197_method_9_code (1 : Nat) (Option.none : Option Jvm.ClassFile.FieldType), Jvm.Cond.code ({ cls := "com/example/ryazan/ryazan/statespace/StateStore", name := "pack", desc := "([I)V" } : Jvm.MethodName) prog_197_method_13_code (3 : Nat) (Option.none : Option Jvm.ClassFile.FieldType), Jvm.Cond.code ({ cls := "java/util/Arrays", name := "fill", desc := "([JJ)V" } : Jvm.MethodName) jdk_65_method_101_code (5 : Nat) (Option.none : Option Jvm.ClassFile.FieldType), Jvm.Cond.code ({ cls := "com/example/ryazan/ryazan/statespace/StateStore", name := "hash", desc := "([JI)I" } : Jvm.MethodName) prog_197_method_25_code (6 : Nat) (Option.some Jvm.ClassFile.FieldType.int), Jvm.Cond.code ({ cls := "com/example/ryazan/ryazan/statespace/StateStore", name := "add", desc := "([JII)I" } : Jvm.MethodName) prog_197_method_16_code (7 : Nat) (Option.some Jvm.ClassFile.FieldType.int), Jvm.Cond.code ({ cls := "com/example/ryazan/ryazan/statespace/StateStore", name := "slot", desc := "([JII)I" } : Jvm.MethodName) prog_197_method_17_code (6 : Nat) (Option.some Jvm.ClassFile.FieldType.int), Jvm.Cond.code ({ cls := "java/lang/Math", name := "multiplyExact", desc := "(II)I" } : Jvm.MethodName) jdk_29_method_28_code (4 : Nat) (Option.some Jvm.ClassFile.FieldType.int), Jvm.Cond.code ({ cls := "java/util/Arrays", name := "copyOf", desc := "([JI)[J" } : Jvm.MethodName) jdk_65_method_124_code (3 : Nat) (Option.some (Jvm.ClassFile.FieldType.array Jvm.ClassFile.FieldType.long)), Jvm.Cond.code ({ cls := "java/lang/Math", name := "min", desc := "(II)I" } : Jvm.MethodName) jdk_29_method_69_code (2 : Nat) (Option.some Jvm.ClassFile.FieldType.int), Jvm.Cond.code ({ cls := "com/example/ryazan/ryazan/statespace/StateStore", name := "entry", desc := "(II)I" } : Jvm.MethodName) prog_197_method_19_code (3 : Nat) (Option.some Jvm.ClassFile.FieldType.int), Jvm.Cond.code ({ cls := "com/example/ryazan/ryazan/statespace/StateStore", name := "key", desc := "(I[JI)V" } : Jvm.MethodName) prog_197_method_11_code (4 : Nat) (Option.none : Option Jvm.ClassFile.FieldType), Jvm.Cond.code ({ cls := "com/example/ryazan/ryazan/statespace/StateStore", name := "set", desc := "([JIII)V" } : Jvm.MethodName) prog_197_method_12_code (8 : Nat) (Option.none : Option Jvm.ClassFile.FieldType), Jvm.Cond.code ({ cls := "com/example/ryazan/ryazan/statespace/StateStore", name := "holds", desc := "(II[JI)Z" } : Jvm.MethodName) prog_197_method_18_code (7 : Nat) (Option.some Jvm.ClassFile.FieldType.boolean), Jvm.Cond.code ({ cls := "com/example/ryazan/ryazan/statespace/StateStore", name := "sharesHash", desc := "(II)Z" } : Jvm.MethodName) prog_197_method_20_code (3 : Nat) (Option.some Jvm.ClassFile.FieldType.boolean), Jvm.Cond.code ({ cls := "com/example/ryazan/ryazan/statespace/StateStore", name := "number", desc := "(I)I" } : Jvm.MethodName) prog_197_method_21_code (2 : Nat) (Option.some Jvm.ClassFile.FieldType.int)]
set_option maxRecDepth 65536 in
theorem codes_eq : words1.filter isCode = codes1 := rfl
theorem w_codes : ∀ c ∈ words1.filter isCode, c.before args0 about1 = true := by
  rw [codes_eq]
  intro c hc
  simp only [codes1, List.mem_cons, List.not_mem_nil, or_false] at hc
  rcases hc with rfl | rfl | rfl | rfl | rfl | rfl | rfl | rfl | rfl | rfl | rfl | rfl | rfl | rfl | rfl | rfl | rfl | rfl | rfl | rfl | rfl | rfl | rfl | rfl | rfl | rfl | rfl | rfl | rfl | rfl | rfl | rfl | rfl | rfl | rfl | rfl | rfl | rfl | rfl | rfl | rfl | rfl | rfl | rfl
  · exact w_c0
  · exact w_c1
  · exact w_c2
  · exact w_c3
  · exact w_c4
  · exact w_c5
  · exact w_c6
  · exact w_c7
  · exact w_c8
  · exact w_c9
  · exact w_c10
  · exact w_c11
  · exact w_c12
  · exact w_c13
  · exact w_c14
  · exact w_c15
  · exact w_c16
  · exact w_c17
  · exact w_c18
  · exact w_c19
  · exact w_c20
  · exact w_c21
  · exact w_c22
  · exact w_c23
  · exact w_c24
  · exact w_c25
  · exact w_c26
  · exact w_c27
  · exact w_c28
  · exact w_c29
  · exact w_c30
  · exact w_c31
  · exact w_c32
  · exact w_c33
  · exact w_c34
  · exact w_c35
  · exact w_c36
  · exact w_c37
  · exact w_c38
  · exact w_c39
  · exact w_c40
  · exact w_c41
  · exact w_c42
  · exact w_c43
set_option maxRecDepth 65536 in
theorem w_t1 : (words1.take 24).all (fun c => isCode c || c.before args0 about1) = true := by decide +kernel
set_option maxRecDepth 65536 in
theorem w_t2 : ((words1.drop 24).take 24).all (fun c => isCode c || c.before args0 about1) = true := by decide +kernel
set_option maxRecDepth 65536 in
theorem w_t3 : (((words1.drop 24).drop 24).take 24).all (fun c => isCode c || c.before args0 about1) = true := by decide +kernel
set_option maxRecDepth 65536 in
theorem w_t4 : ((((words1.drop 24).drop 24).drop 24).take 24).all (fun c => isCode c || c.before args0 about1) = true := by decide +kernel
set_option maxRecDepth 65536 in
theorem w_t5 : (((((words1.drop 24).drop 24).drop 24).drop 24).take 24).all (fun c => isCode c || c.before args0 about1) = true := by decide +kernel
set_option maxRecDepth 65536 in
theorem w_t6 : ((((((words1.drop 24).drop 24).drop 24).drop 24).drop 24).take 24).all (fun c => isCode c || c.before args0 about1) = true := by decide +kernel
set_option maxRecDepth 65536 in
theorem w_t7 : (((((((words1.drop 24).drop 24).drop 24).drop 24).drop 24).drop 24).take 24).all (fun c => isCode c || c.before args0 about1) = true := by decide +kernel
set_option maxRecDepth 65536 in
theorem w_t8 : ((((((((words1.drop 24).drop 24).drop 24).drop 24).drop 24).drop 24).drop 24).take 24).all (fun c => isCode c || c.before args0 about1) = true := by decide +kernel
set_option maxRecDepth 65536 in
theorem w_t9 : (((((((((words1.drop 24).drop 24).drop 24).drop 24).drop 24).drop 24).drop 24).drop 24).take 24).all (fun c => isCode c || c.before args0 about1) = true := by decide +kernel
set_option maxRecDepth 65536 in
theorem w_t10 : ((((((((((words1.drop 24).drop 24).drop 24).drop 24).drop 24).drop 24).drop 24).drop 24).drop 24).take 24).all (fun c => isCode c || c.before args0 about1) = true := by decide +kernel
set_option maxRecDepth 65536 in
theorem w_t11 : ((((((((((words1.drop 24).drop 24).drop 24).drop 24).drop 24).drop 24).drop 24).drop 24).drop 24).drop 24).all (fun c => isCode c || c.before args0 about1) = true := by decide +kernel
theorem w_tables : (allAtoms (Jvm.Cond.code x code maxLocals ret :: tables_1)).before args0 about1 = true := by
  rw [allAtoms_all]
  show words1.all (fun c => c.before args0 about1) = true
  refine all_split ?_ w_codes
  rw [← List.take_append_drop 24 words1, List.all_append, w_t1, ← List.take_append_drop 24 (words1.drop 24), List.all_append, w_t2, ← List.take_append_drop 24 ((words1.drop 24).drop 24), List.all_append, w_t3, ← List.take_append_drop 24 (((words1.drop 24).drop 24).drop 24), List.all_append, w_t4, ← List.take_append_drop 24 ((((words1.drop 24).drop 24).drop 24).drop 24), List.all_append, w_t5, ← List.take_append_drop 24 (((((words1.drop 24).drop 24).drop 24).drop 24).drop 24), List.all_append, w_t6, ← List.take_append_drop 24 ((((((words1.drop 24).drop 24).drop 24).drop 24).drop 24).drop 24), List.all_append, w_t7, ← List.take_append_drop 24 (((((((words1.drop 24).drop 24).drop 24).drop 24).drop 24).drop 24).drop 24), List.all_append, w_t8, ← List.take_append_drop 24 ((((((((words1.drop 24).drop 24).drop 24).drop 24).drop 24).drop 24).drop 24).drop 24), List.all_append, w_t9, ← List.take_append_drop 24 (((((((((words1.drop 24).drop 24).drop 24).drop 24).drop 24).drop 24).drop 24).drop 24).drop 24), List.all_append, w_t10, w_t11]
  rfl
set_option maxRecDepth 65536 in
theorem w_rest : rest_1_c.before args0 about1 = true := by decide +kernel
set_option maxRecDepth 65536 in
theorem w_case : (Jvm.Cond.and given_1 narrow_1).before args0 about1 = true := by decide +kernel
theorem w_applies : (headSpec (Jvm.Cond.code x code maxLocals ret :: tables_1) room_1).applies x e0.platform about1 = true :=
  (Spec.applies_iff w_frames).mpr ⟨w_running, w_runnable, w_alone, w_named, w_hears, w_ripe, w_room, w_tables⟩
theorem atStart : AtStart classFile x code maxLocals ret World_1 tables_1 room_1 Calls_1 rest_1 Pre_1 launch0 p0 e0 about1 theMethod args0 below0 :=
  ⟨lists_1, trivial, launch0.admits_env _ _ _, launch0.least_env, fairChoices_fair.cas, fairChoices_fair.clock, w_frames, w_args, w_heap, w_applies, trivial, w_rest, w_case⟩
end start1
theorem witness_1 : WitnessClaimed_1 := ⟨start1.p0, start1.e0, start1.about1, start1.theMethod, start1.args0, start1.below0, start1.atStart⟩
end Jvm.Pilot.@@N@@
