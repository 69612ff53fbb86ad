import JvmDerived
import JvmDerived.Pilot.@@N@@Statement
import JvmDerived.Pilot.@@N@@Code
set_option linter.unusedVariables false
set_option linter.unusedSimpArgs false
namespace Jvm.Pilot.@@N@@
open Jvm Jvm.ClassFile Sem Op Lib Jvm.Free Jvm.Stand Jvm.LawKit Jvm.RoadKit Bundle Jvm.Pilot.@@N@@.Jvm.D
/-! ## OWN KIT: a symbolic heap (Ob, Is, Hp), the place of a walk (St), what is still to run (Go), contracts (Con) -/
abbrev vI (z : Int32) : Slot := .val (.int z)
abbrev vJ (z : Int64) : Slot := .val (.long z)
abbrev vR (z : Addr) : Slot := .val (.ref z)
abbrev sc : Slot := .second
abbrev un : Slot := .unset
theorem oS {α : Type} (z : α) : Option.toList (some z) = [z] := rfl
theorem oN {α : Type} : Option.toList (none : Option α) = [] := rfl
theorem cA {α : Type} (z : α) (u v : List α) : (z :: u) ++ v = z :: (u ++ v) := rfl
theorem nA {α : Type} (u : List α) : [] ++ u = u := rfl
theorem leB {a b : Nat} (q : Nat.ble a b = true) : a ≤ b := Nat.le_of_ble_eq_true q
abbrev Ob := Sum (String × List (String × String × String) × List Value) (FieldType × List Value)
def Is (Z : State) (h : Heap) (a : Addr) : Ob → Prop
  | .inl (C, fs, vs) => Exa Z h a C ∧ ∀ (i : Nat) (f : String × String × String) (v : Value), fs[i]? = some f → vs[i]? = some v → Fld Z h a f.1 f.2.1 f.2.2 v
  | .inr (ty, vs) => ty = .object "" ∨ ∃ c : Cell, Arr Z h a c ty ∧ (∀ C, ty = .object C → Ovr Z c.cls C) ∧ c.slots = vs.toArray ∧ vs.length < 2 ^ 31 ∧ ∀ v ∈ vs, fits ty v = true
def Hp (Z : State) (h0 : Heap) (n0 : Nat) (Ls : List Ob) (h : Heap) : Prop := h0.size = n0 ∧ Ext h0 h ∧ h.size = n0 + Ls.length ∧ ∀ (k : Nat) (o : Ob), Ls[k]? = some o → Is Z h (n0 + k) o
/-- the object at the address a: one of the new ones, or one of the start's -/
def Lk (Z : State) (h0 : Heap) (n0 : Nat) (Ls : List Ob) (a : Addr) (o : Ob) : Prop := (∃ k, a = n0 + k ∧ Ls[k]? = some o) ∨ Is Z h0 a o
def St (p : Program) (l : Launch) (e : Env) (R : Room) (s : State) (m : MethodId) (args : Array Value) (below : List Frame) (meth : Method) (c : Code) (Z : State) (y : MethodName) (bytes : ByteArray) (ml : Nat) (ret : Option FieldType) (h0 : Heap) (n0 : Nat) (T : State) (Ls : List Ob) (cells slots : Nat) : Prop :=
  (p.tables.exec = Jvm.exec ∧ Z.Warmed39 s.vm ∧ s.vm.findClass y.cls = some m.cls ∧ c.code = bytes ∧ c.maxLocals = ml ∧ meth.name = y.name ∧ meth.sig.returnType = ret ∧ meth.locks = false) ∧
  ∃ locs, Stand p l e R s m args below meth c T locs cells slots ∧ Fr n0 locs ∧ Hp Z h0 n0 Ls T.heap
def Go (p : Program) (e : Env) (below : List Frame) (F : State → Outcome → Prop) (T : State) (g : JFrame) : Prop := ∃ t o, Steps p.tables e below (T.setTop g) t ∧ t.status = .running ∧ Ended t below o ∧ F t o
/-- what a method's end must be: it returns v with the heap Ls', as P says -/
def Fin1 (Z : State) (h0 : Heap) (n0 : Nat) (s : State) (rm : Room) (P : Option Value → List Ob → Prop) (t : State) (o : Outcome) : Prop :=
  ∃ v L, o = .returned v ∧ (∃ Ls', P v Ls' ∧ Fr n0 L ∧ Hp Z h0 n0 Ls' t.heap) ∧ FrameEnd s o t L rm.cells rm.slots
def Met1 (l : Launch) (Z : State) (y : MethodName) (bytes : ByteArray) (ml : Nat) (ret : Option FieldType) (rm : Room) (as' : Array Value) (h0 : Heap) (n0 : Nat) (Ls : List Ob) (P : Option Value → List Ob → Prop) (ws : List Jvm.Cond) : Prop :=
  ∀ h, Hp Z h0 n0 Ls h → MetFree l y (head1 (Cond.code y bytes ml ret :: ws) rm) (fun a U => a = as' ∧ Z.Warmed39 U.vm ∧ U.heap = h) (fun _ _ _ _ _ => True) (fun _ U o U' => ∃ v L, o = .returned v ∧ (∃ Ls', P v Ls' ∧ Fr n0 L ∧ Hp Z h0 n0 Ls' U'.heap) ∧ FrameEnd U o U' L rm.cells rm.slots)
abbrev Con (l : Launch) (Z : State) (y : MethodName) (bytes : ByteArray) (ml : Nat) (ret : Option FieldType) (rm : Room) (as' : Array Value) (h0 : Heap) (n0 : Nat) (Ls : List Ob) (P : Option Value → List Ob → Prop) : Prop := Met1 l Z y bytes ml ret rm as' h0 n0 Ls P []
/-- a class as the sheet lays it: its fields fs (owner, name, descriptor) -/
def Cls (Z : State) (a0 : Array Value) (C : String) (kk : Nat) (fs : List (String × String × String)) : Prop :=
  (Cond.instantiable C kk).before a0 Z = true ∧ (∀ (i : Nat) (f : String × String × String), fs[i]? = some f → Laid Z a0 C f.1 f.2.1 f.2.2 ∧ ∃ t, parseFieldDescriptor f.2.2 = some t) ∧ ∀ (i j : Nat) (f g : String × String × String), fs[i]? = some f → fs[j]? = some g → f.2.1 = g.2.1 → i = j
section Own
variable {p : Program} {l : Launch} {e : Env} {R : Room} {s : State} {m : MethodId} {args : Array Value} {below : List Frame} {meth : Method} {c : Code} {Z : State} {a0 : Array Value} {y : MethodName} {bytes : ByteArray} {ml : Nat} {ret : Option FieldType} {h0 h h' : Heap} {n0 : Nat} {T T' : State} {Ls Ls' : List Ob} {cells slots : Nat} {F : State → Outcome → Prop} {g g' : JFrame} {pc pc' : Nat} {ls : Array Slot} {st rest : List Value} {a b : Addr} {sl : Nat} {v : Value} {o : Ob}
theorem Is.ext (E : Ext h h') (q : Is Z h a o) : Is Z h' a o := by
  rcases o with ⟨C, fs, vs⟩ | ⟨ty, vs⟩
  · exact ⟨q.1.ext E, fun i f v h1 h2 => (q.2 i f v h1 h2).ext E⟩
  · exact q.imp id fun ⟨c, A, r⟩ => ⟨c, A.ext E, r⟩
theorem Is.other (W : Wr h h' b sl v) (q : Is Z h a o) (ne : a ≠ b) : Is Z h' a o := by
  rcases o with ⟨C, fs, vs⟩ | ⟨ty, vs⟩
  · exact ⟨q.1.wr W, fun i f v h1 h2 => (q.2 i f v h1 h2).other W (Or.inl ne)⟩
  · exact q.imp id fun ⟨c, A, r⟩ => ⟨c, A.other W ne, r⟩
theorem Is.keep {ws : List Addr} (K : Keep h h' ws) (q : Is Z h a o) (ne : a ∉ ws) : Is Z h' a o := by
  rcases o with ⟨C, fs, vs⟩ | ⟨ty, vs⟩
  · exact ⟨q.1.keep K, fun i f v h1 h2 => (q.2 i f v h1 h2).keep K ne⟩
  · exact q.imp id fun ⟨c, A, r⟩ => ⟨c, ⟨K.2.1 a c A.1 ne, A.2⟩, r⟩
theorem ext_trans {h1 h2 h3 : Heap} (E : Ext h1 h2) (E' : Ext h2 h3) : Ext h1 h3 := ⟨Nat.le_trans E.1 E'.1, fun a c q => E'.2 a c (E.2 a c q)⟩
theorem ext_keep {ws : List Addr} (E : Ext h0 h) (K : Keep h h' ws) (q : ∀ x ∈ ws, h0.size ≤ x) : Ext h0 h' :=
  ⟨Nat.le_trans E.1 K.1, fun a c r => K.2.1 a c (E.2 a c r) fun z => absurd (Array.getElem?_eq_some_iff.mp r).1 (Nat.not_lt.mpr (q a z))⟩
theorem Hp.start (s : State) (Z : State) : Hp Z s.heap s.heap.size [] s.heap := ⟨rfl, ⟨Nat.le_refl _, fun _ _ q => q⟩, rfl, fun k o q => by simp at q⟩
theorem Hp.at {k : Nat} (H : Hp Z h0 n0 Ls h) (q : Ls[k]? = some o) : Is Z h (n0 + k) o := H.2.2.2 k o q
theorem Hp.lk (H : Hp Z h0 n0 Ls h) (q : Lk Z h0 n0 Ls a o) : Is Z h a o := by
  rcases q with ⟨k, rfl, q⟩ | q
  · exact H.at q
  · exact q.ext H.2.1
theorem Lk.new {k : Nat} (q : Ls[k]? = some o) : Lk Z h0 n0 Ls (n0 + k) o := Or.inl ⟨k, rfl, q⟩
/-- one more cell at the end -/
theorem Hp.push {cell : Cell} (H : Hp Z h0 n0 Ls h) (q : Is Z (h.push cell) (n0 + Ls.length) o) : Hp Z h0 n0 (Ls ++ [o]) (h.push cell) := by
  obtain ⟨q1, E, q2, q3⟩ := H
  have E' : Ext h (h.push cell) := ⟨by simp, fun a c r => by
    rw [Array.getElem?_push_lt (Array.getElem?_eq_some_iff.mp r).1]; exact (Array.getElem?_eq_getElem _).symm.trans r⟩
  refine ⟨q1, ext_trans E E', by simp [q2]; omega, fun k o' r => ?_⟩
  by_cases hk : k < Ls.length
  · rw [List.getElem?_append_left hk] at r; exact (q3 k o' r).ext E'
  · rw [List.getElem?_append_right (Nat.le_of_not_lt hk)] at r
    have e0 : k - Ls.length = 0 := by
      rcases Nat.eq_zero_or_pos (k - Ls.length) with z | z
      · exact z
      · rw [List.getElem?_eq_none (by simp; omega)] at r; cases r
    rw [e0] at r
    have e1 : k = Ls.length := by omega
    cases (Option.some.inj r : o = o'); rw [e1]; exact q
/-- one object written -/
theorem Hp.wr {k : Nat} {o' : Ob} (H : Hp Z h0 n0 Ls h) (hk : Ls[k]? = some o') (W : Wr h h' (n0 + k) sl v) (q : Is Z h' (n0 + k) o) : Hp Z h0 n0 (Ls.set k o) h' := by
  obtain ⟨q1, E, q2, q3⟩ := H
  have E' : Ext h0 h' := ext_keep E (Keep.of_wr W) fun x hx => by cases List.mem_singleton.mp hx; omega
  refine ⟨q1, E', by rw [W.size, q2]; simp, fun j o2 r => ?_⟩
  rw [List.getElem?_set] at r
  by_cases e : k = j
  · subst e
    have hl : k < Ls.length := (List.getElem?_eq_some_iff.mp hk).1
    simp [hl] at r; subst r; exact q
  · rw [if_neg e] at r
    exact (q3 j o2 r).other W (fun z => e (Nat.add_left_cancel z).symm)
/-- one object written over, all else kept -/
theorem Hp.keep {k : Nat} {o' : Ob} (H : Hp Z h0 n0 Ls h) (hk : Ls[k]? = some o') (K : Keep h h' [n0 + k]) (hs : h'.size = h.size) (q : Is Z h' (n0 + k) o) : Hp Z h0 n0 (Ls.set k o) h' := by
  obtain ⟨q1, E, q2, q3⟩ := H
  have E' : Ext h0 h' := ext_keep E K fun x hx => by cases List.mem_singleton.mp hx; omega
  refine ⟨q1, E', by rw [hs, q2]; simp, fun j o2 r => ?_⟩
  rw [List.getElem?_set] at r
  by_cases e : k = j
  · subst e
    have hl : k < Ls.length := (List.getElem?_eq_some_iff.mp hk).1
    simp [hl] at r; subst r; exact q
  · rw [if_neg e] at r
    exact (q3 j o2 r).keep K (fun z => e (Nat.add_left_cancel (List.mem_singleton.mp z)).symm)
theorem lk_set {k : Nat} {o' : Ob} (q : Ls[k]? = some o') : (Ls.set k o)[k]? = some o := by have := (List.getElem?_eq_some_iff.mp q).1; simp [this]
theorem lk_ne {j k : Nat} {o' : Ob} (q : Ls[j]? = some o') (ne : k ≠ j) : (Ls.set k o)[j]? = some o' := by rw [List.getElem?_set_ne ne]; exact q
theorem lk_app {j : Nat} {M : List Ob} (q : Ls[j]? = some o) : (Ls ++ M)[j]? = some o := by rw [List.getElem?_append_left (List.getElem?_eq_some_iff.mp q).1]; exact q
theorem lk_last : (Ls ++ [o])[Ls.length]? = some o := by simp
theorem lk_lastN {N : Nat} (q : Ls.length = N) : (Ls ++ [o])[N]? = some o := by subst q; exact lk_last
theorem set_lastN {N : Nat} {o' : Ob} (q : Ls.length = N) : (Ls ++ [o]).set N o' = Ls ++ [o'] := by subst q; simp
theorem set_last {o' : Ob} : (Ls ++ [o]).set Ls.length o' = Ls ++ [o'] := by simp
theorem set_app {k : Nat} {o' o2 : Ob} {M : List Ob} (q : Ls[k]? = some o2) : (Ls ++ M).set k o' = Ls.set k o' ++ M := List.set_append_left _ _ (List.getElem?_eq_some_iff.mp q).1
theorem set_suf {Pre Bs : List Ob} {N j : Nat} (hN : Pre.length = N) : (Pre ++ Bs).set (N + j) o = Pre ++ Bs.set j o := by subst hN; rw [List.set_append_right _ _ (Nat.le_add_right _ _), Nat.add_sub_cancel_left]
theorem lk_suf {Pre Bs : List Ob} {N j : Nat} (hN : Pre.length = N) (q : Bs[j]? = some o) : (Pre ++ Bs)[N + j]? = some o := by subst hN; rw [List.getElem?_append_right (Nat.le_add_right _ _), Nat.add_sub_cancel_left]; exact q
theorem ad_ne {i j : Nat} (e : i ≠ j) : n0 + i ≠ n0 + j := fun z => e (Nat.add_left_cancel z)
theorem Lk.set {k : Nat} {o' o2 : Ob} (q : Lk Z h0 n0 Ls a o) (hk : Ls[k]? = some o') (ne : a ≠ n0 + k) : Lk Z h0 n0 (Ls.set k o2) a o := by
  rcases q with ⟨j, rfl, q⟩ | q
  · exact Or.inl ⟨j, rfl, lk_ne q (fun z => ne (by rw [z]))⟩
  · exact Or.inr q
theorem Lk.app {M : List Ob} (q : Lk Z h0 n0 Ls a o) : Lk Z h0 n0 (Ls ++ M) a o := by
  rcases q with ⟨j, rfl, q⟩ | q
  · exact Or.inl ⟨j, rfl, lk_app q⟩
  · exact Or.inr q
theorem St.more {cells' slots' : Nat} (w : St p l e R s m args below meth c Z y bytes ml ret h0 n0 T Ls cells slots) (h1 : cells ≤ cells') (h2 : slots ≤ slots') : St p l e R s m args below meth c Z y bytes ml ret h0 n0 T Ls cells' slots' := by
  obtain ⟨w1, locs, X, r⟩ := w; exact ⟨w1, locs, X.more h1 h2, r⟩
theorem Go.via (k : Go p e below F T' g' → Go p e below F T g) (G : Go p e below F T' g') : Go p e below F T g := k G
theorem Go.viaAll {α : Type} {G' : α → JFrame} (k : (∀ z : α, Go p e below F T' (G' z)) → Go p e below F T g) (K : ∀ z, Go p e below F T' (G' z)) : Go p e below F T g := k K
theorem St.exec (w : St p l e R s m args below meth c Z y bytes ml ret h0 n0 T Ls cells slots) : p.tables.exec = Jvm.exec := w.1.1
theorem St.here (w : St p l e R s m args below meth c Z y bytes ml ret h0 n0 T Ls cells slots) : At T m c below := by obtain ⟨-, _, X, -⟩ := w; exact X.here
theorem St.code (w : St p l e R s m args below meth c Z y bytes ml ret h0 n0 T Ls cells slots) : c.code = bytes := w.1.2.2.2.1
theorem Go.of (k : ∀ t, Steps p.tables e below (T'.setTop g') t → Steps p.tables e below (T.setTop g) t) (G : Go p e below F T' g') : Go p e below F T g := by
  obtain ⟨t, o, q, r⟩ := G; exact ⟨t, o, k t q, r⟩
theorem Go.cast (q : g = g') (G : Go p e below F T g') : Go p e below F T g := q ▸ G
theorem Met1.of {rm : Room} {as' : Array Value} {Q : Option Value → List Ob → Prop} {ws : List Jvm.Cond} (hp : plainFor y = true) (ef : ∀ m, entryFrame m as' ml = mkF m 0 ls [])
    (body : ∀ (p : Program) (e : Env) (s : State) (m : MethodId) (below : List Frame) (meth : Method) (c : Code) (T : State), St p l e rm s m as' below meth c Z y bytes ml ret h0 n0 T Ls 0 0 → Go p e below (Fin1 Z h0 n0 s rm Q) T (mkF m 0 ls [])) :
    Met1 l Z y bytes ml ret rm as' h0 n0 Ls Q ws := by
  intro h H
  refine MetFree.of_bodySF hp hisR ?_
  intro p e s m args below meth c s₁ Bd hml hP hK
  obtain ⟨rfl, hZ, hh⟩ := hP
  have e0 : s₁.heap = h := by rw [← hh, Bd.state]; rfl
  have G := body p e s m below meth c s₁ ⟨⟨Bd.exec, hZ, findClass_of_methodNamed Bd.named, Bd.bytes, hml, (name_of_methodNamed Bd.named Bd.method).1, Bd.returns, Bd.notSynchronized⟩, [], Stand.of_body Bd, Fr.nil _, by rw [e0]; exact H⟩
  rw [← ef m] at G
  exact G

theorem s_iadd {x z : Int32} (w : St p l e R s m args below meth c Z y bytes ml ret h0 n0 T Ls cells slots) (d : decode bytes pc = .ok (.iadd, 1)) (hp : pc + 1 = pc') (G : Go p e below F T (mkF m pc' ls (.int (x + z) :: st))) : Go p e below F T (mkF m pc ls (.int z :: .int x :: st)) := by
  subst hp; exact Go.of (fun t q => XS.iadd w.here w.exec rfl (hb w.code d) rfl q) G
theorem s_isub {x z : Int32} (w : St p l e R s m args below meth c Z y bytes ml ret h0 n0 T Ls cells slots) (d : decode bytes pc = .ok (.isub, 1)) (hp : pc + 1 = pc') (G : Go p e below F T (mkF m pc' ls (.int (x - z) :: st))) : Go p e below F T (mkF m pc ls (.int z :: .int x :: st)) := by
  subst hp; exact Go.of (fun t q => XS.isub w.here w.exec rfl (hb w.code d) rfl q) G
theorem s_iand {x z : Int32} (w : St p l e R s m args below meth c Z y bytes ml ret h0 n0 T Ls cells slots) (d : decode bytes pc = .ok (.iand, 1)) (hp : pc + 1 = pc') (G : Go p e below F T (mkF m pc' ls (.int (x &&& z) :: st))) : Go p e below F T (mkF m pc ls (.int z :: .int x :: st)) := by
  subst hp; exact Go.of (fun t q => XS.iand w.here w.exec rfl (hb w.code d) rfl q) G
theorem s_imul {x z : Int32} (w : St p l e R s m args below meth c Z y bytes ml ret h0 n0 T Ls cells slots) (d : decode bytes pc = .ok (.imul, 1)) (hp : pc + 1 = pc') (G : Go p e below F T (mkF m pc' ls (.int (x * z) :: st))) : Go p e below F T (mkF m pc ls (.int z :: .int x :: st)) := by
  subst hp; exact Go.of (fun t q => XS.imul w.here w.exec rfl (hb w.code d) rfl q) G
theorem s_ixor {x z : Int32} (w : St p l e R s m args below meth c Z y bytes ml ret h0 n0 T Ls cells slots) (d : decode bytes pc = .ok (.ixor, 1)) (hp : pc + 1 = pc') (G : Go p e below F T (mkF m pc' ls (.int (x ^^^ z) :: st))) : Go p e below F T (mkF m pc ls (.int z :: .int x :: st)) := by
  subst hp; exact Go.of (fun t q => XT.ixor w.here w.exec rfl (hb w.code d) rfl q) G
theorem s_ior {x z : Int32} (w : St p l e R s m args below meth c Z y bytes ml ret h0 n0 T Ls cells slots) (d : decode bytes pc = .ok (.ior, 1)) (hp : pc + 1 = pc') (G : Go p e below F T (mkF m pc' ls (.int (x ||| z) :: st))) : Go p e below F T (mkF m pc ls (.int z :: .int x :: st)) := by
  subst hp; exact Go.of (fun t q => XT.ior w.here w.exec rfl (hb w.code d) rfl q) G
theorem s_iushr {x z : Int32} (w : St p l e R s m args below meth c Z y bytes ml ret h0 n0 T Ls cells slots) (d : decode bytes pc = .ok (.iushr, 1)) (hp : pc + 1 = pc') (G : Go p e below F T (mkF m pc' ls (.int (Jvm.Free.XT.ushr x z) :: st))) : Go p e below F T (mkF m pc ls (.int z :: .int x :: st)) := by
  subst hp; exact Go.of (fun t q => XT.iushr w.here w.exec rfl (hb w.code d) rfl q) G
theorem s_ishl {x z : Int32} (w : St p l e R s m args below meth c Z y bytes ml ret h0 n0 T Ls cells slots) (d : decode bytes pc = .ok (.ishl, 1)) (hp : pc + 1 = pc') (G : Go p e below F T (mkF m pc' ls (.int (x <<< (z &&& 31)) :: st))) : Go p e below F T (mkF m pc ls (.int z :: .int x :: st)) := by
  subst hp; exact Go.of (fun t q => XT.ishl w.here w.exec rfl (hb w.code d) rfl q) G
theorem s_ishr {x z : Int32} (w : St p l e R s m args below meth c Z y bytes ml ret h0 n0 T Ls cells slots) (d : decode bytes pc = .ok (.ishr, 1)) (hp : pc + 1 = pc') (G : Go p e below F T (mkF m pc' ls (.int (x >>> (z &&& 31)) :: st))) : Go p e below F T (mkF m pc ls (.int z :: .int x :: st)) := by
  subst hp; exact Go.of (fun t q => XT.ishr w.here w.exec rfl (hb w.code d) rfl q) G
theorem s_ineg {x : Int32} (w : St p l e R s m args below meth c Z y bytes ml ret h0 n0 T Ls cells slots) (d : decode bytes pc = .ok (.ineg, 1)) (hp : pc + 1 = pc') (G : Go p e below F T (mkF m pc' ls (.int (-x) :: st))) : Go p e below F T (mkF m pc ls (.int x :: st)) := by
  subst hp; exact Go.of (fun t q => XS.ineg w.here w.exec rfl (hb w.code d) rfl q) G
theorem s_irem {x z : Int32} (w : St p l e R s m args below meth c Z y bytes ml ret h0 n0 T Ls cells slots) (d : decode bytes pc = .ok (.irem, 1)) (hz : z ≠ 0) (hp : pc + 1 = pc') (G : Go p e below F T (mkF m pc' ls (.int (x - (x / z) * z) :: st))) : Go p e below F T (mkF m pc ls (.int z :: .int x :: st)) := by
  subst hp; exact Go.of (fun t q => XS.irem w.here w.exec rfl (hb w.code d) rfl hz q) G
theorem s_ladd {x z : Int64} (w : St p l e R s m args below meth c Z y bytes ml ret h0 n0 T Ls cells slots) (d : decode bytes pc = .ok (.ladd, 1)) (hp : pc + 1 = pc') (G : Go p e below F T (mkF m pc' ls (.long (x + z) :: st))) : Go p e below F T (mkF m pc ls (.long z :: .long x :: st)) := by
  subst hp; exact Go.of (fun t q => XT.ladd w.here w.exec rfl (hb w.code d) rfl q) G
theorem s_lsub {x z : Int64} (w : St p l e R s m args below meth c Z y bytes ml ret h0 n0 T Ls cells slots) (d : decode bytes pc = .ok (.lsub, 1)) (hp : pc + 1 = pc') (G : Go p e below F T (mkF m pc' ls (.long (x - z) :: st))) : Go p e below F T (mkF m pc ls (.long z :: .long x :: st)) := by
  subst hp; exact Go.of (fun t q => XT.lsub w.here w.exec rfl (hb w.code d) rfl q) G
theorem s_lmul {x z : Int64} (w : St p l e R s m args below meth c Z y bytes ml ret h0 n0 T Ls cells slots) (d : decode bytes pc = .ok (.lmul, 1)) (hp : pc + 1 = pc') (G : Go p e below F T (mkF m pc' ls (.long (x * z) :: st))) : Go p e below F T (mkF m pc ls (.long z :: .long x :: st)) := by
  subst hp; exact Go.of (fun t q => XT.lmul w.here w.exec rfl (hb w.code d) rfl q) G
theorem s_land {x z : Int64} (w : St p l e R s m args below meth c Z y bytes ml ret h0 n0 T Ls cells slots) (d : decode bytes pc = .ok (.land, 1)) (hp : pc + 1 = pc') (G : Go p e below F T (mkF m pc' ls (.long (x &&& z) :: st))) : Go p e below F T (mkF m pc ls (.long z :: .long x :: st)) := by
  subst hp; exact Go.of (fun t q => XT.land w.here w.exec rfl (hb w.code d) rfl q) G
theorem s_lor {x z : Int64} (w : St p l e R s m args below meth c Z y bytes ml ret h0 n0 T Ls cells slots) (d : decode bytes pc = .ok (.lor, 1)) (hp : pc + 1 = pc') (G : Go p e below F T (mkF m pc' ls (.long (x ||| z) :: st))) : Go p e below F T (mkF m pc ls (.long z :: .long x :: st)) := by
  subst hp; exact Go.of (fun t q => XT.lor w.here w.exec rfl (hb w.code d) rfl q) G
theorem s_lxor {x z : Int64} (w : St p l e R s m args below meth c Z y bytes ml ret h0 n0 T Ls cells slots) (d : decode bytes pc = .ok (.lxor, 1)) (hp : pc + 1 = pc') (G : Go p e below F T (mkF m pc' ls (.long (x ^^^ z) :: st))) : Go p e below F T (mkF m pc ls (.long z :: .long x :: st)) := by
  subst hp; exact Go.of (fun t q => XT.lxor w.here w.exec rfl (hb w.code d) rfl q) G
theorem s_lshl {x : Int64} {z : Int32} (w : St p l e R s m args below meth c Z y bytes ml ret h0 n0 T Ls cells slots) (d : decode bytes pc = .ok (.lshl, 1)) (hp : pc + 1 = pc') (G : Go p e below F T (mkF m pc' ls (.long (x <<< (z.toInt64 &&& 63)) :: st))) : Go p e below F T (mkF m pc ls (.int z :: .long x :: st)) := by
  subst hp; exact Go.of (fun t q => XT.lshl w.here w.exec rfl (hb w.code d) rfl q) G
theorem s_lshr {x : Int64} {z : Int32} (w : St p l e R s m args below meth c Z y bytes ml ret h0 n0 T Ls cells slots) (d : decode bytes pc = .ok (.lshr, 1)) (hp : pc + 1 = pc') (G : Go p e below F T (mkF m pc' ls (.long (x >>> (z.toInt64 &&& 63)) :: st))) : Go p e below F T (mkF m pc ls (.int z :: .long x :: st)) := by
  subst hp; exact Go.of (fun t q => XT.lshr w.here w.exec rfl (hb w.code d) rfl q) G
theorem s_lushr {x : Int64} {z : Int32} (w : St p l e R s m args below meth c Z y bytes ml ret h0 n0 T Ls cells slots) (d : decode bytes pc = .ok (.lushr, 1)) (hp : pc + 1 = pc') (G : Go p e below F T (mkF m pc' ls (.long (Jvm.Free.XT.ushrL x z) :: st))) : Go p e below F T (mkF m pc ls (.int z :: .long x :: st)) := by
  subst hp; exact Go.of (fun t q => XT.lushr w.here w.exec rfl (hb w.code d) rfl q) G
theorem s_ldiv {x z : Int64} (w : St p l e R s m args below meth c Z y bytes ml ret h0 n0 T Ls cells slots) (d : decode bytes pc = .ok (.ldiv, 1)) (hz : z ≠ 0) (hp : pc + 1 = pc') (G : Go p e below F T (mkF m pc' ls (.long (x / z) :: st))) : Go p e below F T (mkF m pc ls (.long z :: .long x :: st)) := by
  subst hp; exact Go.of (fun t q => XT.ldiv w.here w.exec rfl (hb w.code d) rfl hz q) G
theorem s_lrem {x z : Int64} (w : St p l e R s m args below meth c Z y bytes ml ret h0 n0 T Ls cells slots) (d : decode bytes pc = .ok (.lrem, 1)) (hz : z ≠ 0) (hp : pc + 1 = pc') (G : Go p e below F T (mkF m pc' ls (.long (x - (x / z) * z) :: st))) : Go p e below F T (mkF m pc ls (.long z :: .long x :: st)) := by
  subst hp; exact Go.of (fun t q => XT.lrem w.here w.exec rfl (hb w.code d) rfl hz q) G
theorem s_lneg {x : Int64} (w : St p l e R s m args below meth c Z y bytes ml ret h0 n0 T Ls cells slots) (d : decode bytes pc = .ok (.lneg, 1)) (hp : pc + 1 = pc') (G : Go p e below F T (mkF m pc' ls (.long (-x) :: st))) : Go p e below F T (mkF m pc ls (.long x :: st)) := by
  subst hp; exact Go.of (fun t q => XT.lneg w.here w.exec rfl (hb w.code d) rfl q) G
theorem s_i2l {x : Int32} (w : St p l e R s m args below meth c Z y bytes ml ret h0 n0 T Ls cells slots) (d : decode bytes pc = .ok (.i2l, 1)) (hp : pc + 1 = pc') (G : Go p e below F T (mkF m pc' ls (.long x.toInt64 :: st))) : Go p e below F T (mkF m pc ls (.int x :: st)) := by
  subst hp; exact Go.of (fun t q => XT.i2l w.here w.exec rfl (hb w.code d) rfl q) G
theorem s_l2i {x : Int64} (w : St p l e R s m args below meth c Z y bytes ml ret h0 n0 T Ls cells slots) (d : decode bytes pc = .ok (.l2i, 1)) (hp : pc + 1 = pc') (G : Go p e below F T (mkF m pc' ls (.int x.toInt32 :: st))) : Go p e below F T (mkF m pc ls (.long x :: st)) := by
  subst hp; exact Go.of (fun t q => XT.l2i w.here w.exec rfl (hb w.code d) rfl q) G
theorem s_lcmp {x z : Int64} (w : St p l e R s m args below meth c Z y bytes ml ret h0 n0 T Ls cells slots) (d : decode bytes pc = .ok (.lcmp, 1)) (hp : pc + 1 = pc') (G : Go p e below F T (mkF m pc' ls (.int (Jvm.Free.XT.cmpL x z) :: st))) : Go p e below F T (mkF m pc ls (.long z :: .long x :: st)) := by
  subst hp; exact Go.of (fun t q => XT.lcmp w.here w.exec rfl (hb w.code d) rfl q) G
theorem s_iloadN {k : Fin 4} {x : Int32} (w : St p l e R s m args below meth c Z y bytes ml ret h0 n0 T Ls cells slots) (d : decode bytes pc = .ok (.iload_n k, 1)) (hl : ls[k.val]? = some (.val (.int x))) (hp : pc + 1 = pc') (G : Go p e below F T (mkF m pc' ls (.int x :: st))) : Go p e below F T (mkF m pc ls st) := by
  subst hp; exact Go.of (fun t q => XS.iloadN w.here w.exec rfl (hb w.code d) hl q) G
theorem s_iload {k : Nat} {x : Int32} (w : St p l e R s m args below meth c Z y bytes ml ret h0 n0 T Ls cells slots) (d : decode bytes pc = .ok (.iload k, 2)) (hl : ls[k]? = some (.val (.int x))) (hp : pc + 2 = pc') (G : Go p e below F T (mkF m pc' ls (.int x :: st))) : Go p e below F T (mkF m pc ls st) := by
  subst hp; exact Go.of (fun t q => XS.iload w.here w.exec rfl (hb w.code d) hl q) G
theorem s_istoreN {k : Fin 4} {x : Int32} {ls' : Array Slot} (w : St p l e R s m args below meth c Z y bytes ml ret h0 n0 T Ls cells slots) (d : decode bytes pc = .ok (.istore_n k, 1)) (hl : storeLocals ls k.val (.int x) = some ls') (hp : pc + 1 = pc') (G : Go p e below F T (mkF m pc' ls' st)) : Go p e below F T (mkF m pc ls (.int x :: st)) := by
  subst hp; exact Go.of (fun t q => XS.istoreN w.here w.exec rfl (hb w.code d) rfl hl q) G
theorem s_istore {k : Nat} {x : Int32} {ls' : Array Slot} (w : St p l e R s m args below meth c Z y bytes ml ret h0 n0 T Ls cells slots) (d : decode bytes pc = .ok (.istore k, 2)) (hl : storeLocals ls k (.int x) = some ls') (hp : pc + 2 = pc') (G : Go p e below F T (mkF m pc' ls' st)) : Go p e below F T (mkF m pc ls (.int x :: st)) := by
  subst hp; exact Go.of (fun t q => XS.istore w.here w.exec rfl (hb w.code d) rfl hl q) G
theorem s_lloadN {k : Fin 4} {x : Int64} (w : St p l e R s m args below meth c Z y bytes ml ret h0 n0 T Ls cells slots) (d : decode bytes pc = .ok (.lload_n k, 1)) (hl : ls[k.val]? = some (.val (.long x))) (hp : pc + 1 = pc') (G : Go p e below F T (mkF m pc' ls (.long x :: st))) : Go p e below F T (mkF m pc ls st) := by
  subst hp; exact Go.of (fun t q => XT.lloadN w.here w.exec rfl (hb w.code d) hl q) G
theorem s_lload {k : Nat} {x : Int64} (w : St p l e R s m args below meth c Z y bytes ml ret h0 n0 T Ls cells slots) (d : decode bytes pc = .ok (.lload k, 2)) (hl : ls[k]? = some (.val (.long x))) (hp : pc + 2 = pc') (G : Go p e below F T (mkF m pc' ls (.long x :: st))) : Go p e below F T (mkF m pc ls st) := by
  subst hp; exact Go.of (fun t q => XT.lload w.here w.exec rfl (hb w.code d) hl q) G
theorem s_lstoreN {k : Fin 4} {x : Int64} {ls' : Array Slot} (w : St p l e R s m args below meth c Z y bytes ml ret h0 n0 T Ls cells slots) (d : decode bytes pc = .ok (.lstore_n k, 1)) (hl : storeLocals ls k.val (.long x) = some ls') (hp : pc + 1 = pc') (G : Go p e below F T (mkF m pc' ls' st)) : Go p e below F T (mkF m pc ls (.long x :: st)) := by
  subst hp; exact Go.of (fun t q => XT.lstoreN w.here w.exec rfl (hb w.code d) rfl hl q) G
theorem s_lstore {k : Nat} {x : Int64} {ls' : Array Slot} (w : St p l e R s m args below meth c Z y bytes ml ret h0 n0 T Ls cells slots) (d : decode bytes pc = .ok (.lstore k, 2)) (hl : storeLocals ls k (.long x) = some ls') (hp : pc + 2 = pc') (G : Go p e below F T (mkF m pc' ls' st)) : Go p e below F T (mkF m pc ls (.long x :: st)) := by
  subst hp; exact Go.of (fun t q => XT.lstore w.here w.exec rfl (hb w.code d) rfl hl q) G
theorem s_aloadN {k : Fin 4} (w : St p l e R s m args below meth c Z y bytes ml ret h0 n0 T Ls cells slots) (d : decode bytes pc = .ok (.aload_n k, 1)) (hl : ls[k.val]? = some (.val v)) (hv : v.isRef = true) (hp : pc + 1 = pc') (G : Go p e below F T (mkF m pc' ls (v :: st))) : Go p e below F T (mkF m pc ls st) := by
  subst hp; exact Go.of (fun t q => XS.aloadN w.here w.exec rfl (hb w.code d) hl hv q) G
theorem s_aload {k : Nat} (w : St p l e R s m args below meth c Z y bytes ml ret h0 n0 T Ls cells slots) (d : decode bytes pc = .ok (.aload k, 2)) (hl : ls[k]? = some (.val v)) (hv : v.isRef = true) (hp : pc + 2 = pc') (G : Go p e below F T (mkF m pc' ls (v :: st))) : Go p e below F T (mkF m pc ls st) := by
  subst hp; exact Go.of (fun t q => XS.aload w.here w.exec rfl (hb w.code d) hl hv q) G
theorem s_astoreN {k : Fin 4} {ls' : Array Slot} (w : St p l e R s m args below meth c Z y bytes ml ret h0 n0 T Ls cells slots) (d : decode bytes pc = .ok (.astore_n k, 1)) (hv : v.isRef = true) (hl : storeLocals ls k.val v = some ls') (hp : pc + 1 = pc') (G : Go p e below F T (mkF m pc' ls' st)) : Go p e below F T (mkF m pc ls (v :: st)) := by
  subst hp; exact Go.of (fun t q => XS.astoreN w.here w.exec rfl (hb w.code d) rfl hv hl q) G
theorem s_astore {k : Nat} {ls' : Array Slot} (w : St p l e R s m args below meth c Z y bytes ml ret h0 n0 T Ls cells slots) (d : decode bytes pc = .ok (.astore k, 2)) (hv : v.isRef = true) (hl : storeLocals ls k v = some ls') (hp : pc + 2 = pc') (G : Go p e below F T (mkF m pc' ls' st)) : Go p e below F T (mkF m pc ls (v :: st)) := by
  subst hp; exact Go.of (fun t q => XS.astore w.here w.exec rfl (hb w.code d) rfl hv hl q) G
theorem s_iconst {i : Int} (x : Int32) (w : St p l e R s m args below meth c Z y bytes ml ret h0 n0 T Ls cells slots) (d : decode bytes pc = .ok (.iconst i, 1)) (hv : Int32.ofInt i = x) (hp : pc + 1 = pc') (G : Go p e below F T (mkF m pc' ls (.int x :: st))) : Go p e below F T (mkF m pc ls st) := by
  subst hp; exact Go.of (fun t q => XT.iconstV w.here w.exec rfl x (hb w.code d) hv q) G
theorem s_bipush {i : Int} (x : Int32) (w : St p l e R s m args below meth c Z y bytes ml ret h0 n0 T Ls cells slots) (d : decode bytes pc = .ok (.bipush i, 2)) (hv : (Int8.ofInt i).toInt32 = x) (hp : pc + 2 = pc') (G : Go p e below F T (mkF m pc' ls (.int x :: st))) : Go p e below F T (mkF m pc ls st) := by
  subst hp; exact Go.of (fun t q => XT.bipushV w.here w.exec rfl x (hb w.code d) hv q) G
theorem s_sipush {i : Int} (x : Int32) (w : St p l e R s m args below meth c Z y bytes ml ret h0 n0 T Ls cells slots) (d : decode bytes pc = .ok (.sipush i, 3)) (hv : (Int16.ofInt i).toInt32 = x) (hp : pc + 3 = pc') (G : Go p e below F T (mkF m pc' ls (.int x :: st))) : Go p e below F T (mkF m pc ls st) := by
  subst hp; exact Go.of (fun t q => XT.sipushV w.here w.exec rfl x (hb w.code d) hv q) G
theorem s_lconst {i : Fin 2} (x : Int64) (w : St p l e R s m args below meth c Z y bytes ml ret h0 n0 T Ls cells slots) (d : decode bytes pc = .ok (.lconst i, 1)) (hv : Int64.ofNat i = x) (hp : pc + 1 = pc') (G : Go p e below F T (mkF m pc' ls (.long x :: st))) : Go p e below F T (mkF m pc ls st) := by
  subst hp; exact Go.of (fun t q => XT.lconstV w.here w.exec rfl x (hb w.code d) hv q) G
theorem s_iinc {k : Nat} {i : Int} {x : Int32} {ls' : Array Slot} (z : Int32) (w : St p l e R s m args below meth c Z y bytes ml ret h0 n0 T Ls cells slots) (d : decode bytes pc = .ok (.iinc k i, 3)) (hv : Int32.ofInt i = z) (hl : ls[k]? = some (.val (.int x))) (hl' : storeLocals ls k (.int (x + z)) = some ls') (hp : pc + 3 = pc') (G : Go p e below F T (mkF m pc' ls' st)) : Go p e below F T (mkF m pc ls st) := by
  subst hp; exact Go.of (fun t q => XT.iincV w.here w.exec rfl z (hb w.code d) hv hl hl' q) G
theorem s_aconst_null  (w : St p l e R s m args below meth c Z y bytes ml ret h0 n0 T Ls cells slots) (d : decode bytes pc = .ok (.aconst_null, 1)) (hp : pc + 1 = pc') (G : Go p e below F T (mkF m pc' ls (.null :: st))) : Go p e below F T (mkF m pc ls st) := by
  subst hp; exact Go.of (fun t q => XS.aconstNull w.here w.exec rfl (hb w.code d)  q) G
theorem s_dup  (w : St p l e R s m args below meth c Z y bytes ml ret h0 n0 T Ls cells slots) (d : decode bytes pc = .ok (.dup, 1)) (hc : v.category = 1) (hp : pc + 1 = pc') (G : Go p e below F T (mkF m pc' ls (v :: v :: st))) : Go p e below F T (mkF m pc ls (v :: st)) := by
  subst hp; exact Go.of (fun t q => XS.dup w.here w.exec rfl (hb w.code d) rfl hc q) G
theorem s_pop  (w : St p l e R s m args below meth c Z y bytes ml ret h0 n0 T Ls cells slots) (d : decode bytes pc = .ok (.pop, 1)) (hc : v.category = 1) (hp : pc + 1 = pc') (G : Go p e below F T (mkF m pc' ls st)) : Go p e below F T (mkF m pc ls (v :: st)) := by
  subst hp; exact Go.of (fun t q => XT.pop w.here w.exec rfl (hb w.code d) rfl hc q) G
theorem s_dup_x1 {v' : Value} (w : St p l e R s m args below meth c Z y bytes ml ret h0 n0 T Ls cells slots) (d : decode bytes pc = .ok (.dup_x1, 1)) (hc : v.category = 1) (hc' : v'.category = 1) (hp : pc + 1 = pc') (G : Go p e below F T (mkF m pc' ls (v :: v' :: v :: st))) : Go p e below F T (mkF m pc ls (v :: v' :: st)) := by
  subst hp; exact Go.of (fun t q => XT.dupX1 w.here w.exec rfl (hb w.code d) rfl hc hc' q) G
theorem s_dup2 {v' : Value} (w : St p l e R s m args below meth c Z y bytes ml ret h0 n0 T Ls cells slots) (d : decode bytes pc = .ok (.dup2, 1)) (hc : v.category = 1) (hc' : v'.category = 1) (hp : pc + 1 = pc') (G : Go p e below F T (mkF m pc' ls (v :: v' :: v :: v' :: st))) : Go p e below F T (mkF m pc ls (v :: v' :: st)) := by
  subst hp; exact Go.of (fun t q => XT.dup2 w.here w.exec rfl (hb w.code d) rfl hc hc' q) G
theorem s_dup2_x1L {x : Int64} (w : St p l e R s m args below meth c Z y bytes ml ret h0 n0 T Ls cells slots) (d : decode bytes pc = .ok (.dup2_x1, 1)) (hc : v.category = 1) (hp : pc + 1 = pc') (G : Go p e below F T (mkF m pc' ls (.long x :: v :: .long x :: st))) : Go p e below F T (mkF m pc ls (.long x :: v :: st)) := by
  subst hp
  obtain ⟨t, o, q, r⟩ := G
  refine ⟨t, o, ?_, r⟩
  have hd := hb w.code d
  have H := w.here
  have hx := w.exec
  jvm_step H [H.top, hx, hd, Value.category]
  exact ⟨hc, q⟩
theorem s_dup2L {x : Int64} (w : St p l e R s m args below meth c Z y bytes ml ret h0 n0 T Ls cells slots) (d : decode bytes pc = .ok (.dup2, 1)) (hp : pc + 1 = pc') (G : Go p e below F T (mkF m pc' ls (.long x :: .long x :: st))) : Go p e below F T (mkF m pc ls (.long x :: st)) := by
  subst hp; exact Go.of (fun t q => XT.dup2L w.here w.exec rfl (hb w.code d) rfl q) G
theorem s_goto {o : Int} (w : St p l e R s m args below meth c Z y bytes ml ret h0 n0 T Ls cells slots) (d : decode bytes pc = .ok (.goto o, 3)) (h1 : 0 ≤ (pc : Int) + o) (h2 : ((pc : Int) + o).toNat = pc') (G : Go p e below F T (mkF m pc' ls st)) : Go p e below F T (mkF m pc ls st) :=
  Go.of (fun t q => XS.goto w.here w.exec rfl rfl (hb w.code d) h1 h2 q) G
theorem s_ifY {cd : ClassFile.Cond} {o : Int} {x : Int32} (w : St p l e R s m args below meth c Z y bytes ml ret h0 n0 T Ls cells slots) (d : decode bytes pc = .ok (.ifCond cd o, 3)) (hc : ifCond.holds cd x = true) (h1 : 0 ≤ (pc : Int) + o) (h2 : ((pc : Int) + o).toNat = pc') (G : Go p e below F T (mkF m pc' ls st)) : Go p e below F T (mkF m pc ls (.int x :: st)) :=
  Go.of (fun t q => XS.ifYes w.here w.exec rfl rfl (hb w.code d) rfl hc h1 h2 q) G
theorem s_ifN {cd : ClassFile.Cond} {o : Int} {x : Int32} (w : St p l e R s m args below meth c Z y bytes ml ret h0 n0 T Ls cells slots) (d : decode bytes pc = .ok (.ifCond cd o, 3)) (hc : ifCond.holds cd x = false) (hp : pc + 3 = pc') (G : Go p e below F T (mkF m pc' ls st)) : Go p e below F T (mkF m pc ls (.int x :: st)) := by
  subst hp; exact Go.of (fun t q => XS.ifNo w.here w.exec rfl (hb w.code d) rfl hc q) G
theorem s_icmpY {cd : ClassFile.Cond} {o : Int} {x z : Int32} (w : St p l e R s m args below meth c Z y bytes ml ret h0 n0 T Ls cells slots) (d : decode bytes pc = .ok (.if_icmp cd o, 3)) (hc : if_icmp.holds cd x z = true) (h1 : 0 ≤ (pc : Int) + o) (h2 : ((pc : Int) + o).toNat = pc') (G : Go p e below F T (mkF m pc' ls st)) : Go p e below F T (mkF m pc ls (.int z :: .int x :: st)) :=
  Go.of (fun t q => XS.icmpYes w.here w.exec rfl rfl (hb w.code d) rfl hc h1 h2 q) G
theorem s_icmpN {cd : ClassFile.Cond} {o : Int} {x z : Int32} (w : St p l e R s m args below meth c Z y bytes ml ret h0 n0 T Ls cells slots) (d : decode bytes pc = .ok (.if_icmp cd o, 3)) (hc : if_icmp.holds cd x z = false) (hp : pc + 3 = pc') (G : Go p e below F T (mkF m pc' ls st)) : Go p e below F T (mkF m pc ls (.int z :: .int x :: st)) := by
  subst hp; exact Go.of (fun t q => XS.icmpNo w.here w.exec rfl (hb w.code d) rfl hc q) G
theorem s_acmpY {cd : ClassFile.ACond} {o : Int} {v' : Value} (w : St p l e R s m args below meth c Z y bytes ml ret h0 n0 T Ls cells slots) (d : decode bytes pc = .ok (.if_acmp cd o, 3)) (r1 : v.isRef = true) (r2 : v'.isRef = true) (hc : Jvm.Free.XT.acmp cd v v' = true) (h1 : 0 ≤ (pc : Int) + o) (h2 : ((pc : Int) + o).toNat = pc') (G : Go p e below F T (mkF m pc' ls st)) : Go p e below F T (mkF m pc ls (v' :: v :: st)) :=
  Go.of (fun t q => XT.acmpYes w.here w.exec rfl rfl (hb w.code d) rfl r1 r2 hc h1 h2 q) G
theorem s_acmpN {cd : ClassFile.ACond} {o : Int} {v' : Value} (w : St p l e R s m args below meth c Z y bytes ml ret h0 n0 T Ls cells slots) (d : decode bytes pc = .ok (.if_acmp cd o, 3)) (r1 : v.isRef = true) (r2 : v'.isRef = true) (hc : Jvm.Free.XT.acmp cd v v' = false) (hp : pc + 3 = pc') (G : Go p e below F T (mkF m pc' ls st)) : Go p e below F T (mkF m pc ls (v' :: v :: st)) := by
  subst hp; exact Go.of (fun t q => XT.acmpNo w.here w.exec rfl (hb w.code d) rfl r1 r2 hc q) G
theorem s_ifnonnullY {o : Int} (w : St p l e R s m args below meth c Z y bytes ml ret h0 n0 T Ls cells slots) (d : decode bytes pc = .ok (.ifnonnull o, 3)) (h1 : 0 ≤ (pc : Int) + o) (h2 : ((pc : Int) + o).toNat = pc') (G : Go p e below F T (mkF m pc' ls st)) : Go p e below F T (mkF m pc ls (.ref a :: st)) :=
  Go.of (fun t q => XT.ifnonnullYes w.here w.exec rfl rfl (hb w.code d) rfl h1 h2 q) G
theorem s_ldc {i : Nat} {x : Int32} (w : St p l e R s m args below meth c Z y bytes ml ret h0 n0 T Ls cells slots) (k : (Cond.constant y.cls i x).before a0 Z = true) (d : decode bytes pc = .ok (.ldc i, 2)) (hp : pc + 2 = pc') (G : Go p e below F T (mkF m pc' ls (.int x :: st))) : Go p e below F T (mkF m pc ls st) := by
  subst hp; obtain ⟨⟨hx, hZ, hown, hby, -⟩, _, X, -⟩ := w; exact Go.of (X.ldcInt hx hown (mvT hZ k) rfl (hb hby d)) G
theorem s_ldcw {i : Nat} {x : Int32} (w : St p l e R s m args below meth c Z y bytes ml ret h0 n0 T Ls cells slots) (k : (Cond.constant y.cls i x).before a0 Z = true) (d : decode bytes pc = .ok (.ldc_w i, 3)) (hp : pc + 3 = pc') (G : Go p e below F T (mkF m pc' ls (.int x :: st))) : Go p e below F T (mkF m pc ls st) := by
  subst hp; obtain ⟨⟨hx, hZ, hown, hby, -⟩, _, X, -⟩ := w; exact Go.of (X.ldcWInt hx hown (mvT hZ k) rfl (hb hby d)) G
theorem s_ldc2 {i : Nat} {x : Int64} (w : St p l e R s m args below meth c Z y bytes ml ret h0 n0 T Ls cells slots) (k : (Cond.constantLong y.cls i x).before a0 Z = true) (d : decode bytes pc = .ok (.ldc2_w i, 3)) (hp : pc + 3 = pc') (G : Go p e below F T (mkF m pc' ls (.long x :: st))) : Go p e below F T (mkF m pc ls st) := by
  subst hp; obtain ⟨⟨hx, hZ, hown, hby, -⟩, _, X, -⟩ := w; exact Go.of (X.ldc2Long hx hown (mvT hZ k) rfl (hb hby d)) G
theorem s_ireturn {rm : Room} {Q : Option Value → List Ob → Prop} {z : Int32} (w : St p l e rm s m args below meth c Z y bytes ml (some .int) h0 n0 T Ls cells slots) (d : decode bytes pc = .ok (.ireturn, 1)) (hc : cells ≤ rm.cells) (hn : slots ≤ rm.slots) (q : Q (some (.int z)) Ls) : Go p e below (Fin1 Z h0 n0 s rm Q) T (mkF m pc ls (.int z :: rest)) := by
  obtain ⟨⟨hx, hZ, hown, hby, hml, hnm, hret, hlk⟩, locs, X, N, H⟩ := w
  obtain ⟨fs, hr, hrun, hended, hW, hsame⟩ := X.leave (v := (some (.int z))) (fun h => by rw [hret] at h; cases h) hlk
  refine ⟨_, _, ?_, hrun, hended, _, locs, rfl, ⟨Ls, q, N, H⟩, ⟨_, rfl⟩, hW, hsame.mono hc hn⟩
  exact retOut X hx hret rfl (Or.inl ⟨rfl, Or.inl rfl, z, rfl⟩) (hb hby d) hr
theorem s_zreturn {rm : Room} {Q : Option Value → List Ob → Prop} {z : Int32} (hz : narrow .boolean (.int z) = .int z) (w : St p l e rm s m args below meth c Z y bytes ml (some .boolean) h0 n0 T Ls cells slots) (d : decode bytes pc = .ok (.ireturn, 1)) (hc : cells ≤ rm.cells) (hn : slots ≤ rm.slots) (q : Q (some (.int z)) Ls) : Go p e below (Fin1 Z h0 n0 s rm Q) T (mkF m pc ls (.int z :: rest)) := by
  obtain ⟨⟨hx, hZ, hown, hby, hml, hnm, hret, hlk⟩, locs, X, N, H⟩ := w
  obtain ⟨fs, hr, hrun, hended, hW, hsame⟩ := X.leave (v := (some (.int z))) (fun h => by rw [hret] at h; cases h) hlk
  refine ⟨_, _, ?_, hrun, hended, _, locs, rfl, ⟨Ls, q, N, H⟩, ⟨_, rfl⟩, hW, hsame.mono hc hn⟩
  exact retOut X hx hret hz (Or.inl ⟨rfl, Or.inr (Or.inl rfl), z, rfl⟩) (hb hby d) hr
theorem s_lreturn {rm : Room} {Q : Option Value → List Ob → Prop} {z : Int64} (w : St p l e rm s m args below meth c Z y bytes ml (some .long) h0 n0 T Ls cells slots) (d : decode bytes pc = .ok (.lreturn, 1)) (hc : cells ≤ rm.cells) (hn : slots ≤ rm.slots) (q : Q (some (.long z)) Ls) : Go p e below (Fin1 Z h0 n0 s rm Q) T (mkF m pc ls (.long z :: rest)) := by
  obtain ⟨⟨hx, hZ, hown, hby, hml, hnm, hret, hlk⟩, locs, X, N, H⟩ := w
  obtain ⟨fs, hr, hrun, hended, hW, hsame⟩ := X.leave (v := (some (.long z))) (fun h => by rw [hret] at h; cases h) hlk
  refine ⟨_, _, ?_, hrun, hended, _, locs, rfl, ⟨Ls, q, N, H⟩, ⟨_, rfl⟩, hW, hsame.mono hc hn⟩
  exact retOut X hx hret rfl (Or.inr (Or.inl ⟨rfl, rfl, z, rfl⟩)) (hb hby d) hr
theorem s_areturn {rm : Room} {Q : Option Value → List Ob → Prop} {t : FieldType} (w : St p l e rm s m args below meth c Z y bytes ml (some t) h0 n0 T Ls cells slots) (d : decode bytes pc = .ok (.areturn, 1)) (ht : t.isReference = true) (hv : v.isRef = true) (hc : cells ≤ rm.cells) (hn : slots ≤ rm.slots) (q : Q (some v) Ls) : Go p e below (Fin1 Z h0 n0 s rm Q) T (mkF m pc ls (v :: rest)) := by
  obtain ⟨⟨hx, hZ, hown, hby, hml, hnm, hret, hlk⟩, locs, X, N, H⟩ := w
  obtain ⟨fs, hr, hrun, hended, hW, hsame⟩ := X.leave (v := some v) (fun h => by rw [hret] at h; cases h) hlk
  refine ⟨_, _, ?_, hrun, hended, _, locs, rfl, ⟨Ls, q, N, H⟩, ⟨_, rfl⟩, hW, hsame.mono hc hn⟩
  have hn' : narrow t v = v := by rcases ref_cases hv with rfl | ⟨a, rfl⟩ <;> cases t <;> first | rfl | (cases ht; done)
  exact retOut X hx hret hn' (Or.inr (Or.inr (Or.inr (Or.inr ⟨rfl, ht, hv⟩)))) (hb hby d) hr
theorem s_return {rm : Room} {Q : Option Value → List Ob → Prop}  (w : St p l e rm s m args below meth c Z y bytes ml none h0 n0 T Ls cells slots) (d : decode bytes pc = .ok (.return_, 1)) (hc : cells ≤ rm.cells) (hn : slots ≤ rm.slots) (q : Q none Ls) : Go p e below (Fin1 Z h0 n0 s rm Q) T (mkF m pc ls []) := by
  obtain ⟨⟨hx, hZ, hown, hby, hml, hnm, hret, hlk⟩, locs, X, N, H⟩ := w
  obtain ⟨fs, hr, hrun, hended, hW, hsame⟩ := X.leave (v := none) (fun _ => rfl) hlk
  refine ⟨_, _, ?_, hrun, hended, _, locs, rfl, ⟨Ls, q, N, H⟩, ⟨_, rfl⟩, hW, hsame.mono hc hn⟩
  exact X.returnOut hx hret (hb hby d) hr

/-! ### fields -/
theorem s_getL {i j : Nat} {R0 O f d host C : String} {fs : List (String × String × String)} {vs : List Value} (w : St p l e R s m args below meth c Z y bytes ml ret h0 n0 T Ls cells slots) (k : (Cond.fieldLink y.cls i R0 f d).before a0 Z = true ∨ (Cond.fieldLinkNest y.cls i R0 f d host).before a0 Z = true) (via : Via Z R0 O f d) (q : Lk Z h0 n0 Ls a (.inl (C, fs, vs))) (hf : fs[j]? = some (O, f, d)) (hv : vs[j]? = some v) (hd : decode bytes pc = .ok (.getfield i, 3)) (hp : pc + 3 = pc')
    (G : ∀ T', St p l e R s m args below meth c Z y bytes ml ret h0 n0 T' Ls cells slots → Go p e below F T' (mkF m pc' ls (v :: st))) : Go p e below F T (mkF m pc ls (.ref a :: st)) := by
  subst hp
  obtain ⟨w1, locs, X, N, H⟩ := w
  have w1' := w1
  obtain ⟨hx, hZ, hown, hby, -⟩ := w1
  obtain ⟨T', X', e', st'⟩ := getF X hx hZ hown k via rfl ((H.lk q).2 j _ v hf hv) (g := mkF m pc ls (.ref a :: st)) rfl rfl (hb hby hd)
  exact Go.of st' (G T' ⟨w1', locs, X', N, by rw [e']; exact H⟩)
theorem s_put {i j k kk : Nat} {R0 O f d host C : String} {ty : FieldType} {fs : List (String × String × String)} {vs : List Value} (w : St p l e R s m args below meth c Z y bytes ml ret h0 n0 T Ls cells slots) (kl : (Cond.fieldLink y.cls i R0 f d).before a0 Z = true ∨ (Cond.fieldLinkNest y.cls i R0 f d host).before a0 Z = true) (via : Via Z R0 O f d) (cl : Cls Z a0 C kk fs) (q : Ls[k]? = some (.inl (C, fs, vs))) (hf : fs[j]? = some (O, f, d)) (hj : j < vs.length)
    (la : (Cond.lays C O f d).before a0 Z = true ∨ ((Cond.laysFinal C O f d).before a0 Z = true ∧ y.cls = O ∧ y.name = "<init>")) (hty : parseFieldDescriptor d = some ty) (hna : narrow ty v = v) (hfi : fits ty v = true) (hd : decode bytes pc = .ok (.putfield i, 3)) (hp : pc + 3 = pc')
    (G : ∀ T', St p l e R s m args below meth c Z y bytes ml ret h0 n0 T' (Ls.set k (.inl (C, fs, vs.set j v))) cells slots → Go p e below F T' (mkF m pc' ls st)) : Go p e below F T (mkF m pc ls (v :: .ref (n0 + k) :: st)) := by
  subst hp
  obtain ⟨w1, locs, X, N, H⟩ := w
  have w1' := w1
  obtain ⟨hx, hZ, hown, hby, -, hnm, -⟩ := w1
  have I := H.at q
  obtain ⟨v0, hv0⟩ : ∃ v0, vs[j]? = some v0 := ⟨_, List.getElem?_eq_getElem hj⟩
  have la' : (Cond.lays C O f d).before a0 Z = true ∨ ((Cond.laysFinal C O f d).before a0 Z = true ∧ y.cls = O ∧ meth.name = "<init>") := la.imp id fun r => ⟨r.1, r.2.1, hnm.trans r.2.2⟩
  obtain ⟨T', h', X', e', W', st'⟩ := putF X hx hZ hown kl via rfl (I.2 j _ v0 hf hv0) I.1 la' cl.1 hty hna hfi (g := mkF m pc ls (v :: .ref (n0 + k) :: st)) rfl rfl (hb hby hd)
  refine Go.of st' (G T' ⟨w1', _, X', Fr.snoc X' N (Nat.le_add_right _ _), ?_⟩)
  rw [e']
  refine H.wr q W' ⟨I.1.wr W', fun i' f' v' h1 h2 => ?_⟩
  rw [List.getElem?_set] at h2
  by_cases e : j = i'
  · subst e
    cases hf.symm.trans h1
    simp [hj] at h2; subst h2
    exact (I.2 j _ v0 hf hv0).same W'
  · rw [if_neg e] at h2
    have hne : f'.2.1 ≠ f := fun q => e (cl.2.2 j i' _ _ hf h1 q.symm)
    obtain ⟨L1, t1, p1⟩ := cl.2.1 j _ hf
    obtain ⟨L2, t2, p2⟩ := cl.2.1 i' _ h1
    exact (I.2 i' _ v' h1 h2).other W' (Or.inr (slot_ne L2 L1 hne p2 p1))
theorem s_getS {i : Nat} {R0 O f d host : String} (w : St p l e R s m args below meth c Z y bytes ml ret h0 n0 T Ls cells slots) (k : (Cond.fieldLink y.cls i R0 f d).before a0 Z = true ∨ (Cond.fieldLinkNest y.cls i R0 f d host).before a0 Z = true) (via : Via Z R0 O f d) (q : Sta Z h0 O f d v) (hd : decode bytes pc = .ok (.getstatic i, 3)) (hp : pc + 3 = pc')
    (G : ∀ T', St p l e R s m args below meth c Z y bytes ml ret h0 n0 T' Ls cells slots → Go p e below F T' (mkF m pc' ls (v :: st))) : Go p e below F T (mkF m pc ls st) := by
  subst hp
  obtain ⟨w1, locs, X, N, H⟩ := w
  have w1' := w1
  obtain ⟨hx, hZ, hown, hby, -⟩ := w1
  obtain ⟨T', X', e', st'⟩ := getS2 X hx hZ hown k via rfl (q.ext H.2.1) (g := mkF m pc ls st) rfl (hb hby hd)
  exact Go.of st' (G T' ⟨w1', locs, X', N, by rw [e']; exact H⟩)
/-! ### making -/
theorem s_new {i kk : Nat} {C : String} {fs : List (String × String × String)} (vs : List Value) (w : St p l e R s m args below meth c Z y bytes ml ret h0 n0 T Ls cells slots) (k1 : (Cond.classLink y.cls i C).before a0 Z = true) (k2 : (Cond.initialized C).before a0 Z = true) (cl : Cls Z a0 C kk fs) (hd : decode bytes pc = .ok (.new i, 3)) (hvs : ∀ (j : Nat) f v, fs[j]? = some f → vs[j]? = some v → ∃ t, parseFieldDescriptor f.2.2 = some t ∧ v = defaultValue t)
    (hc : cells + 1 ≤ R.cells) (hl : slots + kk ≤ R.slots) (N : Nat) (hN0 : Ls.length = N) (hp : pc + 3 = pc')
    (G : ∀ T', St p l e R s m args below meth c Z y bytes ml ret h0 n0 T' (Ls ++ [.inl (C, fs, vs)]) (cells + 1) (slots + kk) → Go p e below F T' (mkF m pc' ls (.ref (n0 + N) :: st))) : Go p e below F T (mkF m pc ls st) := by
  subst hp; subst hN0
  obtain ⟨w1, locs, X, N, H⟩ := w
  have w1' := w1
  obtain ⟨hx, hZ, hown, hby, -⟩ := w1
  obtain ⟨vm', cC, kC, q1, q2, q3, q4, X', st'⟩ := X.newCold hx hown (mv hZ k1) (mv hZ cl.1) (mv hZ k2) (g := mkF m pc ls st) rfl (hb hby hd) hc hl
  rw [show T.heap.size = n0 + Ls.length from H.2.2.1] at st'
  refine Go.of st' (G _ ⟨w1', locs, X', N, ?_⟩)
  rw [hZ.alike.findClass] at q1
  obtain ⟨kZ, z1, -⟩ := Vm.findClass_spec q1
  obtain ⟨k', z2, z3⟩ := hZ.alike.2.2 _ _ z1
  cases q2.symm.trans z2
  have ei : kC.instanceTypes = kZ.instanceTypes := by rw [z3]
  have hN : (T.heap.push ({ cls := cC, slots := kC.instanceTypes.map defaultValue, vm := .none } : Cell))[n0 + Ls.length]? = some { cls := cC, slots := kC.instanceTypes.map defaultValue, vm := .none } := by rw [← H.2.2.1]; simp
  refine Hp.push (h := T.heap) H ⟨⟨_, kZ, hN, q1, z1, rfl, fun _ => by simp [ei]⟩, fun j f v h1 h2 => ?_⟩
  obtain ⟨t, ht, rfl⟩ := hvs j f v h1 h2
  obtain ⟨c1, k1, cf, kf, i', f', a1, a2, a3, a4, a5, a6, -⟩ := (cl.2.1 j f h1).1.spec
  cases q1.symm.trans a1
  cases z1.symm.trans a2
  exact ⟨_, cf, kf, i', f', hN, a3, a4, by simp, rfl, a5, by simp [ei, a6, (State.fieldFound?_type a3 ht).2]⟩
theorem s_newarray {aty : ArrayType} {x : Int32} {ty : FieldType} (w : St p l e R s m args below meth c Z y bytes ml ret h0 n0 T Ls cells slots) (k : (Cond.arrayClass ty).before a0 Z = true) (hty : newarray.typeOf aty = ty) (hno : ∀ C, ty ≠ .object C) (hd : decode bytes pc = .ok (.newarray aty, 2)) (hx0 : ¬ x < 0) (cap : Nat) (hcap : x.toNatClampNeg ≤ cap) (hbig : cap * 8 ≤ 536870912) (hc : cells + 1 ≤ R.cells) (hl : slots + cap ≤ R.slots) (N : Nat) (hN0 : Ls.length = N) (hp : pc + 2 = pc')
    (G : ∀ T', St p l e R s m args below meth c Z y bytes ml ret h0 n0 T' (Ls ++ [.inr (ty, List.replicate x.toNatClampNeg (defaultValue ty))]) (cells + 1) (slots + cap) → Go p e below F T' (mkF m pc' ls (.ref (n0 + N) :: st))) : Go p e below F T (mkF m pc ls (.int x :: st)) := by
  subst hp; subst hty; subst hN0
  obtain ⟨w1, locs, X, N, H⟩ := w
  have w1' := w1
  obtain ⟨hx, hZ, hown, hby, -⟩ := w1
  have hcb : componentBytes (newarray.typeOf aty) ≤ 8 := by cases aty <;> decide
  obtain ⟨cA, kA, comp, q1, q2, q3, X', st'⟩ := X.newarrayPrim hx (mvA hZ k) (g := mkF m pc ls (.int x :: st)) rfl (hb hby hd) rfl hx0 (Nat.le_trans (Nat.mul_le_mul hcap hcb) hbig) hc (by omega)
  rw [show T.heap.size = n0 + Ls.length from H.2.2.1] at st'
  refine Go.of st' (G _ ⟨w1', locs, X'.more (Nat.le_refl _) (by omega), N, ?_⟩)
  rw [hZ.alike.findClass] at q1
  obtain ⟨kZ, z1, -⟩ := Vm.findClass_spec q1
  obtain ⟨k', z2, z3⟩ := hZ.alike.2.2 _ _ z1
  cases q2.symm.trans z2
  have kk : kZ.kind = .array comp (newarray.typeOf aty) := by rw [← q3, z3]
  have hN : (T.heap.push ({ cls := cA, slots := Array.replicate x.toNatClampNeg (defaultValue (newarray.typeOf aty)), vm := .none } : Cell))[n0 + Ls.length]? = some { cls := cA, slots := Array.replicate x.toNatClampNeg (defaultValue (newarray.typeOf aty)), vm := .none } := by rw [← H.2.2.1]; simp
  refine Hp.push (h := T.heap) H (Or.inr ⟨_, ⟨hN, ⟨by simp, kZ, z1, comp, kk⟩, by simp⟩, fun C q => absurd q (hno C), by simp, by simpa using (back32 hx0).2, fun v hv => ?_⟩)
  rw [List.eq_of_mem_replicate hv]; cases aty <;> rfl
theorem s_anewarray {i : Nat} {x : Int32} {C : String} (w : St p l e R s m args below meth c Z y bytes ml ret h0 n0 T Ls cells slots) (k1 : (Cond.classLink y.cls i C).before a0 Z = true) (k2 : (Cond.arrayOver (.object C)).before a0 Z = true) (hd : decode bytes pc = .ok (.anewarray i, 3)) (hx0 : ¬ x < 0) (cap : Nat) (hcap : x.toNatClampNeg ≤ cap) (hbig : cap * 8 ≤ 536870912) (hc : cells + 1 ≤ R.cells) (hl : slots + cap ≤ R.slots) (N : Nat) (hN0 : Ls.length = N) (hp : pc + 3 = pc')
    (G : ∀ T', St p l e R s m args below meth c Z y bytes ml ret h0 n0 T' (Ls ++ [.inr (.object C, List.replicate x.toNatClampNeg .null)]) (cells + 1) (slots + cap) → Go p e below F T' (mkF m pc' ls (.ref (n0 + N) :: st))) : Go p e below F T (mkF m pc ls (.int x :: st)) := by
  subst hp; subst hN0
  obtain ⟨w1, locs, X, N, H⟩ := w
  have w1' := w1
  obtain ⟨hx, hZ, hown, hby, -⟩ := w1
  obtain ⟨vm₁, cA, kA, comp, -, q1, q2, q3, q4, X', st'⟩ := X.anewarrayRefK hx hown (mv hZ k1) (Cond.arrayOver_alike hZ.alike k2) (g := mkF m pc ls (.int x :: st)) rfl (hb hby hd) rfl hx0 (by omega) hc (by omega)
  rw [show T.heap.size = n0 + Ls.length from H.2.2.1] at st'
  refine Go.of st' (G _ ⟨w1', locs, X'.more (Nat.le_refl _) (by omega), N, ?_⟩)
  rw [hZ.alike.findClass] at q1 q4
  obtain ⟨kZ, z1, -⟩ := Vm.findClass_spec q1
  obtain ⟨k', z2, z3⟩ := hZ.alike.2.2 _ _ z1
  cases q2.symm.trans z2
  have kk : kZ.kind = .array comp (.object C) := by rw [← q3, z3]
  have hN : (T.heap.push ({ cls := cA, slots := Array.replicate x.toNatClampNeg .null, vm := .none } : Cell))[n0 + Ls.length]? = some { cls := cA, slots := Array.replicate x.toNatClampNeg .null, vm := .none } := by rw [← H.2.2.1]; simp
  refine Hp.push (h := T.heap) H (Or.inr ⟨_, ⟨hN, ⟨by simp, kZ, z1, comp, kk⟩, by simp⟩, fun C' q => by cases q; exact ⟨kZ, comp, z1, kk, q4⟩, by simp, by simpa using (back32 hx0).2, fun v hv => ?_⟩)
  rw [List.eq_of_mem_replicate hv]; rfl
/-! ### arrays -/
theorem inb {vs : List Value} {x : Int32} {cl : Cell} (hs : cl.slots = vs.toArray) (hx0 : ¬ x < 0) {v : Value} (hv : vs[x.toNatClampNeg]? = some v) : ¬ (x < 0 ∨ cl.slots.size ≤ x.toNatClampNeg) := by
  have := (List.getElem?_eq_some_iff.mp hv).1
  rw [hs]; simp [hx0]; exact this
theorem s_arraylength {ty : FieldType} {vs : List Value} (z : Int32) (w : St p l e R s m args below meth c Z y bytes ml ret h0 n0 T Ls cells slots) (q : Lk Z h0 n0 Ls a (.inr (ty, vs))) (hd : decode bytes pc = .ok (.arraylength, 1)) (hz : vs.length.toInt32 = z) (hp : pc + 1 = pc') (G : Go p e below F T (mkF m pc' ls (.int z :: st))) (hq0 : ty ≠ .object "" := by simp) : Go p e below F T (mkF m pc ls (.ref a :: st)) := by
  subst hp; subst hz
  obtain ⟨⟨hx, hZ, hown, hby, -⟩, locs, X, N, H⟩ := w
  obtain ⟨cl, A, -, hs, -⟩ := (H.lk q).resolve_left hq0
  refine Go.of (fun t k => X.arraylength hx A.1 (State.isArrayOf_alike hZ.alike A.2.1) (g := mkF m pc ls (.ref a :: st)) rfl rfl (hb hby hd) t ?_) G
  rw [show cl.slots.size.toInt32 = vs.length.toInt32 by rw [hs]; simp]; exact k
theorem s_iaload {vs : List Value} {x : Int32} (w : St p l e R s m args below meth c Z y bytes ml ret h0 n0 T Ls cells slots) (q : Lk Z h0 n0 Ls a (.inr (.int, vs))) (hd : decode bytes pc = .ok (.iaload, 1)) (hx0 : ¬ x < 0) (hv : vs[x.toNatClampNeg]? = some v) (hp : pc + 1 = pc') (G : Go p e below F T (mkF m pc' ls (v :: st))) : Go p e below F T (mkF m pc ls (.int x :: .ref a :: st)) := by
  subst hp
  obtain ⟨⟨hx, hZ, hown, hby, -⟩, locs, X, N, H⟩ := w
  obtain ⟨cl, A, -, hs, -⟩ := (H.lk q).resolve_left (fun e => nomatch e)
  exact Go.of (fun t k => X.iaload hx A.1 (State.isArrayOf_alike hZ.alike A.2.1) A.2.2 (inb hs hx0 hv) (by rw [hs]; simpa using hv) (g := mkF m pc ls (.int x :: .ref a :: st)) rfl rfl (hb hby hd) t k) G
theorem s_laload {vs : List Value} {x : Int32} (w : St p l e R s m args below meth c Z y bytes ml ret h0 n0 T Ls cells slots) (q : Lk Z h0 n0 Ls a (.inr (.long, vs))) (hd : decode bytes pc = .ok (.laload, 1)) (hx0 : ¬ x < 0) (hv : vs[x.toNatClampNeg]? = some v) (hp : pc + 1 = pc') (G : Go p e below F T (mkF m pc' ls (v :: st))) : Go p e below F T (mkF m pc ls (.int x :: .ref a :: st)) := by
  subst hp
  obtain ⟨⟨hx, hZ, hown, hby, -⟩, locs, X, N, H⟩ := w
  obtain ⟨cl, A, -, hs, -⟩ := (H.lk q).resolve_left (fun e => nomatch e)
  exact Go.of (fun t k => X.laload hx A.1 (State.isArrayOf_alike hZ.alike A.2.1) A.2.2 (inb hs hx0 hv) (by rw [hs]; simpa using hv) (g := mkF m pc ls (.int x :: .ref a :: st)) rfl rfl (hb hby hd) t k) G
theorem s_aaload {vs : List Value} {x : Int32} {ty : FieldType} (w : St p l e R s m args below meth c Z y bytes ml ret h0 n0 T Ls cells slots) (q : Lk Z h0 n0 Ls a (.inr (ty, vs))) (hty : ty.isReference = true) (hd : decode bytes pc = .ok (.aaload, 1)) (hx0 : ¬ x < 0) (hv : vs[x.toNatClampNeg]? = some v) (hp : pc + 1 = pc') (G : Go p e below F T (mkF m pc' ls (v :: st))) (hq0 : ty ≠ .object "" := by simp) : Go p e below F T (mkF m pc ls (.int x :: .ref a :: st)) := by
  subst hp
  obtain ⟨⟨hx, hZ, hown, hby, -⟩, locs, X, N, H⟩ := w
  obtain ⟨cl, A, -, hs, -⟩ := (H.lk q).resolve_left hq0
  exact Go.of (fun t k => X.aaload hx A.1 (State.isArrayOf_alike hZ.alike A.2.1) hty A.2.2 (inb hs hx0 hv) (by rw [hs]; simpa using hv) (g := mkF m pc ls (.int x :: .ref a :: st)) rfl rfl (hb hby hd) t k) G
theorem s_aaloadA {cl : Cell} {x : Int32} {ty : FieldType} (w : St p l e R s m args below meth c Z y bytes ml ret h0 n0 T Ls cells slots) (A : Arr Z h0 a cl ty) (hty : ty.isReference = true) (hd : decode bytes pc = .ok (.aaload, 1)) (hin : ¬ (x < 0 ∨ cl.slots.size ≤ x.toNatClampNeg)) (hv : cl.slots[x.toNatClampNeg]? = some v) (hp : pc + 1 = pc') (G : Go p e below F T (mkF m pc' ls (v :: st))) : Go p e below F T (mkF m pc ls (.int x :: .ref a :: st)) := by
  subst hp
  obtain ⟨⟨hx, hZ, hown, hby, -⟩, locs, X, N, H⟩ := w
  have A := A.ext H.2.1
  exact Go.of (fun t k => X.aaload hx A.1 (State.isArrayOf_alike hZ.alike A.2.1) hty A.2.2 hin hv (g := mkF m pc ls (.int x :: .ref a :: st)) rfl rfl (hb hby hd) t k) G
theorem s_arraylengthA {cl : Cell} {ty : FieldType} (z : Int32) (w : St p l e R s m args below meth c Z y bytes ml ret h0 n0 T Ls cells slots) (A : Arr Z h0 a cl ty) (hd : decode bytes pc = .ok (.arraylength, 1)) (hz : cl.slots.size.toInt32 = z) (hp : pc + 1 = pc') (G : Go p e below F T (mkF m pc' ls (.int z :: st))) : Go p e below F T (mkF m pc ls (.ref a :: st)) := by
  subst hp; subst hz
  obtain ⟨⟨hx, hZ, hown, hby, -⟩, locs, X, N, H⟩ := w
  have A := A.ext H.2.1
  exact Go.of (fun t k => X.arraylength hx A.1 (State.isArrayOf_alike hZ.alike A.2.1) (g := mkF m pc ls (.ref a :: st)) rfl rfl (hb hby hd) t k) G
theorem Is.aset {vs : List Value} {ty : FieldType} {cl : Cell} {j : Nat} (A : Arr Z h a cl ty) (O : ∀ C, ty = .object C → Ovr Z cl.cls C) (hs : cl.slots = vs.toArray) (hl : vs.length < 2 ^ 31) (hf : ∀ v ∈ vs, fits ty v = true) (hv : fits ty v = true) (W : Wr h h' a j v) : Is Z h' a (.inr (ty, vs.set j v)) :=
  Or.inr ⟨cl.setSlot j v, A.same W, O, by simp [Cell.setSlot, hs], by simpa using hl, fun u hu => (List.mem_or_eq_of_mem_set hu).elim (hf u) fun e => e ▸ hv⟩
theorem s_iastore {vs : List Value} {x z : Int32} {k : Nat} (w : St p l e R s m args below meth c Z y bytes ml ret h0 n0 T Ls cells slots) (q : Ls[k]? = some (.inr (.int, vs))) (hd : decode bytes pc = .ok (.iastore, 1)) (hx0 : ¬ x < 0) (hv : x.toNatClampNeg < vs.length) (hp : pc + 1 = pc')
    (G : ∀ T', St p l e R s m args below meth c Z y bytes ml ret h0 n0 T' (Ls.set k (.inr (.int, vs.set x.toNatClampNeg (.int z)))) cells slots → Go p e below F T' (mkF m pc' ls st)) : Go p e below F T (mkF m pc ls (.int z :: .int x :: .ref (n0 + k) :: st)) := by
  subst hp
  obtain ⟨w1, locs, X, N, H⟩ := w
  have w1' := w1
  obtain ⟨hx, hZ, hown, hby, -⟩ := w1
  obtain ⟨cl, A, O, hs, hl, hf⟩ := (H.at q).resolve_left (fun e => nomatch e)
  obtain ⟨T', h', X', e', W', st'⟩ := stI X hx hZ rfl A (inb hs hx0 (List.getElem?_eq_getElem hv)) (g := mkF m pc ls (.int z :: .int x :: .ref (n0 + k) :: st)) rfl rfl (hb hby hd)
  exact Go.of st' (G T' ⟨w1', _, X', Fr.snoc X' N (Nat.le_add_right _ _), by rw [e']; exact H.wr q W' (Is.aset A O hs hl hf rfl W')⟩)
theorem s_lastore {vs : List Value} {x : Int32} {z : Int64} {k : Nat} (w : St p l e R s m args below meth c Z y bytes ml ret h0 n0 T Ls cells slots) (q : Ls[k]? = some (.inr (.long, vs))) (hd : decode bytes pc = .ok (.lastore, 1)) (hx0 : ¬ x < 0) (hv : x.toNatClampNeg < vs.length) (hp : pc + 1 = pc')
    (G : ∀ T', St p l e R s m args below meth c Z y bytes ml ret h0 n0 T' (Ls.set k (.inr (.long, vs.set x.toNatClampNeg (.long z)))) cells slots → Go p e below F T' (mkF m pc' ls st)) : Go p e below F T (mkF m pc ls (.long z :: .int x :: .ref (n0 + k) :: st)) := by
  subst hp
  obtain ⟨w1, locs, X, N, H⟩ := w
  have w1' := w1
  obtain ⟨hx, hZ, hown, hby, -⟩ := w1
  obtain ⟨cl, A, O, hs, hl, hf⟩ := (H.at q).resolve_left (fun e => nomatch e)
  obtain ⟨T', h', X', e', W', st'⟩ := stJ X hx hZ rfl A (inb hs hx0 (List.getElem?_eq_getElem hv)) (g := mkF m pc ls (.long z :: .int x :: .ref (n0 + k) :: st)) rfl rfl (hb hby hd)
  exact Go.of st' (G T' ⟨w1', _, X', Fr.snoc X' N (Nat.le_add_right _ _), by rw [e']; exact H.wr q W' (Is.aset A O hs hl hf rfl W')⟩)
theorem Lk.ins {C K : String} {fs : List (String × String × String)} {vs : List Value} (H : Hp Z h0 n0 Ls h) (q : Lk Z h0 n0 Ls a (.inl (C, fs, vs))) (k : C = K ∨ (Cond.castable C K).before a0 Z = true) : Ins Z h a K true := by
  rcases k with rfl | k
  · exact Ins.self (H.lk q).1
  · exact Ins.of_exa (H.lk q).1 k
theorem s_aastore {vs us : List Value} {x : Int32} {k : Nat} {C K : String} {fs : List (String × String × String)} (w : St p l e R s m args below meth c Z y bytes ml ret h0 n0 T Ls cells slots) (q : Ls[k]? = some (.inr (.object K, vs))) (qb : Lk Z h0 n0 Ls b (.inl (C, fs, us))) (kc : C = K ∨ (Cond.castable C K).before a0 Z = true) (hd : decode bytes pc = .ok (.aastore, 1)) (hx0 : ¬ x < 0) (hv : x.toNatClampNeg < vs.length) (hp : pc + 1 = pc')
    (G : ∀ T', St p l e R s m args below meth c Z y bytes ml ret h0 n0 T' (Ls.set k (.inr (.object K, vs.set x.toNatClampNeg (.ref b)))) cells slots → Go p e below F T' (mkF m pc' ls st)) (hq0 : FieldType.object K ≠ .object "" := by simp) : Go p e below F T (mkF m pc ls (.ref b :: .int x :: .ref (n0 + k) :: st)) := by
  subst hp
  obtain ⟨w1, locs, X, N, H⟩ := w
  have w1' := w1
  obtain ⟨hx, hZ, hown, hby, -⟩ := w1
  obtain ⟨cl, A, O, hs, hl, hf⟩ := (H.at q).resolve_left hq0
  obtain ⟨T', h', X', e', W', st'⟩ := stR X hx hZ rfl A (inb hs hx0 (List.getElem?_eq_getElem hv)) rfl (Sto.of A (O K rfl) (Lk.ins H qb kc)) (g := mkF m pc ls (.ref b :: .int x :: .ref (n0 + k) :: st)) rfl rfl (hb hby hd)
  exact Go.of st' (G T' ⟨w1', _, X', Fr.snoc X' N (Nat.le_add_right _ _), by rw [e']; exact H.wr q W' (Is.aset A O hs hl hf rfl W')⟩)
theorem s_checkcast {i : Nat} {C K : String} {fs : List (String × String × String)} {vs : List Value} (w : St p l e R s m args below meth c Z y bytes ml ret h0 n0 T Ls cells slots) (k : (Cond.classLink y.cls i K).before a0 Z = true) (q : Lk Z h0 n0 Ls a (.inl (C, fs, vs))) (kc : C = K ∨ (Cond.castable C K).before a0 Z = true) (hd : decode bytes pc = .ok (.checkcast i, 3)) (hp : pc + 3 = pc')
    (G : ∀ T', St p l e R s m args below meth c Z y bytes ml ret h0 n0 T' Ls cells slots → Go p e below F T' (mkF m pc' ls (.ref a :: st))) : Go p e below F T (mkF m pc ls (.ref a :: st)) := by
  subst hp
  obtain ⟨w1, locs, X, N, H⟩ := w
  have w1' := w1
  obtain ⟨hx, hZ, hown, hby, -⟩ := w1
  obtain ⟨T', X', e', st'⟩ := castY X hx hZ hown k rfl (Lk.ins H q kc) (g := mkF m pc ls (.ref a :: st)) rfl rfl (hb hby hd)
  exact Go.of st' (G T' ⟨w1', locs, X', N, by rw [e']; exact H⟩)
theorem copied_slots {cs cd : Cell} {vs vd : List Value} {sp dp nn : Int32} (hs : cs.slots = vs.toArray) (hd : cd.slots = vd.toArray) (h4 : sp.toNatClampNeg + nn.toNatClampNeg ≤ vs.length) (h5 : dp.toNatClampNeg + nn.toNatClampNeg ≤ vd.length) :
    (cd.storeRun dp.toNatClampNeg (cs.stretch sp.toNatClampNeg nn.toNatClampNeg)).slots = (vd.take dp.toNatClampNeg ++ (vs.drop sp.toNatClampNeg).take nn.toNatClampNeg ++ vd.drop (dp.toNatClampNeg + nn.toNatClampNeg)).toArray := by
  have est : cs.stretch sp.toNatClampNeg nn.toNatClampNeg = (vs.drop sp.toNatClampNeg).take nn.toNatClampNeg := by
    apply List.ext_getElem?
    intro i
    by_cases hi : i < nn.toNatClampNeg
    · rw [List.getElem?_take_of_lt hi, List.getElem?_drop]
      simp only [Cell.stretch, List.getElem?_map, List.getElem?_range hi, Option.map_some, hs, Array.getD_eq_getD_getElem?, List.getElem?_toArray]
      rw [List.getElem?_eq_getElem (by omega)]; rfl
    · rw [List.getElem?_eq_none (by simp [Cell.stretch]; omega), List.getElem?_eq_none (by simp; omega)]
  have ul : ((vs.drop sp.toNatClampNeg).take nn.toNatClampNeg).length = nn.toNatClampNeg := by simp; omega
  rw [est]
  generalize (vs.drop sp.toNatClampNeg).take nn.toNatClampNeg = us at *
  apply Array.ext_getElem?
  intro j
  rw [Cell.storeRun_get _ _ _ _ (by rw [ul, hd]; simpa using h5), ul, hd]
  simp only [List.getElem?_toArray]
  have lt : (vd.take dp.toNatClampNeg).length = dp.toNatClampNeg := by rw [List.length_take]; omega
  by_cases c1 : j < dp.toNatClampNeg
  · rw [if_neg (by omega), List.append_assoc, List.getElem?_append_left (by omega), List.getElem?_take_of_lt c1]
  · by_cases c2 : j < dp.toNatClampNeg + nn.toNatClampNeg
    · rw [if_pos ⟨by omega, c2⟩, List.getElem?_append_left (by rw [List.length_append]; omega), List.getElem?_append_right (by omega), lt]
    · rw [if_neg (by omega), List.getElem?_append_right (by rw [List.length_append]; omega), List.length_append, lt, ul, List.getElem?_drop, show dp.toNatClampNeg + nn.toNatClampNeg + (j - (dp.toNatClampNeg + nn.toNatClampNeg)) = j by omega]
theorem s_arraycopy {ty : FieldType} {vs vd : List Value} {sp dp nn : Int32} {i k : Nat} (W : Nat) (w : St p l e R s m args below meth c Z y bytes ml ret h0 n0 T Ls cells slots) (qa : Lk Z h0 n0 Ls a (.inr (ty, vs))) (qb : Ls[k]? = some (.inr (ty, vd))) (hty : refKind ty = false)
    (k1 : (Cond.methodLink y.cls i Jvm.Stand.acN).before a0 Z = true) (k2 : (Cond.native Jvm.Stand.acN).before a0 Z = true) (k3 : (Cond.static Jvm.Stand.acN).before a0 Z = true) (k4 : (Cond.initialized "java/lang/System").before a0 Z = true)
    (h1 : ¬ sp < 0) (h2 : ¬ dp < 0) (h3 : ¬ nn < 0) (h4 : sp.toNatClampNeg + nn.toNatClampNeg ≤ vs.length) (h5 : dp.toNatClampNeg + nn.toNatClampNeg ≤ vd.length)
    (hd : decode bytes pc = .ok (.invokestatic i, 3)) (hsz : ls.size = ml) (hf : 1 ≤ R.frames) (hW : (st.map fun v => v.category).sum ≤ W) (hlo : W + (nativeFrameWords "java/lang/System" "arraycopy" 5 + 11) ≤ R.locals) (hp : pc + 3 = pc')
    (G : ∀ T', St p l e R s m args below meth c Z y bytes ml ret h0 n0 T' (Ls.set k (.inr (ty, vd.take dp.toNatClampNeg ++ (vs.drop sp.toNatClampNeg).take nn.toNatClampNeg ++ vd.drop (dp.toNatClampNeg + nn.toNatClampNeg)))) cells slots → Go p e below F T' (mkF m pc' ls st)) :
    Go p e below F T (mkF m pc ls (.int nn :: .int dp :: .ref (n0 + k) :: .int sp :: .ref a :: st)) := by
  subst hp
  obtain ⟨w1, locs, X, N, H⟩ := w
  have w1' := w1
  obtain ⟨hx, hZ, hown, hby, hml, -⟩ := w1
  have hq0 : ty ≠ .object "" := fun e => by rw [e] at hty; cases hty
  obtain ⟨cs, As, Os, hs, hls, hfs⟩ := (H.lk qa).resolve_left hq0
  obtain ⟨cd, Ad, Od, hdd, hld, hfd⟩ := (H.at qb).resolve_left hq0
  obtain ⟨os, ks, hks, sc, hsk⟩ := State.isArrayOf_alike (T := s) hZ.alike As.2.1
  obtain ⟨od, kd, hkd, dc, hdk⟩ := State.isArrayOf_alike (T := s) hZ.alike Ad.2.1
  have ss : cs.slots.size = vs.length := by rw [hs]; simp
  have sd : cd.slots.size = vd.length := by rw [hdd]; simp
  have fit : ∀ i, i < nn.toNatClampNeg → fits ty (cs.slots.getD (sp.toNatClampNeg + i) .null) = true := fun i hi => by
    rw [hs, Array.getD_eq_getD_getElem?, List.getElem?_toArray, List.getElem?_eq_getElem (by omega)]
    exact hfs _ (List.getElem_mem _)
  obtain ⟨vm₁, hW₁, X', st'⟩ := X.arraycopyK hx hown (mvT hZ k1) (mvT hZ k2) (mvT hZ k3) (mvT hZ k4) As.1 Ad.1 os od As.2.2 Ad.2.2 hks hkd hsk hdk (by simp [hty]) h1 h2 h3 (by rw [nat_of h1, nat_of h3, ss]; omega) (by rw [nat_of h2, nat_of h3, sd]; omega)
    (fun vm₁ hw i hi => by
      have q := fit i hi
      refine ⟨q, ?_⟩
      generalize cs.slots.getD (sp.toNatClampNeg + i) .null = u at q ⊢
      cases u <;> first | trivial | exact (prim_no_ref hty q).elim)
    (g := mkF m pc ls (.int nn :: .int dp :: .ref (n0 + k) :: .int sp :: .ref a :: st)) rfl (by rw [hml]; exact hsz) rfl (hb hby hd) hf (by show 2 * 0 + _ + _ ≤ _; omega)
  refine Go.of st' (G _ ⟨w1', _, X', N.app fun y hy => by rw [Jvm.Stand.copyLocs_base hy]; omega, ?_⟩)
  have cf := cd.storeRun_facts dp.toNatClampNeg (cs.stretch sp.toNatClampNeg nn.toNatClampNeg)
  have eh : ((T.setVm vm₁).setCell (n0 + k) (copied cs cd sp dp nn)).heap = T.heap.setIfInBounds (n0 + k) (cd.storeRun dp.toNatClampNeg (cs.stretch sp.toNatClampNeg nn.toNatClampNeg)) := rfl
  rw [eh]
  have hb' : n0 + k < T.heap.size := Ad.lt
  refine H.keep qb ⟨by simp, fun x c q r => ?_, fun x c q => ?_⟩ (by simp) (Or.inr ⟨_, ⟨by rw [Array.getElem?_setIfInBounds_self_of_lt hb'], ?_, by rw [cf.2.1]; exact Ad.2.2⟩, fun C e => ?_, copied_slots hs hdd h4 h5, by simp; omega, fun v hv => ?_⟩)
  · have : n0 + k ≠ x := fun z => r (by simp [z])
    rw [Array.getElem?_setIfInBounds_ne this]; exact q
  · by_cases u : n0 + k = x
    · subst u; cases Ad.1.symm.trans q
      exact ⟨_, by rw [Array.getElem?_setIfInBounds_self_of_lt hb'], cf.1, cf.2.1, cf.2.2.1⟩
    · exact ⟨c, by rw [Array.getElem?_setIfInBounds_ne u]; exact q, rfl, rfl, rfl⟩
  · have := Ad.2.1; unfold State.isArrayOf at this ⊢; rw [cf.1, cf.2.1]; exact this
  · rw [e] at hty; cases hty
  · rcases List.mem_append.mp hv with hv | hv
    · rcases List.mem_append.mp hv with hv | hv
      · exact hfd _ (List.mem_of_mem_take hv)
      · exact hfs _ (List.mem_of_mem_drop (List.mem_of_mem_take hv))
    · exact hfd _ (List.mem_of_mem_drop hv)
/-! ### calls -/
theorem backC {y' : MethodName} {by' : ByteArray} {ml' : Nat} {ret' : Option FieldType} {rm : Room} {as' : Array Value} {Q : Option Value → List Ob → Prop} {len W : Nat} (K : Con l Z y' by' ml' ret' rm as' h0 n0 Ls Q) (H : Hp Z h0 n0 Ls h) (hZ : Z.Warmed39 s.vm) (wc : (Cond.code y' by' ml' ret').before a0 Z = true) (wz : (Cond.initialized y'.cls).before a0 Z = true) (hf : rm.frames + 1 ≤ R.frames) (hl : W + (ml' + 11) + rm.locals ≤ R.locals) :
    Back l R p e below s args y' len W (fun A a => a = as' ∧ A.U.heap = h ∧ A.cells + rm.cells ≤ R.cells ∧ A.slots + rm.slots ≤ R.slots)
      (fun A _ v B => ∃ L, (∃ Ls', Q v Ls' ∧ Fr n0 L ∧ Hp Z h0 n0 Ls' B.U.heap) ∧ B.locs = A.locs ++ L ∧ B.cells = A.cells + rm.cells ∧ B.slots = A.slots + rm.slots) :=
  backOf (Q := fun v h L => ∃ Ls', Q v Ls' ∧ Fr n0 L ∧ Hp Z h0 n0 Ls' h) (K h H) hZ wc wz hf hl
theorem s_static {i : Nat} {y' : MethodName} {by' : ByteArray} {ml' : Nat} {ret' : Option FieldType} {rm : Room} {as' : Array Value} {Q : Option Value → List Ob → Prop} {ps : List FieldType} {rr : Option FieldType} (W : Nat) (argsL : List Value) (w : St p l e R s m args below meth c Z y bytes ml ret h0 n0 T Ls cells slots) (K : Con l Z y' by' ml' ret' rm as' h0 n0 Ls Q)
    (k1 : (Cond.methodLink y.cls i y').before a0 Z = true) (k2 : (Cond.static y').before a0 Z = true) (k3 : (Cond.initialized y'.cls).before a0 Z = true) (k4 : (Cond.code y' by' ml' ret').before a0 Z = true) (hy : y'.cls ≠ "java/lang/invoke/MethodHandle" ∧ y'.cls ≠ "java/lang/invoke/VarHandle") (pd : parseMethodDescriptor y'.desc = some ⟨ps, rr⟩) (hd : decode bytes pc = .ok (.invokestatic i, 3))
    (hrm : rm.frames + 1 ≤ R.frames ∧ W + (ml' + 11) + rm.locals ≤ R.locals ∧ cells + rm.cells ≤ R.cells ∧ slots + rm.slots ≤ R.slots) (hsz : ls.size = ml) (hpl : argsL.length = ps.length) (has : argsL.toArray = as') (hst : st = argsL.reverse ++ rest) (hW : (rest.map fun v => v.category).sum ≤ W) (hp : pc + 3 = pc')
    (G : ∀ T' v Ls', Q v Ls' → St p l e R s m args below meth c Z y bytes ml ret h0 n0 T' Ls' (cells + rm.cells) (slots + rm.slots) → Go p e below F T' (mkF m pc' ls (v.toList ++ rest))) : Go p e below F T (mkF m pc ls st) := by
  subst hp; subst hst
  obtain ⟨w1, locs, X, N, H⟩ := w
  have w1' := w1
  obtain ⟨hx, hZ, hown, hby, hml, -⟩ := w1
  obtain ⟨v, _, ⟨T', L', c', n'⟩, -, X', ⟨Lc, ⟨Ls', hQ, N', H'⟩, l', z1, z2⟩, st'⟩ := Jvm.LawKit.callS X hx hown (mvT hZ k1) (mvT hZ k2) (mvT hZ k3) (mvT hZ k4) hy (backC (W := W) K H hZ k4 k3 hrm.1 hrm.2.1) (g := mkF m pc ls (argsL.reverse ++ rest)) rfl (by rw [hml]; exact hsz) (argsL := argsL) (rest := rest) (lenOf pd hpl) rfl (by show 2 * 0 + _ ≤ _; omega) (hb hby hd) (fun _ _ => ⟨has, rfl, hrm.2.2.1, hrm.2.2.2⟩)
  dsimp only [Pt.U, Pt.locs, Pt.cells, Pt.slots] at X' l' z1 z2 st' H'
  subst l' z1 z2
  exact Go.of st' (G T' v Ls' hQ ⟨w1', _, X', Fr.app N N', H'⟩)
theorem s_special {i : Nat} {y' : MethodName} {by' : ByteArray} {ml' : Nat} {rm : Room} {as' : Array Value} {Q : Option Value → List Ob → Prop} {ps : List FieldType} {rr : Option FieldType} (W : Nat) (argsL : List Value) (w : St p l e R s m args below meth c Z y bytes ml ret h0 n0 T Ls cells slots) (K : Con l Z y' by' ml' none rm as' h0 n0 Ls Q)
    (hy1 : y'.name = "<init>") (k1 : (Cond.methodLink y.cls i y').before a0 Z = true) (k2 : (Cond.instanceMethod y').before a0 Z = true) (k3 : (Cond.initialized y'.cls).before a0 Z = true) (k4 : (Cond.code y' by' ml' none).before a0 Z = true) (hy : y'.cls ≠ "java/lang/invoke/MethodHandle" ∧ y'.cls ≠ "java/lang/invoke/VarHandle") (pd : parseMethodDescriptor y'.desc = some ⟨ps, rr⟩) (hd : decode bytes pc = .ok (.invokespecial i, 3))
    (hrm : rm.frames + 1 ≤ R.frames ∧ W + (ml' + 11) + rm.locals ≤ R.locals ∧ cells + rm.cells ≤ R.cells ∧ slots + rm.slots ≤ R.slots) (hsz : ls.size = ml) (hpl : argsL.length = ps.length) (has : (.ref a :: argsL).toArray = as') (hst : st = argsL.reverse ++ .ref a :: rest) (hW : (rest.map fun v => v.category).sum ≤ W) (hp : pc + 3 = pc')
    (G : ∀ T' v Ls', Q v Ls' → St p l e R s m args below meth c Z y bytes ml ret h0 n0 T' Ls' (cells + rm.cells) (slots + rm.slots) → Go p e below F T' (mkF m pc' ls (v.toList ++ rest))) : Go p e below F T (mkF m pc ls st) := by
  subst hp; subst hst
  obtain ⟨w1, locs, X, N, H⟩ := w
  have w1' := w1
  obtain ⟨hx, hZ, hown, hby, hml, -⟩ := w1
  obtain ⟨v, _, ⟨T', L', c', n'⟩, -, X', ⟨Lc, ⟨Ls', hQ, N', H'⟩, l', z1, z2⟩, st'⟩ := X.specialBack hx hy1 hown (mvT hZ k1) (mvT hZ k2) (mvT hZ k4) hy (backC (W := W) K H hZ k4 k3 hrm.1 hrm.2.1) (g := mkF m pc ls (argsL.reverse ++ .ref a :: rest)) rfl (by rw [hml]; exact hsz) (Steps.refl _) (argsL := argsL) (rest := rest) (lenOf pd hpl) rfl (by show 2 * 0 + _ ≤ _; omega) (hb hby hd) (fun _ _ => ⟨has, rfl, hrm.2.2.1, hrm.2.2.2⟩)
  dsimp only [Pt.U, Pt.locs, Pt.cells, Pt.slots] at X' l' z1 z2 st' H'
  subst l' z1 z2
  exact Go.of (fun t q => st'.trans q) (G T' v Ls' hQ ⟨w1', _, X', Fr.app N N', H'⟩)
theorem s_virtual {i : Nat} {C : String} {fs : List (String × String × String)} {vs : List Value} {y1 y' : MethodName} {by' : ByteArray} {ml' : Nat} {ret' : Option FieldType} {rm : Room} {as' : Array Value} {Q : Option Value → List Ob → Prop} {ps : List FieldType} {rr : Option FieldType} (W : Nat) (argsL : List Value) (w : St p l e R s m args below meth c Z y bytes ml ret h0 n0 T Ls cells slots) (K : Con l Z y' by' ml' ret' rm as' h0 n0 Ls Q) (q : Lk Z h0 n0 Ls a (.inl (C, fs, vs)))
    (k1 : (Cond.methodLink y.cls i y1).before a0 Z = true) (k2 : (Cond.declares y1).before a0 Z = true) (k5 : NotFace s y1) (k6 : (Cond.selects C y1 y').before a0 Z = true) (k7 : (Cond.instanceMethod y').before a0 Z = true) (k3 : (Cond.initialized y'.cls).before a0 Z = true) (k4 : (Cond.code y' by' ml' ret').before a0 Z = true) (hy : y1.cls ≠ "java/lang/invoke/MethodHandle" ∧ y1.cls ≠ "java/lang/invoke/VarHandle") (pd : parseMethodDescriptor y1.desc = some ⟨ps, rr⟩) (hd : decode bytes pc = .ok (.invokevirtual i, 3))
    (hrm : rm.frames + 1 ≤ R.frames ∧ W + (ml' + 11) + rm.locals ≤ R.locals ∧ cells + rm.cells ≤ R.cells ∧ slots + rm.slots ≤ R.slots) (hsz : ls.size = ml) (hpl : argsL.length = ps.length) (has : (.ref a :: argsL).toArray = as') (hst : st = argsL.reverse ++ .ref a :: rest) (hW : (rest.map fun v => v.category).sum ≤ W) (hp : pc + 3 = pc')
    (G : ∀ T' v Ls', Q v Ls' → St p l e R s m args below meth c Z y bytes ml ret h0 n0 T' Ls' (cells + rm.cells) (slots + rm.slots) → Go p e below F T' (mkF m pc' ls (v.toList ++ rest))) : Go p e below F T (mkF m pc ls st) := by
  subst hp; subst hst
  obtain ⟨w1, locs, X, N, H⟩ := w
  have w1' := w1
  obtain ⟨hx, hZ, hown, hby, hml, -⟩ := w1
  obtain ⟨cq, kq, qa, qb, qc⟩ := isOf (s := s) (T := T) hZ rfl (H.lk q).1
  obtain ⟨v, _, ⟨T', L', c', n'⟩, -, X', ⟨Lc, ⟨Ls', hQ, N', H'⟩, l', z1, z2⟩, st'⟩ := X.virtualBack hx hown (mvT hZ k1) (mvT hZ k2) k5 (mvT hZ k6) (mvT hZ k7) hy (backC (W := W) K H hZ k4 k3 hrm.1 hrm.2.1) qa qc (g := mkF m pc ls (argsL.reverse ++ .ref a :: rest)) rfl (by rw [hml]; exact hsz) (Steps.refl _) (argsL := argsL) (rest := rest) (lenOf pd hpl) rfl (by show 2 * 0 + _ ≤ _; omega) (hb hby hd) (fun _ _ => ⟨has, rfl, hrm.2.2.1, hrm.2.2.2⟩)
  dsimp only [Pt.U, Pt.locs, Pt.cells, Pt.slots] at X' l' z1 z2 st' H'
  subst l' z1 z2
  exact Go.of (fun t q => st'.trans q) (G T' v Ls' hQ ⟨w1', _, X', Fr.app N N', H'⟩)
theorem St.notFace {C : String} {y1 : MethodName} (w : St p l e R s m args below meth c Z y bytes ml ret h0 n0 T Ls cells slots) (k : (Cond.selects C y1 y1).before a0 Z = true) : NotFace s y1 := by
  exact notFace_of_selects (args := #[]) (mvT w.1.2.1 k)
theorem s_face {i n : Nat} {C : String} {fs : List (String × String × String)} {vs : List Value} {y1 y' : MethodName} {by' : ByteArray} {ml' : Nat} {ret' : Option FieldType} {rm : Room} {as' : Array Value} {Q : Option Value → List Ob → Prop} {ps : List FieldType} {rr : Option FieldType} (W : Nat) (argsL : List Value) (w : St p l e R s m args below meth c Z y bytes ml ret h0 n0 T Ls cells slots) (K : Con l Z y' by' ml' ret' rm as' h0 n0 Ls Q) (q : Lk Z h0 n0 Ls a (.inl (C, fs, vs)))
    (k1 : (Cond.methodLink y.cls i y1).before a0 Z = true) (k2 : (Cond.declares y1).before a0 Z = true) (k5 : (Cond.interfaceMethod y1.cls y1.cls y1.name y1.desc).before a0 Z = true) (k6 : (Cond.selects C y1 y').before a0 Z = true) (k7 : (Cond.instanceMethod y').before a0 Z = true) (k8 : (Cond.publicMethod y').before a0 Z = true) (k9 : (Cond.unhidden C y1.name y1.desc).before a0 Z = true) (k10 : (Cond.castable C y1.cls).before a0 Z = true) (k3 : (Cond.initialized y'.cls).before a0 Z = true) (k4 : (Cond.code y' by' ml' ret').before a0 Z = true) (hy : y1.cls ≠ "java/lang/invoke/MethodHandle" ∧ y1.cls ≠ "java/lang/invoke/VarHandle") (pd : parseMethodDescriptor y1.desc = some ⟨ps, rr⟩) (hd : decode bytes pc = .ok (.invokeinterface i n, 5))
    (hrm : rm.frames + 1 ≤ R.frames ∧ W + (ml' + 11) + rm.locals ≤ R.locals ∧ cells + rm.cells ≤ R.cells ∧ slots + rm.slots ≤ R.slots) (hsz : ls.size = ml) (hpl : argsL.length = ps.length) (has : (.ref a :: argsL).toArray = as') (hst : st = argsL.reverse ++ .ref a :: rest) (hW : (rest.map fun v => v.category).sum ≤ W) (hp : pc + 5 = pc')
    (G : ∀ T' v Ls', Q v Ls' → St p l e R s m args below meth c Z y bytes ml ret h0 n0 T' Ls' (cells + rm.cells) (slots + rm.slots) → Go p e below F T' (mkF m pc' ls (v.toList ++ rest))) : Go p e below F T (mkF m pc ls st) := by
  subst hp; subst hst
  obtain ⟨w1, locs, X, N, H⟩ := w
  have w1' := w1
  obtain ⟨hx, hZ, hown, hby, hml, -⟩ := w1
  obtain ⟨cq, kq, qa, qb, qc⟩ := isOf (s := s) (T := T) hZ rfl (H.lk q).1
  obtain ⟨v, _, ⟨T', L', c', n'⟩, -, X', ⟨Lc, ⟨Ls', hQ, N', H'⟩, l', z1, z2⟩, st'⟩ := X.interfaceBack hx hown (mvT hZ k1) (mvT hZ k2) (mvT hZ k5 (by simp [Cond.onTables, Cond.keepsFace, Cond.keeps, Cond.steady, Cond.faceAtom]; exact hy)) (mvT hZ k6) (mvT hZ k7) (mvT hZ k8) (mvT hZ k9) (mvT hZ k10) hy (backC (W := W) K H hZ k4 k3 hrm.1 hrm.2.1) qa qb qc (g := mkF m pc ls (argsL.reverse ++ .ref a :: rest)) rfl (by rw [hml]; exact hsz) (Steps.refl _) (argsL := argsL) (rest := rest) (lenOf pd hpl) rfl (by show 2 * 0 + _ ≤ _; omega) (hb hby hd) (fun _ _ => ⟨has, rfl, hrm.2.2.1, hrm.2.2.2⟩)
  dsimp only [Pt.U, Pt.locs, Pt.cells, Pt.slots] at X' l' z1 z2 st' H'
  subst l' z1 z2
  exact Go.of (fun t q => st'.trans q) (G T' v Ls' hQ ⟨w1', _, X', Fr.app N N', H'⟩)
theorem s_private {i : Nat} {C : String} {fs : List (String × String × String)} {vs : List Value} {y1 y' : MethodName} {by' : ByteArray} {ml' : Nat} {ret' : Option FieldType} {rm : Room} {as' : Array Value} {Q : Option Value → List Ob → Prop} {ps : List FieldType} {rr : Option FieldType} (W : Nat) (argsL : List Value) (w : St p l e R s m args below meth c Z y bytes ml ret h0 n0 T Ls cells slots) (K : Con l Z y' by' ml' ret' rm as' h0 n0 Ls Q) (q : Lk Z h0 n0 Ls a (.inl (C, fs, vs)))
    (k1 : (Cond.methodLink y.cls i y').before a0 Z = true) (k7 : (Cond.instanceMethod y').before a0 Z = true) (k6 : (Cond.selects y'.cls y1 y1).before a0 Z = true) (hy1 : y1.cls = y'.cls) (k5 : (Cond.privateMethod y').before a0 Z = true) (k3 : (Cond.initialized y'.cls).before a0 Z = true) (k4 : (Cond.code y' by' ml' ret').before a0 Z = true) (hy : y'.cls ≠ "java/lang/invoke/MethodHandle" ∧ y'.cls ≠ "java/lang/invoke/VarHandle") (pd : parseMethodDescriptor y'.desc = some ⟨ps, rr⟩) (hd : decode bytes pc = .ok (.invokevirtual i, 3))
    (hrm : rm.frames + 1 ≤ R.frames ∧ W + (ml' + 11) + rm.locals ≤ R.locals ∧ cells + rm.cells ≤ R.cells ∧ slots + rm.slots ≤ R.slots) (hsz : ls.size = ml) (hpl : argsL.length = ps.length) (has : (.ref a :: argsL).toArray = as') (hst : st = argsL.reverse ++ .ref a :: rest) (hW : (rest.map fun v => v.category).sum ≤ W) (hp : pc + 3 = pc')
    (G : ∀ T' v Ls', Q v Ls' → St p l e R s m args below meth c Z y bytes ml ret h0 n0 T' Ls' (cells + rm.cells) (slots + rm.slots) → Go p e below F T' (mkF m pc' ls (v.toList ++ rest))) : Go p e below F T (mkF m pc ls st) := by
  subst hp; subst hst
  obtain ⟨w1, locs, X, N, H⟩ := w
  have w1' := w1
  obtain ⟨hx, hZ, hown, hby, hml, -⟩ := w1
  obtain ⟨cq, qa, qb⟩ := (H.lk q).1.cell
  obtain ⟨c2, r2, m2, -, -, q3, -, kP, hkP, hkPi⟩ := Cond.selects_spec (mvT hZ k6 : (Cond.selects y'.cls y1 y1).before args s = true)
  have hpr : s.PrivateAt y' := Cond.privateMethod_at (mvP hZ k5 (args := #[]))
  have hsel : (Cond.selects y'.cls y' y').before args s = true := selects_self_of_private (hy1 ▸ findClass_of_methodNamed q3) hkP hkPi hpr (mvT hZ k7) hy
  obtain ⟨v, _, ⟨T', L', c', n'⟩, -, X', ⟨Lc, ⟨Ls', hQ, N', H'⟩, l', z1, z2⟩, st'⟩ := X.privateBack hx hown (mvT hZ k1) (mvT hZ k7) hsel hpr (mvT hZ k4) hy (backC (W := W) K H hZ k4 k3 hrm.1 hrm.2.1) (g := mkF m pc ls (argsL.reverse ++ .ref a :: rest)) rfl (by rw [hml]; exact hsz) (Steps.refl _) (a := a) qa qb (argsL := argsL) (rest := rest) (lenOf pd hpl) rfl (by show 2 * 0 + _ ≤ _; omega) (hb hby hd) (fun _ _ => ⟨has, rfl, hrm.2.2.1, hrm.2.2.2⟩)
  dsimp only [Pt.U, Pt.locs, Pt.cells, Pt.slots] at X' l' z1 z2 st' H'
  subst l' z1 z2
  exact Go.of (fun t q => st'.trans q) (G T' v Ls' hQ ⟨w1', _, X', Fr.app N N', H'⟩)
theorem s_initO {i : Nat} (W : Nat) (w : St p l e R s m args below meth c Z y bytes ml ret h0 n0 T Ls cells slots) (k1 : (Cond.methodLink y.cls i Lib.objectInit).before a0 Z = true) (k2 : (Cond.instanceMethod Lib.objectInit).before a0 Z = true) (k3 : (Cond.code Lib.objectInit ⟨#[0xb1]⟩ 1 none).before a0 Z = true) (hd : decode bytes pc = .ok (.invokespecial i, 3)) (hsz : ls.size = ml) (hf : 1 ≤ R.frames) (hW : (st.map fun v => v.category).sum ≤ W) (hl : W + 12 ≤ R.locals) (hp : pc + 3 = pc')
    (G : ∀ T', St p l e R s m args below meth c Z y bytes ml ret h0 n0 T' Ls cells slots → Go p e below F T' (mkF m pc' ls st)) : Go p e below F T (mkF m pc ls (.ref a :: st)) := by
  subst hp
  obtain ⟨w1, locs, X, N, H⟩ := w
  have w1' := w1
  obtain ⟨hx, hZ, hown, hby, hml, -⟩ := w1
  obtain ⟨T', X', e', st'⟩ := initO X hx hZ hown k1 k2 k3 rfl (g := mkF m pc ls (.ref a :: st)) rfl (by rw [hml]; exact hsz) rfl (hb hby hd) hf (W := W) (by show 2 * 0 + _ ≤ _; omega) hl
  exact Go.of st' (G T' ⟨w1', locs, X', N, by rw [e']; exact H⟩)


abbrev dum : Ob := .inr (.object "", [])
theorem Hp.more (H : Hp Z h0 n0 Ls h) (E : Ext h h') : Hp Z h0 n0 (Ls ++ List.replicate (h'.size - h.size) dum) h' := by
  obtain ⟨q1, E0, q2, q3⟩ := H
  have hle := E.1
  refine ⟨q1, ext_trans E0 E, by simp [q2] at hle ⊢; omega, fun k o r => ?_⟩
  by_cases hk : k < Ls.length
  · rw [List.getElem?_append_left hk] at r; exact (q3 k o r).ext E
  · rw [List.getElem?_append_right (Nat.le_of_not_lt hk)] at r
    cases (List.eq_of_mem_replicate (List.mem_of_getElem? r))
    exact Or.inl rfl
def FinW (Z : State) (h0 : Heap) (n0 : Nat) (s : State) (rm : Room) (P : Option Value → List Ob → Prop) (t : State) (o : Outcome) : Prop :=
  ∃ v L, o = .returned v ∧ (∃ Ls', P v Ls' ∧ Fr n0 L ∧ Hp Z h0 n0 Ls' t.heap) ∧ ReturnedEndW s o t L rm.cells rm.slots
def MetW (l : Launch) (Z : State) (y : MethodName) (bytes : ByteArray) (ml : Nat) (ret : Option FieldType) (rm : Room) (as' : Array Value) (h0 : Heap) (n0 : Nat) (Ls : List Ob) (P : Option Value → List Ob → Prop) (ws : List Jvm.Cond) : Prop :=
  ∀ h, Hp Z h0 n0 Ls h → MetFree l y (head1 (Cond.code y bytes ml ret :: ws) rm) (fun a U => a = as' ∧ Z.Warmed39 U.vm ∧ U.heap = h) (fun _ _ _ _ _ => True) (fun _ U o U' => ∃ v L, o = .returned v ∧ (∃ Ls', P v Ls' ∧ Fr n0 L ∧ Hp Z h0 n0 Ls' U'.heap) ∧ ReturnedEndW U o U' L rm.cells rm.slots)
theorem MetW.of {rm : Room} {as' : Array Value} {Q : Option Value → List Ob → Prop} {ws : List Jvm.Cond} (hp : plainFor y = true) (ef : ∀ m, entryFrame m as' ml = mkF m 0 ls [])
    (body : ∀ (p : Program) (e : Env) (s : State) (m : MethodId) (below : List Frame) (meth : Method) (c : Code) (T : State), St p l e rm s m as' below meth c Z y bytes ml ret h0 n0 T Ls 0 0 → Go p e below (FinW Z h0 n0 s rm Q) T (mkF m 0 ls [])) :
    MetW l Z y bytes ml ret rm as' h0 n0 Ls Q ws := by
  intro h H
  refine MetFree.of_bodySF hp hisR ?_
  intro p e s m args below meth c s₁ Bd hml hP hK
  obtain ⟨rfl, hZ, hh⟩ := hP
  have e0 : s₁.heap = h := by rw [← hh, Bd.state]; rfl
  have G := body p e s m below meth c s₁ ⟨⟨Bd.exec, hZ, findClass_of_methodNamed Bd.named, Bd.bytes, hml, (name_of_methodNamed Bd.named Bd.method).1, Bd.returns, Bd.notSynchronized⟩, [], Stand.of_body Bd, Fr.nil _, by rw [e0]; exact H⟩
  rw [← ef m] at G
  exact G
theorem s_ldcS {i : Nat} {text : String} (n : Nat) (w : St p l e R s m args below meth c Z y bytes ml ret h0 n0 T Ls cells slots) (k : (Cond.stringLink y.cls i text).before a0 Z = true) (kS : ∀ d ∈ Bundle.stringAtoms, d.before a0 Z = true) (d : decode bytes pc = .ok (.ldc i, 2)) (hn : 4 * text.toList.length ≤ n) (hbig : n ≤ 536870912) (hc : cells + 2 ≤ R.cells) (hl : slots + (n + 4) ≤ R.slots) (hp : pc + 2 = pc')
    (G : ∀ (T' : State) (vm1 : Vm) (a : Addr) (k1 f : Nat), s.Since vm1 k1 → k1 ≤ n0 + (Ls.length + f) → St p l e R (s.setVm vm1) m args below meth c Z y bytes ml ret h0 n0 T' (Ls ++ List.replicate f dum) (cells + 2) (slots + (n + 4)) → Go p e below F T' (mkF m pc' ls (.ref a :: st))) : Go p e below F T (mkF m pc ls st) := by
  subst hp
  obtain ⟨⟨hx, hZ, hown, hby, hml, hnm, hrt, hlk⟩, locs, X, N, H⟩ := w
  have X0 : Stand p l e R (s.setVm s.vm) m args below meth c T locs cells slots := X
  obtain ⟨a, T', h', k1, X', e', E', hS', hk', hZ', hown', st'⟩ := ldcS (vm0 := s.vm) X0 hx hZ hown k kS rfl ((State.WarmedH.refl s).since 0) (Nat.zero_le _) (g := mkF m pc ls st) rfl (hb hby d) hn hbig hc hl
  have H' := H.more E'
  refine Go.of st' (G T' T'.vm a k1 (h'.size - T.heap.size) hS' ?_ ⟨⟨hx, hZ', hown', hby, hml, hnm, hrt, hlk⟩, locs, X', N, by rw [e']; exact H'⟩)
  have := H'.2.2.1
  rw [List.length_append, List.length_replicate] at this
  omega
theorem s_zreturnW {rm : Room} {Q : Option Value → List Ob → Prop} {vm1 : Vm} {k1 : Nat} {z : Int32} (hz : narrow .boolean (.int z) = .int z) (w : St p l e rm (s.setVm vm1) m args below meth c Z y bytes ml (some .boolean) h0 n0 T Ls cells slots) (hS : s.Since vm1 k1) (hk : k1 ≤ n0 + Ls.length) (d : decode bytes pc = .ok (.ireturn, 1)) (hc : cells ≤ rm.cells) (hn : slots ≤ rm.slots) (q : Q (some (.int z)) Ls) : Go p e below (FinW Z h0 n0 s rm Q) T (mkF m pc ls (.int z :: rest)) := by
  obtain ⟨⟨hx, hZ, hown, hby, hml, hnm, hret, hlk⟩, locs, X, N, H⟩ := w
  obtain ⟨fs, hr, hrun, hended, h1, h2, h3, hsame⟩ := X.leaveW hS (by rw [H.2.2.1]; exact hk) (v := some (.int z)) (fun h => by rw [hret] at h; cases h) hlk
  refine ⟨_, _, ?_, hrun, hended, _, locs, rfl, ⟨Ls, q, N, H⟩, h1, h2, h3, hsame.mono hc hn⟩
  exact retOut X hx hret hz (Or.inl ⟨rfl, Or.inr (Or.inl rfl), z, rfl⟩) (hb hby d) hr
end Own


theorem own_eqI {args : Array Value} {s : State} {t : Term} {z : Int32} (h : (Cond.eq t (.int z)).value args s none s [] = some true) : t.eval args s none [] s = some (.int z) := by
  cases ht : t.eval args s none [] s with
  | none => simp [Cond.value, ht] at h
  | some x => cases x <;> simp [Cond.value, ht, Term.eval] at h ⊢; exact h
theorem own_len0 {args : Array Value} {s : State} {t : Term} {a : Addr} {cl : Cell} (ev : t.eval args s none [] s = some (.ref a)) (ha : s.arrayAt? a = some cl) (h : (Cond.eq (.length t) (.int 0)).value args s none s [] = some true) : cl.slots.size = 0 := by
  have e := own_eqI h
  by_cases hl : cl.slots.size < 2 ^ 31
  · rw [len_f ev ha hl] at e
    have e1 : cl.slots.size.toInt32 = 0 := by simpa using e
    have e2 := len_toInt hl
    rw [e1] at e2
    have : (0 : Int32).toInt = 0 := rfl
    omega
  · simp [Term.eval, ev, ha, hl] at e

theorem set_self {Ls : List Ob} {k : Nat} {o : Ob} (q : Ls[k]? = some o) : Ls.set k o = Ls := by
  obtain ⟨h, rfl⟩ := List.getElem?_eq_some_iff.mp q
  exact List.set_getElem_self h
theorem succ32 (i : Nat) : i.toInt32 + (1 : Int32) = (i + 1).toInt32 := (Int32.ofNat_add i 1).symm
theorem fill_step {vs : List Value} {x : Value} {i : Nat} (h : i < vs.length) : (List.replicate i x ++ vs.drop i).set i x = List.replicate (i + 1) x ++ vs.drop (i + 1) := by
  rw [List.set_append_right _ _ (by simp), List.length_replicate, Nat.sub_self, List.drop_eq_getElem_cons h, List.set_cons_zero, List.replicate_succ', List.append_assoc]
  rfl

theorem n_toInt {a : Nat} (h : a < 2 ^ 31) : (Int32.ofNat a).toInt = a := len_toInt h
theorem n_bv {a : Nat} (h : a < 2 ^ 32) : (Int32.ofNat a).toBitVec.toNat = a := by
  show (BitVec.ofNat 32 a).toNat = a
  rw [BitVec.toNat_ofNat]; exact Nat.mod_eq_of_lt h
theorem n_back (x : Int32) : Int32.ofNat x.toBitVec.toNat = x := Int32.toBitVec_inj.mp (by show BitVec.ofNat 32 x.toBitVec.toNat = _; simp)
theorem n_pos {x : Int32} (h : 0 < x) : 1 ≤ x.toBitVec.toNat ∧ x.toBitVec.toNat < 2 ^ 31 := by
  rw [Int32.lt_iff_toInt_lt] at h
  have e : x.toInt = x.toBitVec.toInt := rfl
  have z : (0 : Int32).toInt = 0 := rfl
  rw [e, z, BitVec.toInt_eq_toNat_cond] at h
  have := x.toBitVec.isLt
  split at h <;> omega
theorem n_lt {a t : Nat} (ha : a < 2 ^ 31) (ht : t < 2 ^ 31) : Int32.ofNat a < Int32.ofNat t ↔ a < t := by
  rw [Int32.lt_iff_toInt_lt, n_toInt ha, n_toInt ht]; omega
theorem n_of {x : Int32} {a : Nat} (h : x.toBitVec.toNat = a) : x = Int32.ofNat a := by rw [← h, n_back]
theorem n_us16 {a : Nat} (h : a < 2 ^ 31) : Jvm.Free.XT.ushr (Int32.ofNat a) 16 = Int32.ofNat (a / 2 ^ 16) := n_of (by
  rw [show (Jvm.Free.XT.ushr (Int32.ofNat a) 16).toBitVec = (Int32.ofNat a).toBitVec >>> 16 from rfl, BitVec.toNat_ushiftRight, n_bv (by omega), Nat.shiftRight_eq_div_pow])
theorem n_us8 {a : Nat} (h : a < 2 ^ 31) : Jvm.Free.XT.ushr (Int32.ofNat a) 8 = Int32.ofNat (a / 2 ^ 8) := n_of (by
  rw [show (Jvm.Free.XT.ushr (Int32.ofNat a) 8).toBitVec = (Int32.ofNat a).toBitVec >>> 8 from rfl, BitVec.toNat_ushiftRight, n_bv (by omega), Nat.shiftRight_eq_div_pow])
theorem n_us4 {a : Nat} (h : a < 2 ^ 31) : Jvm.Free.XT.ushr (Int32.ofNat a) 4 = Int32.ofNat (a / 2 ^ 4) := n_of (by
  rw [show (Jvm.Free.XT.ushr (Int32.ofNat a) 4).toBitVec = (Int32.ofNat a).toBitVec >>> 4 from rfl, BitVec.toNat_ushiftRight, n_bv (by omega), Nat.shiftRight_eq_div_pow])
theorem n_us2 {a : Nat} (h : a < 2 ^ 31) : Jvm.Free.XT.ushr (Int32.ofNat a) 2 = Int32.ofNat (a / 2 ^ 2) := n_of (by
  rw [show (Jvm.Free.XT.ushr (Int32.ofNat a) 2).toBitVec = (Int32.ofNat a).toBitVec >>> 2 from rfl, BitVec.toNat_ushiftRight, n_bv (by omega), Nat.shiftRight_eq_div_pow])
theorem n_us1 {a : Nat} (h : a < 2 ^ 31) : Jvm.Free.XT.ushr (Int32.ofNat a) 1 = Int32.ofNat (a / 2) := n_of (by
  rw [show (Jvm.Free.XT.ushr (Int32.ofNat a) 1).toBitVec = (Int32.ofNat a).toBitVec >>> 1 from rfl, BitVec.toNat_ushiftRight, n_bv (by omega), Nat.shiftRight_eq_div_pow])
theorem n_down {c s : Nat} {t : Int32} (ht : t.toInt = -(s : Int)) (h : c + s ≤ 31) : Int32.ofNat (31 - c) + t = Int32.ofNat (31 - (c + s)) := Int32.toInt_inj.mp (by
  rw [Jvm.Free.XT.add32 (by rw [n_toInt (by omega), ht]; constructor <;> omega), n_toInt (by omega), n_toInt (by omega), ht]; omega)
theorem n_div (u c s : Nat) : u / 2 ^ c / 2 ^ s = u / 2 ^ (c + s) := by rw [Nat.div_div_eq_div_mul, ← Nat.pow_add]
theorem n_le (u c : Nat) (h : u < 2 ^ 31) : u / 2 ^ c < 2 ^ 31 := Nat.lt_of_le_of_lt (Nat.div_le_self ..) h
theorem n_end {u c : Nat} (hc : c ≤ 30) (h1 : 1 ≤ u / 2 ^ c) (h2 : u / 2 ^ c < 4) : ∃ n, Int32.ofNat (31 - c) - Int32.ofNat (u / 2 ^ c / 2) = Int32.ofNat n ∧ n ≤ 32 ∧ u < 2 ^ (32 - n) := by
  have hp : 0 < 2 ^ c := Nat.pow_pos (by decide)
  have hd : u < 2 ^ c * (u / 2 ^ c + 1) := by
    have := Nat.lt_mul_div_succ u hp; exact this
  refine ⟨31 - c - u / 2 ^ c / 2, ?_, by omega, ?_⟩
  · apply Int32.toInt_inj.mp
    rw [Jvm.Free.XT.sub32 (by rw [n_toInt (by omega), n_toInt (by omega)]; constructor <;> omega), n_toInt (by omega), n_toInt (by omega), n_toInt (by omega)]; omega
  · have e : 32 - (31 - c - u / 2 ^ c / 2) = c + (1 + u / 2 ^ c / 2) := by omega
    rw [e, Nat.pow_add]
    refine Nat.lt_of_lt_of_le hd (Nat.mul_le_mul_left _ ?_)
    generalize u / 2 ^ c = a at *
    have : a = 1 ∨ a = 2 ∨ a = 3 := by omega
    rcases this with rfl | rfl | rfl <;> decide

theorem l_hi0 {x : Int64} (h : x.toBitVec.toNat < 2 ^ 32) : (Jvm.Free.XT.ushrL x (32 : Int32)).toInt32 = 0 := by
  have e : Jvm.Free.XT.ushrL x (32 : Int32) = 0 := by
    apply Int64.toBitVec_inj.mp
    show x.toBitVec >>> 32 = 0#64
    apply BitVec.eq_of_toNat_eq
    rw [BitVec.toNat_ushiftRight, Nat.shiftRight_eq_div_pow, Nat.div_eq_of_lt h]; rfl
  rw [e]; rfl
theorem l_lo {x : Int64} (h : x.toBitVec.toNat < 2 ^ 32) : x.toInt32.toBitVec.toNat = x.toBitVec.toNat := by
  rw [Int64.toBitVec_toInt32, BitVec.signExtend_eq_setWidth_of_le _ (by decide), BitVec.toNat_setWidth, Nat.mod_eq_of_lt h]

def mkM (b : Nat) : Int64 := ((1 : Int64) <<< ((Int32.ofNat b).toInt64 &&& 63)) - 1
theorem nar_ref {v : Value} {C : String} (h : v.isRef = true) : narrow (.object C) v = v := by rcases ref_cases h with rfl | ⟨a, rfl⟩ <;> rfl
theorem fit_ref {v : Value} {C : String} (h : v.isRef = true) : fits (.object C) v = true := by rcases ref_cases h with rfl | ⟨a, rfl⟩ <;> rfl
theorem b_sub {b : Nat} (h : b ≤ 32) : (64 : Int32) - Int32.ofNat (64 - b) = Int32.ofNat b := Int32.toInt_inj.mp (by
  have c : (64 : Int32).toInt = 64 := by decide
  rw [Jvm.Free.XT.sub32 (by rw [n_toInt (by omega), c]; constructor <;> omega), n_toInt (by omega), n_toInt (by omega), c]; omega)
theorem b_add (a b : Nat) : Int32.ofNat a + Int32.ofNat b = Int32.ofNat (a + b) := (Int32.ofNat_add a b).symm
theorem b_le {a : Nat} (h : a ≤ 64) (h' : a < 2 ^ 31) : ¬ (64 : Int32) < Int32.ofNat a := fun q => by
  have := (n_lt (a := 64) (t := a) (by decide) h').mp q; omega
theorem b_gt {a : Nat} (h : 64 < a) (h' : a < 2 ^ 31) : (64 : Int32) < Int32.ofNat a := (n_lt (a := 64) (t := a) (by decide) h').mpr h
theorem full32 {x : Int64} {b : Nat} (h1 : 2 ^ 31 ≤ x.toBitVec.toNat) (h2 : x.toBitVec.toNat < 2 ^ b) (h3 : b ≤ 32) : b = 32 := by
  rcases Nat.lt_or_ge b 32 with h | h
  · have : 2 ^ b ≤ 2 ^ 31 := Nat.pow_le_pow_right (by decide) (by omega)
    omega
  · omega

def hfold (xs : List Int64) : Int64 := xs.foldl (fun h x => (h + x) * (-7046029254386353131)) 0
def hfin (a : Int64) : Int32 :=
  let b := a ^^^ Jvm.Free.XT.ushrL a 29
  let c := b * (-4658895280553007687)
  (c ^^^ Jvm.Free.XT.ushrL c 32).toInt32
theorem i_in {n w j : Nat} (hn : n < 1000) (hw : w < 1000) (hj : j < w) : Int32.ofNat (n + j) < Int32.ofNat (n + w) := (n_lt (by omega) (by omega)).mpr (by omega)
theorem i_out {n w : Nat} (hn : n < 1000) (hw : w < 1000) : ¬ Int32.ofNat (n + w) < Int32.ofNat (n + w) := fun h => by have := (n_lt (by omega) (by omega)).mp h; omega
theorem i_nn {a : Nat} (h : a < 2 ^ 31) : ¬ Int32.ofNat a < 0 := fun q => by
  rw [Int32.lt_iff_toInt_lt, n_toInt h] at q; have z : (0 : Int32).toInt = 0 := rfl; omega
theorem i_cl {a : Nat} (h : a < 2 ^ 31) : (Int32.ofNat a).toNatClampNeg = a := by simp only [Int32.toNatClampNeg, n_toInt h]; omega

theorem rem3' (x : Int32) : ∃ n : Nat, n ≤ 2 ∧ ((x &&& (3 : Int32)) - ((x &&& (3 : Int32)) / (3 : Int32)) * (3 : Int32)) = Int32.ofNat n := by
  have e : (x &&& (3 : Int32)).toBitVec.toNat < 4 := by
    rw [Int32.toBitVec_and, BitVec.toNat_and]; exact Nat.lt_of_le_of_lt Nat.and_le_right (by decide)
  have b := n_of (rfl : (x &&& (3 : Int32)).toBitVec.toNat = _)
  generalize (x &&& (3 : Int32)).toBitVec.toNat = a at *
  rw [b]
  have h4 : a = 0 ∨ a = 1 ∨ a = 2 ∨ a = 3 := by omega
  rcases h4 with rfl | rfl | rfl | rfl
  · exact ⟨0, by decide, by decide⟩
  · exact ⟨1, by decide, by decide⟩
  · exact ⟨2, by decide, by decide⟩
  · exact ⟨0, by decide, by decide⟩
theorem and3 (x : Int32) : ∃ n : Nat, n ≤ 3 ∧ (x &&& (3 : Int32)) = Int32.ofNat n := by
  have e : (x &&& (3 : Int32)).toBitVec.toNat < 4 := by
    rw [Int32.toBitVec_and, BitVec.toNat_and]; exact Nat.lt_of_le_of_lt Nat.and_le_right (by decide)
  exact ⟨_, by omega, n_of (rfl : (x &&& (3 : Int32)).toBitVec.toNat = _)⟩
theorem a_at1_0 {sv : Nat} {x0 q0 : Int64} (h : sv ≤ 3) : (List.set ([Value.long x0, Value.long x0, Value.long x0, Value.long x0, Value.long x0, Value.long x0]) sv (.long q0))[sv + 0]? = some (.long q0) := by
  have h3 : sv = 0 ∨ sv = 1 ∨ sv = 2 ∨ sv = 3 := by omega
  rcases h3 with rfl | rfl | rfl | rfl <;> rfl
theorem a_at2_0 {sv : Nat} {x0 q0 q1 : Int64} (h : sv ≤ 3) : (List.set (List.set ([Value.long x0, Value.long x0, Value.long x0, Value.long x0, Value.long x0, Value.long x0]) sv (.long q0)) (sv + 1) (.long q1))[sv + 0]? = some (.long q0) := by
  have h3 : sv = 0 ∨ sv = 1 ∨ sv = 2 ∨ sv = 3 := by omega
  rcases h3 with rfl | rfl | rfl | rfl <;> rfl
theorem a_at2_1 {sv : Nat} {x0 q0 q1 : Int64} (h : sv ≤ 3) : (List.set (List.set ([Value.long x0, Value.long x0, Value.long x0, Value.long x0, Value.long x0, Value.long x0]) sv (.long q0)) (sv + 1) (.long q1))[sv + 1]? = some (.long q1) := by
  have h3 : sv = 0 ∨ sv = 1 ∨ sv = 2 ∨ sv = 3 := by omega
  rcases h3 with rfl | rfl | rfl | rfl <;> rfl
theorem a_at3_0 {sv : Nat} {x0 q0 q1 q2 : Int64} (h : sv ≤ 3) : (List.set (List.set (List.set ([Value.long x0, Value.long x0, Value.long x0, Value.long x0, Value.long x0, Value.long x0]) sv (.long q0)) (sv + 1) (.long q1)) (sv + 2) (.long q2))[sv + 0]? = some (.long q0) := by
  have h3 : sv = 0 ∨ sv = 1 ∨ sv = 2 ∨ sv = 3 := by omega
  rcases h3 with rfl | rfl | rfl | rfl <;> rfl
theorem a_at3_1 {sv : Nat} {x0 q0 q1 q2 : Int64} (h : sv ≤ 3) : (List.set (List.set (List.set ([Value.long x0, Value.long x0, Value.long x0, Value.long x0, Value.long x0, Value.long x0]) sv (.long q0)) (sv + 1) (.long q1)) (sv + 2) (.long q2))[sv + 1]? = some (.long q1) := by
  have h3 : sv = 0 ∨ sv = 1 ∨ sv = 2 ∨ sv = 3 := by omega
  rcases h3 with rfl | rfl | rfl | rfl <;> rfl
theorem a_at3_2 {sv : Nat} {x0 q0 q1 q2 : Int64} (h : sv ≤ 3) : (List.set (List.set (List.set ([Value.long x0, Value.long x0, Value.long x0, Value.long x0, Value.long x0, Value.long x0]) sv (.long q0)) (sv + 1) (.long q1)) (sv + 2) (.long q2))[sv + 2]? = some (.long q2) := by
  have h3 : sv = 0 ∨ sv = 1 ∨ sv = 2 ∨ sv = 3 := by omega
  rcases h3 with rfl | rfl | rfl | rfl <;> rfl

theorem sum1 (q0 : Int64) : hfin (hfold [q0]) = hfin (q0 * (-7046029254386353131 : Int64)) := by
  show hfin ((0 + q0) * (-7046029254386353131 : Int64)) = _; rw [Int64.zero_add]
theorem sum2 (q0 q1 : Int64) : hfin (hfold [q0, q1]) = hfin ((q0 * ((-7046029254386353131 : Int64) * (-7046029254386353131 : Int64))) + (q1 * (-7046029254386353131 : Int64))) := by
  show hfin (((0 + q0) * (-7046029254386353131 : Int64) + q1) * (-7046029254386353131 : Int64)) = _; rw [Int64.zero_add, Int64.add_mul, Int64.mul_assoc]
theorem sum3 (q0 q1 q2 : Int64) : hfin (hfold [q0, q1, q2]) = hfin (((q0 * (((-7046029254386353131 : Int64) * (-7046029254386353131 : Int64)) * (-7046029254386353131 : Int64))) + (q1 * ((-7046029254386353131 : Int64) * (-7046029254386353131 : Int64)))) + (q2 * (-7046029254386353131 : Int64))) := by
  show hfin ((((0 + q0) * (-7046029254386353131 : Int64) + q1) * (-7046029254386353131 : Int64) + q2) * (-7046029254386353131 : Int64)) = _; rw [Int64.zero_add, Int64.add_mul, Int64.add_mul, Int64.add_mul, Int64.mul_assoc, Int64.mul_assoc, Int64.mul_assoc, Int64.mul_assoc]

abbrev aI (vs : List Value) : Ob := .inr (.int, vs)
abbrev aJ (vs : List Value) : Ob := .inr (.long, vs)
abbrev aO (vs : List Value) : Ob := .inr (.object "java/lang/Object", vs)
def Tw (Z : State) (a0 : Array Value) : Prop := ∀ d ∈ tables_1, d.before a0 Z = true
theorem t0 {Z : State} {a0 : Array Value} (hw : Tw Z a0) : ((Jvm.Cond.classLink "com/example/ryazan/ryazan/statespace/StateStoreHashPinLaw" (9 : Nat) "java/util/ArrayList")).before a0 Z = true := hw _ (List.mem_of_getElem? (i := 0) rfl)
theorem t1 {Z : State} {a0 : Array Value} (hw : Tw Z a0) : ((Jvm.Cond.instantiable "java/util/ArrayList" (3 : Nat))).before a0 Z = true := hw _ (List.mem_of_getElem? (i := 1) rfl)
theorem t2 {Z : State} {a0 : Array Value} (hw : Tw Z a0) : ((Jvm.Cond.initialized "java/util/ArrayList")).before a0 Z = true := hw _ (List.mem_of_getElem? (i := 2) rfl)
theorem t3 {Z : State} {a0 : Array Value} (hw : Tw Z a0) : ((Jvm.Cond.methodLink "com/example/ryazan/ryazan/statespace/StateStoreHashPinLaw" (11 : Nat) ({ cls := "java/util/ArrayList", name := "<init>", desc := "()V" } : Jvm.MethodName))).before a0 Z = true := hw _ (List.mem_of_getElem? (i := 3) rfl)
theorem t4 {Z : State} {a0 : Array Value} (hw : Tw Z a0) : ((Jvm.Cond.instanceMethod ({ cls := "java/util/ArrayList", name := "<init>", desc := "()V" } : Jvm.MethodName))).before a0 Z = true := hw _ (List.mem_of_getElem? (i := 4) rfl)
theorem t5 {Z : State} {a0 : Array Value} (hw : Tw Z a0) : ((Jvm.Cond.code ({ cls := "java/util/ArrayList", name := "<init>", desc := "()V" } : Jvm.MethodName) jdk_38_method_2_code (1 : Nat) (Option.none : Option Jvm.ClassFile.FieldType))).before a0 Z = true := hw _ (List.mem_of_getElem? (i := 5) rfl)
theorem t6 {Z : State} {a0 : Array Value} (hw : Tw Z a0) : ((Jvm.Cond.methodLink "java/util/ArrayList" (1 : Nat) ({ cls := "java/util/AbstractList", name := "<init>", desc := "()V" } : Jvm.MethodName))).before a0 Z = true := hw _ (List.mem_of_getElem? (i := 6) rfl)
theorem t7 {Z : State} {a0 : Array Value} (hw : Tw Z a0) : ((Jvm.Cond.instanceMethod ({ cls := "java/util/AbstractList", name := "<init>", desc := "()V" } : Jvm.MethodName))).before a0 Z = true := hw _ (List.mem_of_getElem? (i := 7) rfl)
theorem t10 {Z : State} {a0 : Array Value} (hw : Tw Z a0) : ((Jvm.Cond.initialized "java/util/AbstractList")).before a0 Z = true := hw _ (List.mem_of_getElem? (i := 10) rfl)
theorem t11 {Z : State} {a0 : Array Value} (hw : Tw Z a0) : ((Jvm.Cond.code ({ cls := "java/util/AbstractList", name := "<init>", desc := "()V" } : Jvm.MethodName) jdk_39_method_1_code (1 : Nat) (Option.none : Option Jvm.ClassFile.FieldType))).before a0 Z = true := hw _ (List.mem_of_getElem? (i := 11) rfl)
theorem t12 {Z : State} {a0 : Array Value} (hw : Tw Z a0) : ((Jvm.Cond.methodLink "java/util/AbstractList" (1 : Nat) ({ cls := "java/util/AbstractCollection", name := "<init>", desc := "()V" } : Jvm.MethodName))).before a0 Z = true := hw _ (List.mem_of_getElem? (i := 12) rfl)
theorem t13 {Z : State} {a0 : Array Value} (hw : Tw Z a0) : ((Jvm.Cond.instanceMethod ({ cls := "java/util/AbstractCollection", name := "<init>", desc := "()V" } : Jvm.MethodName))).before a0 Z = true := hw _ (List.mem_of_getElem? (i := 13) rfl)
theorem t16 {Z : State} {a0 : Array Value} (hw : Tw Z a0) : ((Jvm.Cond.initialized "java/util/AbstractCollection")).before a0 Z = true := hw _ (List.mem_of_getElem? (i := 16) rfl)
theorem t17 {Z : State} {a0 : Array Value} (hw : Tw Z a0) : ((Jvm.Cond.code ({ cls := "java/util/AbstractCollection", name := "<init>", desc := "()V" } : Jvm.MethodName) jdk_22_method_1_code (1 : Nat) (Option.none : Option Jvm.ClassFile.FieldType))).before a0 Z = true := hw _ (List.mem_of_getElem? (i := 17) rfl)
theorem t18 {Z : State} {a0 : Array Value} (hw : Tw Z a0) : ((Jvm.Cond.methodLink "java/util/AbstractCollection" (1 : Nat) ({ cls := "java/lang/Object", name := "<init>", desc := "()V" } : Jvm.MethodName))).before a0 Z = true := hw _ (List.mem_of_getElem? (i := 18) rfl)
theorem t19 {Z : State} {a0 : Array Value} (hw : Tw Z a0) : ((Jvm.Cond.instanceMethod ({ cls := "java/lang/Object", name := "<init>", desc := "()V" } : Jvm.MethodName))).before a0 Z = true := hw _ (List.mem_of_getElem? (i := 19) rfl)
theorem t20 {Z : State} {a0 : Array Value} (hw : Tw Z a0) : ((Jvm.Cond.code ({ cls := "java/lang/Object", name := "<init>", desc := "()V" } : Jvm.MethodName) object_method_1_code (1 : Nat) (Option.none : Option Jvm.ClassFile.FieldType))).before a0 Z = true := hw _ (List.mem_of_getElem? (i := 20) rfl)
theorem t21 {Z : State} {a0 : Array Value} (hw : Tw Z a0) : ((Jvm.Cond.fieldLink "java/util/AbstractList" (7 : Nat) "java/util/AbstractList" "modCount" "I")).before a0 Z = true := hw _ (List.mem_of_getElem? (i := 21) rfl)
theorem t22 {Z : State} {a0 : Array Value} (hw : Tw Z a0) : ((Jvm.Cond.lays "java/util/ArrayList" "java/util/AbstractList" "modCount" "I")).before a0 Z = true := hw _ (List.mem_of_getElem? (i := 22) rfl)
theorem t23 {Z : State} {a0 : Array Value} (hw : Tw Z a0) : ((Jvm.Cond.fieldLink "java/util/ArrayList" (39 : Nat) "java/util/ArrayList" "DEFAULTCAPACITY_EMPTY_ELEMENTDATA" "[Ljava/lang/Object;")).before a0 Z = true := hw _ (List.mem_of_getElem? (i := 23) rfl)
theorem t24 {Z : State} {a0 : Array Value} (hw : Tw Z a0) : ((Jvm.Cond.fieldLink "java/util/ArrayList" (9 : Nat) "java/util/ArrayList" "elementData" "[Ljava/lang/Object;")).before a0 Z = true := hw _ (List.mem_of_getElem? (i := 24) rfl)
theorem t25 {Z : State} {a0 : Array Value} (hw : Tw Z a0) : ((Jvm.Cond.lays "java/util/ArrayList" "java/util/ArrayList" "elementData" "[Ljava/lang/Object;")).before a0 Z = true := hw _ (List.mem_of_getElem? (i := 25) rfl)
theorem t26 {Z : State} {a0 : Array Value} (hw : Tw Z a0) : ((Jvm.Cond.classLink "com/example/ryazan/ryazan/statespace/StateStoreHashPinLaw" (12 : Nat) "com/example/ryazan/ryazan/model/Model$Variable")).before a0 Z = true := hw _ (List.mem_of_getElem? (i := 26) rfl)
theorem t27 {Z : State} {a0 : Array Value} (hw : Tw Z a0) : ((Jvm.Cond.instantiable "com/example/ryazan/ryazan/model/Model$Variable" (6 : Nat))).before a0 Z = true := hw _ (List.mem_of_getElem? (i := 27) rfl)
theorem t28 {Z : State} {a0 : Array Value} (hw : Tw Z a0) : ((Jvm.Cond.initialized "com/example/ryazan/ryazan/model/Model$Variable")).before a0 Z = true := hw _ (List.mem_of_getElem? (i := 28) rfl)
theorem t29 {Z : State} {a0 : Array Value} (hw : Tw Z a0) : ((Jvm.Cond.stringLink "com/example/ryazan/ryazan/statespace/StateStoreHashPinLaw" (14 : Nat) "v")).before a0 Z = true := hw _ (List.mem_of_getElem? (i := 29) rfl)
theorem t30 {Z : State} {a0 : Array Value} (hw : Tw Z a0) : ((Jvm.Cond.initialized "java/lang/String")).before a0 Z = true := hw _ (List.mem_of_getElem? (i := 30) rfl)
theorem t31 {Z : State} {a0 : Array Value} (hw : Tw Z a0) : ((Jvm.Cond.instantiable "java/lang/String" (4 : Nat))).before a0 Z = true := hw _ (List.mem_of_getElem? (i := 31) rfl)
theorem t32 {Z : State} {a0 : Array Value} (hw : Tw Z a0) : ((Jvm.Cond.arrayClass Jvm.ClassFile.FieldType.byte)).before a0 Z = true := hw _ (List.mem_of_getElem? (i := 32) rfl)
theorem t33 {Z : State} {a0 : Array Value} (hw : Tw Z a0) : ((Jvm.Cond.laysFinal "java/lang/String" "java/lang/String" "value" "[B")).before a0 Z = true := hw _ (List.mem_of_getElem? (i := 33) rfl)
theorem t34 {Z : State} {a0 : Array Value} (hw : Tw Z a0) : ((Jvm.Cond.laysFinal "java/lang/String" "java/lang/String" "coder" "B")).before a0 Z = true := hw _ (List.mem_of_getElem? (i := 34) rfl)
theorem t35 {Z : State} {a0 : Array Value} (hw : Tw Z a0) : ((Jvm.Cond.soleField "java/lang/String" "value")).before a0 Z = true := hw _ (List.mem_of_getElem? (i := 35) rfl)
theorem t36 {Z : State} {a0 : Array Value} (hw : Tw Z a0) : ((Jvm.Cond.soleField "java/lang/String" "coder")).before a0 Z = true := hw _ (List.mem_of_getElem? (i := 36) rfl)
theorem t37 {Z : State} {a0 : Array Value} (hw : Tw Z a0) : ((Jvm.Cond.constant "com/example/ryazan/ryazan/statespace/StateStoreHashPinLaw" (18 : Nat) (-2147483648 : Int32))).before a0 Z = true := hw _ (List.mem_of_getElem? (i := 37) rfl)
theorem t38 {Z : State} {a0 : Array Value} (hw : Tw Z a0) : ((Jvm.Cond.constant "com/example/ryazan/ryazan/statespace/StateStoreHashPinLaw" (19 : Nat) (2147483647 : Int32))).before a0 Z = true := hw _ (List.mem_of_getElem? (i := 38) rfl)
theorem t39 {Z : State} {a0 : Array Value} (hw : Tw Z a0) : ((Jvm.Cond.methodLink "com/example/ryazan/ryazan/statespace/StateStoreHashPinLaw" (20 : Nat) ({ cls := "com/example/ryazan/ryazan/model/Model$Variable", name := "<init>", desc := "(Ljava/lang/String;Lcom/example/ryazan/ryazan/lang/Type;IIILcom/example/ryazan/ryazan/lang/SourcePosition;)V" } : Jvm.MethodName))).before a0 Z = true := hw _ (List.mem_of_getElem? (i := 39) rfl)
theorem t40 {Z : State} {a0 : Array Value} (hw : Tw Z a0) : ((Jvm.Cond.instanceMethod ({ cls := "com/example/ryazan/ryazan/model/Model$Variable", name := "<init>", desc := "(Ljava/lang/String;Lcom/example/ryazan/ryazan/lang/Type;IIILcom/example/ryazan/ryazan/lang/SourcePosition;)V" } : Jvm.MethodName))).before a0 Z = true := hw _ (List.mem_of_getElem? (i := 40) rfl)
theorem t41 {Z : State} {a0 : Array Value} (hw : Tw Z a0) : ((Jvm.Cond.code ({ cls := "com/example/ryazan/ryazan/model/Model$Variable", name := "<init>", desc := "(Ljava/lang/String;Lcom/example/ryazan/ryazan/lang/Type;IIILcom/example/ryazan/ryazan/lang/SourcePosition;)V" } : Jvm.MethodName) prog_172_method_1_code (7 : Nat) (Option.none : Option Jvm.ClassFile.FieldType))).before a0 Z = true := hw _ (List.mem_of_getElem? (i := 41) rfl)
theorem t42 {Z : State} {a0 : Array Value} (hw : Tw Z a0) : ((Jvm.Cond.methodLink "com/example/ryazan/ryazan/model/Model$Variable" (1 : Nat) ({ cls := "java/lang/Record", name := "<init>", desc := "()V" } : Jvm.MethodName))).before a0 Z = true := hw _ (List.mem_of_getElem? (i := 42) rfl)
theorem t43 {Z : State} {a0 : Array Value} (hw : Tw Z a0) : ((Jvm.Cond.instanceMethod ({ cls := "java/lang/Record", name := "<init>", desc := "()V" } : Jvm.MethodName))).before a0 Z = true := hw _ (List.mem_of_getElem? (i := 43) rfl)
theorem t45 {Z : State} {a0 : Array Value} (hw : Tw Z a0) : ((Jvm.Cond.initialized "java/lang/Record")).before a0 Z = true := hw _ (List.mem_of_getElem? (i := 45) rfl)
theorem t46 {Z : State} {a0 : Array Value} (hw : Tw Z a0) : ((Jvm.Cond.code ({ cls := "java/lang/Record", name := "<init>", desc := "()V" } : Jvm.MethodName) jdk_30_method_1_code (1 : Nat) (Option.none : Option Jvm.ClassFile.FieldType))).before a0 Z = true := hw _ (List.mem_of_getElem? (i := 46) rfl)
theorem t47 {Z : State} {a0 : Array Value} (hw : Tw Z a0) : ((Jvm.Cond.methodLink "java/lang/Record" (1 : Nat) ({ cls := "java/lang/Object", name := "<init>", desc := "()V" } : Jvm.MethodName))).before a0 Z = true := hw _ (List.mem_of_getElem? (i := 47) rfl)
theorem t48 {Z : State} {a0 : Array Value} (hw : Tw Z a0) : ((Jvm.Cond.fieldLink "com/example/ryazan/ryazan/model/Model$Variable" (7 : Nat) "com/example/ryazan/ryazan/model/Model$Variable" "name" "Ljava/lang/String;")).before a0 Z = true := hw _ (List.mem_of_getElem? (i := 48) rfl)
theorem t49 {Z : State} {a0 : Array Value} (hw : Tw Z a0) : ((Jvm.Cond.laysFinal "com/example/ryazan/ryazan/model/Model$Variable" "com/example/ryazan/ryazan/model/Model$Variable" "name" "Ljava/lang/String;")).before a0 Z = true := hw _ (List.mem_of_getElem? (i := 49) rfl)
theorem t50 {Z : State} {a0 : Array Value} (hw : Tw Z a0) : ((Jvm.Cond.fieldLink "com/example/ryazan/ryazan/model/Model$Variable" (13 : Nat) "com/example/ryazan/ryazan/model/Model$Variable" "type" "Lcom/example/ryazan/ryazan/lang/Type;")).before a0 Z = true := hw _ (List.mem_of_getElem? (i := 50) rfl)
theorem t51 {Z : State} {a0 : Array Value} (hw : Tw Z a0) : ((Jvm.Cond.laysFinal "com/example/ryazan/ryazan/model/Model$Variable" "com/example/ryazan/ryazan/model/Model$Variable" "type" "Lcom/example/ryazan/ryazan/lang/Type;")).before a0 Z = true := hw _ (List.mem_of_getElem? (i := 51) rfl)
theorem t52 {Z : State} {a0 : Array Value} (hw : Tw Z a0) : ((Jvm.Cond.fieldLink "com/example/ryazan/ryazan/model/Model$Variable" (17 : Nat) "com/example/ryazan/ryazan/model/Model$Variable" "low" "I")).before a0 Z = true := hw _ (List.mem_of_getElem? (i := 52) rfl)
theorem t53 {Z : State} {a0 : Array Value} (hw : Tw Z a0) : ((Jvm.Cond.laysFinal "com/example/ryazan/ryazan/model/Model$Variable" "com/example/ryazan/ryazan/model/Model$Variable" "low" "I")).before a0 Z = true := hw _ (List.mem_of_getElem? (i := 53) rfl)
theorem t54 {Z : State} {a0 : Array Value} (hw : Tw Z a0) : ((Jvm.Cond.fieldLink "com/example/ryazan/ryazan/model/Model$Variable" (21 : Nat) "com/example/ryazan/ryazan/model/Model$Variable" "high" "I")).before a0 Z = true := hw _ (List.mem_of_getElem? (i := 54) rfl)
theorem t55 {Z : State} {a0 : Array Value} (hw : Tw Z a0) : ((Jvm.Cond.laysFinal "com/example/ryazan/ryazan/model/Model$Variable" "com/example/ryazan/ryazan/model/Model$Variable" "high" "I")).before a0 Z = true := hw _ (List.mem_of_getElem? (i := 55) rfl)
theorem t56 {Z : State} {a0 : Array Value} (hw : Tw Z a0) : ((Jvm.Cond.fieldLink "com/example/ryazan/ryazan/model/Model$Variable" (24 : Nat) "com/example/ryazan/ryazan/model/Model$Variable" "initial" "I")).before a0 Z = true := hw _ (List.mem_of_getElem? (i := 56) rfl)
theorem t57 {Z : State} {a0 : Array Value} (hw : Tw Z a0) : ((Jvm.Cond.laysFinal "com/example/ryazan/ryazan/model/Model$Variable" "com/example/ryazan/ryazan/model/Model$Variable" "initial" "I")).before a0 Z = true := hw _ (List.mem_of_getElem? (i := 57) rfl)
theorem t58 {Z : State} {a0 : Array Value} (hw : Tw Z a0) : ((Jvm.Cond.fieldLink "com/example/ryazan/ryazan/model/Model$Variable" (27 : Nat) "com/example/ryazan/ryazan/model/Model$Variable" "position" "Lcom/example/ryazan/ryazan/lang/SourcePosition;")).before a0 Z = true := hw _ (List.mem_of_getElem? (i := 58) rfl)
theorem t59 {Z : State} {a0 : Array Value} (hw : Tw Z a0) : ((Jvm.Cond.laysFinal "com/example/ryazan/ryazan/model/Model$Variable" "com/example/ryazan/ryazan/model/Model$Variable" "position" "Lcom/example/ryazan/ryazan/lang/SourcePosition;")).before a0 Z = true := hw _ (List.mem_of_getElem? (i := 59) rfl)
theorem t60 {Z : State} {a0 : Array Value} (hw : Tw Z a0) : ((Jvm.Cond.methodLink "com/example/ryazan/ryazan/statespace/StateStoreHashPinLaw" (23 : Nat) ({ cls := "java/util/ArrayList", name := "add", desc := "(Ljava/lang/Object;)Z" } : Jvm.MethodName))).before a0 Z = true := hw _ (List.mem_of_getElem? (i := 60) rfl)
theorem t61 {Z : State} {a0 : Array Value} (hw : Tw Z a0) : ((Jvm.Cond.declares ({ cls := "java/util/ArrayList", name := "add", desc := "(Ljava/lang/Object;)Z" } : Jvm.MethodName))).before a0 Z = true := hw _ (List.mem_of_getElem? (i := 61) rfl)
theorem t62 {Z : State} {a0 : Array Value} (hw : Tw Z a0) : ((Jvm.Cond.instanceMethod ({ cls := "java/util/ArrayList", name := "add", desc := "(Ljava/lang/Object;)Z" } : Jvm.MethodName))).before a0 Z = true := hw _ (List.mem_of_getElem? (i := 62) rfl)
theorem t63 {Z : State} {a0 : Array Value} (hw : Tw Z a0) : ((Jvm.Cond.selects "java/util/ArrayList" ({ cls := "java/util/ArrayList", name := "add", desc := "(Ljava/lang/Object;)Z" } : Jvm.MethodName) ({ cls := "java/util/ArrayList", name := "add", desc := "(Ljava/lang/Object;)Z" } : Jvm.MethodName))).before a0 Z = true := hw _ (List.mem_of_getElem? (i := 63) rfl)
theorem t64 {Z : State} {a0 : Array Value} (hw : Tw Z a0) : ((Jvm.Cond.code ({ cls := "java/util/ArrayList", name := "add", desc := "(Ljava/lang/Object;)Z" } : Jvm.MethodName) jdk_38_method_25_code (2 : Nat) (Option.some Jvm.ClassFile.FieldType.boolean))).before a0 Z = true := hw _ (List.mem_of_getElem? (i := 64) rfl)
theorem t65 {Z : State} {a0 : Array Value} (hw : Tw Z a0) : ((Jvm.Cond.fieldLink "java/util/ArrayList" (63 : Nat) "java/util/ArrayList" "modCount" "I")).before a0 Z = true := hw _ (List.mem_of_getElem? (i := 65) rfl)
theorem t66 {Z : State} {a0 : Array Value} (hw : Tw Z a0) : ((Jvm.Cond.sameField "java/util/ArrayList" "java/util/AbstractList" "modCount" "I")).before a0 Z = true := hw _ (List.mem_of_getElem? (i := 66) rfl)
theorem t67 {Z : State} {a0 : Array Value} (hw : Tw Z a0) : ((Jvm.Cond.fieldLink "java/util/ArrayList" (48 : Nat) "java/util/ArrayList" "size" "I")).before a0 Z = true := hw _ (List.mem_of_getElem? (i := 67) rfl)
theorem t68 {Z : State} {a0 : Array Value} (hw : Tw Z a0) : ((Jvm.Cond.lays "java/util/ArrayList" "java/util/ArrayList" "size" "I")).before a0 Z = true := hw _ (List.mem_of_getElem? (i := 68) rfl)
theorem t69 {Z : State} {a0 : Array Value} (hw : Tw Z a0) : ((Jvm.Cond.methodLink "java/util/ArrayList" (131 : Nat) ({ cls := "java/util/ArrayList", name := "add", desc := "(Ljava/lang/Object;[Ljava/lang/Object;I)V" } : Jvm.MethodName))).before a0 Z = true := hw _ (List.mem_of_getElem? (i := 69) rfl)
theorem t70 {Z : State} {a0 : Array Value} (hw : Tw Z a0) : ((Jvm.Cond.instanceMethod ({ cls := "java/util/ArrayList", name := "add", desc := "(Ljava/lang/Object;[Ljava/lang/Object;I)V" } : Jvm.MethodName))).before a0 Z = true := hw _ (List.mem_of_getElem? (i := 70) rfl)
theorem t71 {Z : State} {a0 : Array Value} (hw : Tw Z a0) : ((Jvm.Cond.privateMethod ({ cls := "java/util/ArrayList", name := "add", desc := "(Ljava/lang/Object;[Ljava/lang/Object;I)V" } : Jvm.MethodName))).before a0 Z = true := hw _ (List.mem_of_getElem? (i := 71) rfl)
theorem t73 {Z : State} {a0 : Array Value} (hw : Tw Z a0) : ((Jvm.Cond.code ({ cls := "java/util/ArrayList", name := "add", desc := "(Ljava/lang/Object;[Ljava/lang/Object;I)V" } : Jvm.MethodName) jdk_38_method_24_code (4 : Nat) (Option.none : Option Jvm.ClassFile.FieldType))).before a0 Z = true := hw _ (List.mem_of_getElem? (i := 73) rfl)
theorem t74 {Z : State} {a0 : Array Value} (hw : Tw Z a0) : ((Jvm.Cond.methodLink "java/util/ArrayList" (129 : Nat) ({ cls := "java/util/ArrayList", name := "grow", desc := "()[Ljava/lang/Object;" } : Jvm.MethodName))).before a0 Z = true := hw _ (List.mem_of_getElem? (i := 74) rfl)
theorem t75 {Z : State} {a0 : Array Value} (hw : Tw Z a0) : ((Jvm.Cond.instanceMethod ({ cls := "java/util/ArrayList", name := "grow", desc := "()[Ljava/lang/Object;" } : Jvm.MethodName))).before a0 Z = true := hw _ (List.mem_of_getElem? (i := 75) rfl)
theorem t76 {Z : State} {a0 : Array Value} (hw : Tw Z a0) : ((Jvm.Cond.privateMethod ({ cls := "java/util/ArrayList", name := "grow", desc := "()[Ljava/lang/Object;" } : Jvm.MethodName))).before a0 Z = true := hw _ (List.mem_of_getElem? (i := 76) rfl)
theorem t78 {Z : State} {a0 : Array Value} (hw : Tw Z a0) : ((Jvm.Cond.code ({ cls := "java/util/ArrayList", name := "grow", desc := "()[Ljava/lang/Object;" } : Jvm.MethodName) jdk_38_method_7_code (1 : Nat) (Option.some (Jvm.ClassFile.FieldType.array (Jvm.ClassFile.FieldType.object "java/lang/Object"))))).before a0 Z = true := hw _ (List.mem_of_getElem? (i := 78) rfl)
theorem t79 {Z : State} {a0 : Array Value} (hw : Tw Z a0) : ((Jvm.Cond.methodLink "java/util/ArrayList" (69 : Nat) ({ cls := "java/util/ArrayList", name := "grow", desc := "(I)[Ljava/lang/Object;" } : Jvm.MethodName))).before a0 Z = true := hw _ (List.mem_of_getElem? (i := 79) rfl)
theorem t80 {Z : State} {a0 : Array Value} (hw : Tw Z a0) : ((Jvm.Cond.instanceMethod ({ cls := "java/util/ArrayList", name := "grow", desc := "(I)[Ljava/lang/Object;" } : Jvm.MethodName))).before a0 Z = true := hw _ (List.mem_of_getElem? (i := 80) rfl)
theorem t81 {Z : State} {a0 : Array Value} (hw : Tw Z a0) : ((Jvm.Cond.privateMethod ({ cls := "java/util/ArrayList", name := "grow", desc := "(I)[Ljava/lang/Object;" } : Jvm.MethodName))).before a0 Z = true := hw _ (List.mem_of_getElem? (i := 81) rfl)
theorem t83 {Z : State} {a0 : Array Value} (hw : Tw Z a0) : ((Jvm.Cond.code ({ cls := "java/util/ArrayList", name := "grow", desc := "(I)[Ljava/lang/Object;" } : Jvm.MethodName) jdk_38_method_6_code (4 : Nat) (Option.some (Jvm.ClassFile.FieldType.array (Jvm.ClassFile.FieldType.object "java/lang/Object"))))).before a0 Z = true := hw _ (List.mem_of_getElem? (i := 83) rfl)
theorem t84 {Z : State} {a0 : Array Value} (hw : Tw Z a0) : ((Jvm.Cond.methodLink "java/util/ArrayList" (79 : Nat) ({ cls := "java/lang/Math", name := "max", desc := "(II)I" } : Jvm.MethodName))).before a0 Z = true := hw _ (List.mem_of_getElem? (i := 84) rfl)
theorem t85 {Z : State} {a0 : Array Value} (hw : Tw Z a0) : ((Jvm.Cond.static ({ cls := "java/lang/Math", name := "max", desc := "(II)I" } : Jvm.MethodName))).before a0 Z = true := hw _ (List.mem_of_getElem? (i := 85) rfl)
theorem t86 {Z : State} {a0 : Array Value} (hw : Tw Z a0) : ((Jvm.Cond.initialized "java/lang/Math")).before a0 Z = true := hw _ (List.mem_of_getElem? (i := 86) rfl)
theorem t87 {Z : State} {a0 : Array Value} (hw : Tw Z a0) : ((Jvm.Cond.code ({ cls := "java/lang/Math", name := "max", desc := "(II)I" } : Jvm.MethodName) jdk_29_method_65_code (2 : Nat) (Option.some Jvm.ClassFile.FieldType.int))).before a0 Z = true := hw _ (List.mem_of_getElem? (i := 87) rfl)
theorem t88 {Z : State} {a0 : Array Value} (hw : Tw Z a0) : ((Jvm.Cond.classLink "java/util/ArrayList" (7 : Nat) "java/lang/Object")).before a0 Z = true := hw _ (List.mem_of_getElem? (i := 88) rfl)
theorem t89 {Z : State} {a0 : Array Value} (hw : Tw Z a0) : ((Jvm.Cond.arrayOver (Jvm.ClassFile.FieldType.object "java/lang/Object"))).before a0 Z = true := hw _ (List.mem_of_getElem? (i := 89) rfl)
theorem t90 {Z : State} {a0 : Array Value} (hw : Tw Z a0) : ((Jvm.Cond.castable "com/example/ryazan/ryazan/model/Model$Variable" "java/lang/Object")).before a0 Z = true := hw _ (List.mem_of_getElem? (i := 90) rfl)
theorem t91 {Z : State} {a0 : Array Value} (hw : Tw Z a0) : ((Jvm.Cond.classLink "com/example/ryazan/ryazan/statespace/StateStoreHashPinLaw" (27 : Nat) "com/example/ryazan/ryazan/statespace/StateStore")).before a0 Z = true := hw _ (List.mem_of_getElem? (i := 91) rfl)
theorem t92 {Z : State} {a0 : Array Value} (hw : Tw Z a0) : ((Jvm.Cond.instantiable "com/example/ryazan/ryazan/statespace/StateStore" (12 : Nat))).before a0 Z = true := hw _ (List.mem_of_getElem? (i := 92) rfl)
theorem t93 {Z : State} {a0 : Array Value} (hw : Tw Z a0) : ((Jvm.Cond.initialized "com/example/ryazan/ryazan/statespace/StateStore")).before a0 Z = true := hw _ (List.mem_of_getElem? (i := 93) rfl)
theorem t94 {Z : State} {a0 : Array Value} (hw : Tw Z a0) : ((Jvm.Cond.methodLink "com/example/ryazan/ryazan/statespace/StateStoreHashPinLaw" (29 : Nat) ({ cls := "com/example/ryazan/ryazan/statespace/StateStore", name := "<init>", desc := "(Ljava/util/List;)V" } : Jvm.MethodName))).before a0 Z = true := hw _ (List.mem_of_getElem? (i := 94) rfl)
theorem t95 {Z : State} {a0 : Array Value} (hw : Tw Z a0) : ((Jvm.Cond.instanceMethod ({ cls := "com/example/ryazan/ryazan/statespace/StateStore", name := "<init>", desc := "(Ljava/util/List;)V" } : Jvm.MethodName))).before a0 Z = true := hw _ (List.mem_of_getElem? (i := 95) rfl)
theorem t96 {Z : State} {a0 : Array Value} (hw : Tw Z a0) : ((Jvm.Cond.code ({ cls := "com/example/ryazan/ryazan/statespace/StateStore", name := "<init>", desc := "(Ljava/util/List;)V" } : Jvm.MethodName) prog_197_method_1_code (10 : Nat) (Option.none : Option Jvm.ClassFile.FieldType))).before a0 Z = true := hw _ (List.mem_of_getElem? (i := 96) rfl)
theorem t97 {Z : State} {a0 : Array Value} (hw : Tw Z a0) : ((Jvm.Cond.methodLink "com/example/ryazan/ryazan/statespace/StateStore" (1 : Nat) ({ cls := "java/lang/Object", name := "<init>", desc := "()V" } : Jvm.MethodName))).before a0 Z = true := hw _ (List.mem_of_getElem? (i := 97) rfl)
theorem t98 {Z : State} {a0 : Array Value} (hw : Tw Z a0) : ((Jvm.Cond.arrayClass Jvm.ClassFile.FieldType.long)).before a0 Z = true := hw _ (List.mem_of_getElem? (i := 98) rfl)
theorem t99 {Z : State} {a0 : Array Value} (hw : Tw Z a0) : ((Jvm.Cond.fieldLink "com/example/ryazan/ryazan/statespace/StateStore" (7 : Nat) "com/example/ryazan/ryazan/statespace/StateStore" "packed" "[J")).before a0 Z = true := hw _ (List.mem_of_getElem? (i := 99) rfl)
theorem t100 {Z : State} {a0 : Array Value} (hw : Tw Z a0) : ((Jvm.Cond.lays "com/example/ryazan/ryazan/statespace/StateStore" "com/example/ryazan/ryazan/statespace/StateStore" "packed" "[J")).before a0 Z = true := hw _ (List.mem_of_getElem? (i := 100) rfl)
theorem t101 {Z : State} {a0 : Array Value} (hw : Tw Z a0) : ((Jvm.Cond.fieldLink "com/example/ryazan/ryazan/statespace/StateStore" (13 : Nat) "com/example/ryazan/ryazan/statespace/StateStore" "slotBits" "I")).before a0 Z = true := hw _ (List.mem_of_getElem? (i := 101) rfl)
theorem t102 {Z : State} {a0 : Array Value} (hw : Tw Z a0) : ((Jvm.Cond.lays "com/example/ryazan/ryazan/statespace/StateStore" "com/example/ryazan/ryazan/statespace/StateStore" "slotBits" "I")).before a0 Z = true := hw _ (List.mem_of_getElem? (i := 102) rfl)
theorem t103 {Z : State} {a0 : Array Value} (hw : Tw Z a0) : ((Jvm.Cond.methodLink "com/example/ryazan/ryazan/statespace/StateStore" (17 : Nat) ({ cls := "com/example/ryazan/ryazan/statespace/StateStore", name := "emptyTable", desc := "(I)[I" } : Jvm.MethodName))).before a0 Z = true := hw _ (List.mem_of_getElem? (i := 103) rfl)
theorem t104 {Z : State} {a0 : Array Value} (hw : Tw Z a0) : ((Jvm.Cond.static ({ cls := "com/example/ryazan/ryazan/statespace/StateStore", name := "emptyTable", desc := "(I)[I" } : Jvm.MethodName))).before a0 Z = true := hw _ (List.mem_of_getElem? (i := 104) rfl)
theorem t105 {Z : State} {a0 : Array Value} (hw : Tw Z a0) : ((Jvm.Cond.code ({ cls := "com/example/ryazan/ryazan/statespace/StateStore", name := "emptyTable", desc := "(I)[I" } : Jvm.MethodName) prog_197_method_24_code (2 : Nat) (Option.some (Jvm.ClassFile.FieldType.array Jvm.ClassFile.FieldType.int)))).before a0 Z = true := hw _ (List.mem_of_getElem? (i := 105) rfl)
theorem t106 {Z : State} {a0 : Array Value} (hw : Tw Z a0) : ((Jvm.Cond.methodLink "com/example/ryazan/ryazan/statespace/StateStore" (152 : Nat) ({ cls := "java/lang/Math", name := "toIntExact", desc := "(J)I" } : Jvm.MethodName))).before a0 Z = true := hw _ (List.mem_of_getElem? (i := 106) rfl)
theorem t107 {Z : State} {a0 : Array Value} (hw : Tw Z a0) : ((Jvm.Cond.static ({ cls := "java/lang/Math", name := "toIntExact", desc := "(J)I" } : Jvm.MethodName))).before a0 Z = true := hw _ (List.mem_of_getElem? (i := 107) rfl)
theorem t108 {Z : State} {a0 : Array Value} (hw : Tw Z a0) : ((Jvm.Cond.code ({ cls := "java/lang/Math", name := "toIntExact", desc := "(J)I" } : Jvm.MethodName) jdk_29_method_43_code (2 : Nat) (Option.some Jvm.ClassFile.FieldType.int))).before a0 Z = true := hw _ (List.mem_of_getElem? (i := 108) rfl)
theorem t109 {Z : State} {a0 : Array Value} (hw : Tw Z a0) : ((Jvm.Cond.arrayClass Jvm.ClassFile.FieldType.int)).before a0 Z = true := hw _ (List.mem_of_getElem? (i := 109) rfl)
theorem t110 {Z : State} {a0 : Array Value} (hw : Tw Z a0) : ((Jvm.Cond.methodLink "com/example/ryazan/ryazan/statespace/StateStore" (155 : Nat) ({ cls := "java/util/Arrays", name := "fill", desc := "([II)V" } : Jvm.MethodName))).before a0 Z = true := hw _ (List.mem_of_getElem? (i := 110) rfl)
theorem t111 {Z : State} {a0 : Array Value} (hw : Tw Z a0) : ((Jvm.Cond.static ({ cls := "java/util/Arrays", name := "fill", desc := "([II)V" } : Jvm.MethodName))).before a0 Z = true := hw _ (List.mem_of_getElem? (i := 111) rfl)
theorem t112 {Z : State} {a0 : Array Value} (hw : Tw Z a0) : ((Jvm.Cond.initialized "java/util/Arrays")).before a0 Z = true := hw _ (List.mem_of_getElem? (i := 112) rfl)
theorem t113 {Z : State} {a0 : Array Value} (hw : Tw Z a0) : ((Jvm.Cond.code ({ cls := "java/util/Arrays", name := "fill", desc := "([II)V" } : Jvm.MethodName) jdk_65_method_103_code (4 : Nat) (Option.none : Option Jvm.ClassFile.FieldType))).before a0 Z = true := hw _ (List.mem_of_getElem? (i := 113) rfl)
theorem t114 {Z : State} {a0 : Array Value} (hw : Tw Z a0) : ((Jvm.Cond.fieldLink "com/example/ryazan/ryazan/statespace/StateStore" (21 : Nat) "com/example/ryazan/ryazan/statespace/StateStore" "table" "[I")).before a0 Z = true := hw _ (List.mem_of_getElem? (i := 114) rfl)
theorem t115 {Z : State} {a0 : Array Value} (hw : Tw Z a0) : ((Jvm.Cond.lays "com/example/ryazan/ryazan/statespace/StateStore" "com/example/ryazan/ryazan/statespace/StateStore" "table" "[I")).before a0 Z = true := hw _ (List.mem_of_getElem? (i := 115) rfl)
theorem t116 {Z : State} {a0 : Array Value} (hw : Tw Z a0) : ((Jvm.Cond.fieldLink "com/example/ryazan/ryazan/statespace/StateStore" (25 : Nat) "com/example/ryazan/ryazan/statespace/StateStore" "hashes" "[I")).before a0 Z = true := hw _ (List.mem_of_getElem? (i := 116) rfl)
theorem t117 {Z : State} {a0 : Array Value} (hw : Tw Z a0) : ((Jvm.Cond.lays "com/example/ryazan/ryazan/statespace/StateStore" "com/example/ryazan/ryazan/statespace/StateStore" "hashes" "[I")).before a0 Z = true := hw _ (List.mem_of_getElem? (i := 117) rfl)
theorem t118 {Z : State} {a0 : Array Value} (hw : Tw Z a0) : ((Jvm.Cond.methodLink "com/example/ryazan/ryazan/statespace/StateStore" (28 : Nat) ({ cls := "java/util/List", name := "size", desc := "()I" } : Jvm.MethodName))).before a0 Z = true := hw _ (List.mem_of_getElem? (i := 118) rfl)
theorem t119 {Z : State} {a0 : Array Value} (hw : Tw Z a0) : ((Jvm.Cond.declares ({ cls := "java/util/List", name := "size", desc := "()I" } : Jvm.MethodName))).before a0 Z = true := hw _ (List.mem_of_getElem? (i := 119) rfl)
theorem t120 {Z : State} {a0 : Array Value} (hw : Tw Z a0) : ((Jvm.Cond.interfaceMethod "java/util/List" "java/util/List" "size" "()I")).before a0 Z = true := hw _ (List.mem_of_getElem? (i := 120) rfl)
theorem t121 {Z : State} {a0 : Array Value} (hw : Tw Z a0) : ((Jvm.Cond.selects "java/util/ArrayList" ({ cls := "java/util/List", name := "size", desc := "()I" } : Jvm.MethodName) ({ cls := "java/util/ArrayList", name := "size", desc := "()I" } : Jvm.MethodName))).before a0 Z = true := hw _ (List.mem_of_getElem? (i := 121) rfl)
theorem t122 {Z : State} {a0 : Array Value} (hw : Tw Z a0) : ((Jvm.Cond.instanceMethod ({ cls := "java/util/ArrayList", name := "size", desc := "()I" } : Jvm.MethodName))).before a0 Z = true := hw _ (List.mem_of_getElem? (i := 122) rfl)
theorem t123 {Z : State} {a0 : Array Value} (hw : Tw Z a0) : ((Jvm.Cond.publicMethod ({ cls := "java/util/ArrayList", name := "size", desc := "()I" } : Jvm.MethodName))).before a0 Z = true := hw _ (List.mem_of_getElem? (i := 123) rfl)
theorem t124 {Z : State} {a0 : Array Value} (hw : Tw Z a0) : ((Jvm.Cond.unhidden "java/util/ArrayList" "size" "()I")).before a0 Z = true := hw _ (List.mem_of_getElem? (i := 124) rfl)
theorem t125 {Z : State} {a0 : Array Value} (hw : Tw Z a0) : ((Jvm.Cond.castable "java/util/ArrayList" "java/util/List")).before a0 Z = true := hw _ (List.mem_of_getElem? (i := 125) rfl)
theorem t126 {Z : State} {a0 : Array Value} (hw : Tw Z a0) : ((Jvm.Cond.code ({ cls := "java/util/ArrayList", name := "size", desc := "()I" } : Jvm.MethodName) jdk_38_method_8_code (1 : Nat) (Option.some Jvm.ClassFile.FieldType.int))).before a0 Z = true := hw _ (List.mem_of_getElem? (i := 126) rfl)
theorem t127 {Z : State} {a0 : Array Value} (hw : Tw Z a0) : ((Jvm.Cond.fieldLink "com/example/ryazan/ryazan/statespace/StateStore" (34 : Nat) "com/example/ryazan/ryazan/statespace/StateStore" "lows" "[I")).before a0 Z = true := hw _ (List.mem_of_getElem? (i := 127) rfl)
theorem t128 {Z : State} {a0 : Array Value} (hw : Tw Z a0) : ((Jvm.Cond.laysFinal "com/example/ryazan/ryazan/statespace/StateStore" "com/example/ryazan/ryazan/statespace/StateStore" "lows" "[I")).before a0 Z = true := hw _ (List.mem_of_getElem? (i := 128) rfl)
theorem t129 {Z : State} {a0 : Array Value} (hw : Tw Z a0) : ((Jvm.Cond.fieldLink "com/example/ryazan/ryazan/statespace/StateStore" (37 : Nat) "com/example/ryazan/ryazan/statespace/StateStore" "words" "[I")).before a0 Z = true := hw _ (List.mem_of_getElem? (i := 129) rfl)
theorem t130 {Z : State} {a0 : Array Value} (hw : Tw Z a0) : ((Jvm.Cond.laysFinal "com/example/ryazan/ryazan/statespace/StateStore" "com/example/ryazan/ryazan/statespace/StateStore" "words" "[I")).before a0 Z = true := hw _ (List.mem_of_getElem? (i := 130) rfl)
theorem t131 {Z : State} {a0 : Array Value} (hw : Tw Z a0) : ((Jvm.Cond.fieldLink "com/example/ryazan/ryazan/statespace/StateStore" (40 : Nat) "com/example/ryazan/ryazan/statespace/StateStore" "shifts" "[I")).before a0 Z = true := hw _ (List.mem_of_getElem? (i := 131) rfl)
theorem t132 {Z : State} {a0 : Array Value} (hw : Tw Z a0) : ((Jvm.Cond.laysFinal "com/example/ryazan/ryazan/statespace/StateStore" "com/example/ryazan/ryazan/statespace/StateStore" "shifts" "[I")).before a0 Z = true := hw _ (List.mem_of_getElem? (i := 132) rfl)
theorem t133 {Z : State} {a0 : Array Value} (hw : Tw Z a0) : ((Jvm.Cond.fieldLink "com/example/ryazan/ryazan/statespace/StateStore" (43 : Nat) "com/example/ryazan/ryazan/statespace/StateStore" "masks" "[J")).before a0 Z = true := hw _ (List.mem_of_getElem? (i := 133) rfl)
theorem t134 {Z : State} {a0 : Array Value} (hw : Tw Z a0) : ((Jvm.Cond.laysFinal "com/example/ryazan/ryazan/statespace/StateStore" "com/example/ryazan/ryazan/statespace/StateStore" "masks" "[J")).before a0 Z = true := hw _ (List.mem_of_getElem? (i := 134) rfl)
theorem t135 {Z : State} {a0 : Array Value} (hw : Tw Z a0) : ((Jvm.Cond.methodLink "com/example/ryazan/ryazan/statespace/StateStore" (46 : Nat) ({ cls := "java/util/List", name := "get", desc := "(I)Ljava/lang/Object;" } : Jvm.MethodName))).before a0 Z = true := hw _ (List.mem_of_getElem? (i := 135) rfl)
theorem t136 {Z : State} {a0 : Array Value} (hw : Tw Z a0) : ((Jvm.Cond.declares ({ cls := "java/util/List", name := "get", desc := "(I)Ljava/lang/Object;" } : Jvm.MethodName))).before a0 Z = true := hw _ (List.mem_of_getElem? (i := 136) rfl)
theorem t137 {Z : State} {a0 : Array Value} (hw : Tw Z a0) : ((Jvm.Cond.interfaceMethod "java/util/List" "java/util/List" "get" "(I)Ljava/lang/Object;")).before a0 Z = true := hw _ (List.mem_of_getElem? (i := 137) rfl)
theorem t138 {Z : State} {a0 : Array Value} (hw : Tw Z a0) : ((Jvm.Cond.selects "java/util/ArrayList" ({ cls := "java/util/List", name := "get", desc := "(I)Ljava/lang/Object;" } : Jvm.MethodName) ({ cls := "java/util/ArrayList", name := "get", desc := "(I)Ljava/lang/Object;" } : Jvm.MethodName))).before a0 Z = true := hw _ (List.mem_of_getElem? (i := 138) rfl)
theorem t139 {Z : State} {a0 : Array Value} (hw : Tw Z a0) : ((Jvm.Cond.instanceMethod ({ cls := "java/util/ArrayList", name := "get", desc := "(I)Ljava/lang/Object;" } : Jvm.MethodName))).before a0 Z = true := hw _ (List.mem_of_getElem? (i := 139) rfl)
theorem t140 {Z : State} {a0 : Array Value} (hw : Tw Z a0) : ((Jvm.Cond.publicMethod ({ cls := "java/util/ArrayList", name := "get", desc := "(I)Ljava/lang/Object;" } : Jvm.MethodName))).before a0 Z = true := hw _ (List.mem_of_getElem? (i := 140) rfl)
theorem t141 {Z : State} {a0 : Array Value} (hw : Tw Z a0) : ((Jvm.Cond.unhidden "java/util/ArrayList" "get" "(I)Ljava/lang/Object;")).before a0 Z = true := hw _ (List.mem_of_getElem? (i := 141) rfl)
theorem t142 {Z : State} {a0 : Array Value} (hw : Tw Z a0) : ((Jvm.Cond.code ({ cls := "java/util/ArrayList", name := "get", desc := "(I)Ljava/lang/Object;" } : Jvm.MethodName) jdk_38_method_20_code (2 : Nat) (Option.some (Jvm.ClassFile.FieldType.object "java/lang/Object")))).before a0 Z = true := hw _ (List.mem_of_getElem? (i := 142) rfl)
theorem t143 {Z : State} {a0 : Array Value} (hw : Tw Z a0) : ((Jvm.Cond.methodLink "java/util/ArrayList" (118 : Nat) ({ cls := "java/util/Objects", name := "checkIndex", desc := "(II)I" } : Jvm.MethodName))).before a0 Z = true := hw _ (List.mem_of_getElem? (i := 143) rfl)
theorem t144 {Z : State} {a0 : Array Value} (hw : Tw Z a0) : ((Jvm.Cond.static ({ cls := "java/util/Objects", name := "checkIndex", desc := "(II)I" } : Jvm.MethodName))).before a0 Z = true := hw _ (List.mem_of_getElem? (i := 144) rfl)
theorem t145 {Z : State} {a0 : Array Value} (hw : Tw Z a0) : ((Jvm.Cond.initialized "java/util/Objects")).before a0 Z = true := hw _ (List.mem_of_getElem? (i := 145) rfl)
theorem t146 {Z : State} {a0 : Array Value} (hw : Tw Z a0) : ((Jvm.Cond.code ({ cls := "java/util/Objects", name := "checkIndex", desc := "(II)I" } : Jvm.MethodName) jdk_31_method_17_code (2 : Nat) (Option.some Jvm.ClassFile.FieldType.int))).before a0 Z = true := hw _ (List.mem_of_getElem? (i := 146) rfl)
theorem t147 {Z : State} {a0 : Array Value} (hw : Tw Z a0) : ((Jvm.Cond.methodLink "java/util/Objects" (105 : Nat) ({ cls := "jdk/internal/util/Preconditions", name := "checkIndex", desc := "(IILjava/util/function/BiFunction;)I" } : Jvm.MethodName))).before a0 Z = true := hw _ (List.mem_of_getElem? (i := 147) rfl)
theorem t148 {Z : State} {a0 : Array Value} (hw : Tw Z a0) : ((Jvm.Cond.static ({ cls := "jdk/internal/util/Preconditions", name := "checkIndex", desc := "(IILjava/util/function/BiFunction;)I" } : Jvm.MethodName))).before a0 Z = true := hw _ (List.mem_of_getElem? (i := 148) rfl)
theorem t149 {Z : State} {a0 : Array Value} (hw : Tw Z a0) : ((Jvm.Cond.initialized "jdk/internal/util/Preconditions")).before a0 Z = true := hw _ (List.mem_of_getElem? (i := 149) rfl)
theorem t150 {Z : State} {a0 : Array Value} (hw : Tw Z a0) : ((Jvm.Cond.code ({ cls := "jdk/internal/util/Preconditions", name := "checkIndex", desc := "(IILjava/util/function/BiFunction;)I" } : Jvm.MethodName) jdk_41_method_11_code (3 : Nat) (Option.some Jvm.ClassFile.FieldType.int))).before a0 Z = true := hw _ (List.mem_of_getElem? (i := 150) rfl)
theorem t151 {Z : State} {a0 : Array Value} (hw : Tw Z a0) : ((Jvm.Cond.methodLink "java/util/ArrayList" (123 : Nat) ({ cls := "java/util/ArrayList", name := "elementData", desc := "(I)Ljava/lang/Object;" } : Jvm.MethodName))).before a0 Z = true := hw _ (List.mem_of_getElem? (i := 151) rfl)
theorem t152 {Z : State} {a0 : Array Value} (hw : Tw Z a0) : ((Jvm.Cond.declares ({ cls := "java/util/ArrayList", name := "elementData", desc := "(I)Ljava/lang/Object;" } : Jvm.MethodName))).before a0 Z = true := hw _ (List.mem_of_getElem? (i := 152) rfl)
theorem t153 {Z : State} {a0 : Array Value} (hw : Tw Z a0) : ((Jvm.Cond.instanceMethod ({ cls := "java/util/ArrayList", name := "elementData", desc := "(I)Ljava/lang/Object;" } : Jvm.MethodName))).before a0 Z = true := hw _ (List.mem_of_getElem? (i := 153) rfl)
theorem t154 {Z : State} {a0 : Array Value} (hw : Tw Z a0) : ((Jvm.Cond.selects "java/util/ArrayList" ({ cls := "java/util/ArrayList", name := "elementData", desc := "(I)Ljava/lang/Object;" } : Jvm.MethodName) ({ cls := "java/util/ArrayList", name := "elementData", desc := "(I)Ljava/lang/Object;" } : Jvm.MethodName))).before a0 Z = true := hw _ (List.mem_of_getElem? (i := 154) rfl)
theorem t155 {Z : State} {a0 : Array Value} (hw : Tw Z a0) : ((Jvm.Cond.code ({ cls := "java/util/ArrayList", name := "elementData", desc := "(I)Ljava/lang/Object;" } : Jvm.MethodName) jdk_38_method_18_code (2 : Nat) (Option.some (Jvm.ClassFile.FieldType.object "java/lang/Object")))).before a0 Z = true := hw _ (List.mem_of_getElem? (i := 155) rfl)
theorem t156 {Z : State} {a0 : Array Value} (hw : Tw Z a0) : ((Jvm.Cond.classLink "com/example/ryazan/ryazan/statespace/StateStore" (50 : Nat) "com/example/ryazan/ryazan/model/Model$Variable")).before a0 Z = true := hw _ (List.mem_of_getElem? (i := 156) rfl)
theorem t158 {Z : State} {a0 : Array Value} (hw : Tw Z a0) : ((Jvm.Cond.methodLink "com/example/ryazan/ryazan/statespace/StateStore" (52 : Nat) ({ cls := "com/example/ryazan/ryazan/model/Model$Variable", name := "high", desc := "()I" } : Jvm.MethodName))).before a0 Z = true := hw _ (List.mem_of_getElem? (i := 158) rfl)
theorem t159 {Z : State} {a0 : Array Value} (hw : Tw Z a0) : ((Jvm.Cond.declares ({ cls := "com/example/ryazan/ryazan/model/Model$Variable", name := "high", desc := "()I" } : Jvm.MethodName))).before a0 Z = true := hw _ (List.mem_of_getElem? (i := 159) rfl)
theorem t160 {Z : State} {a0 : Array Value} (hw : Tw Z a0) : ((Jvm.Cond.instanceMethod ({ cls := "com/example/ryazan/ryazan/model/Model$Variable", name := "high", desc := "()I" } : Jvm.MethodName))).before a0 Z = true := hw _ (List.mem_of_getElem? (i := 160) rfl)
theorem t161 {Z : State} {a0 : Array Value} (hw : Tw Z a0) : ((Jvm.Cond.selects "com/example/ryazan/ryazan/model/Model$Variable" ({ cls := "com/example/ryazan/ryazan/model/Model$Variable", name := "high", desc := "()I" } : Jvm.MethodName) ({ cls := "com/example/ryazan/ryazan/model/Model$Variable", name := "high", desc := "()I" } : Jvm.MethodName))).before a0 Z = true := hw _ (List.mem_of_getElem? (i := 161) rfl)
theorem t162 {Z : State} {a0 : Array Value} (hw : Tw Z a0) : ((Jvm.Cond.code ({ cls := "com/example/ryazan/ryazan/model/Model$Variable", name := "high", desc := "()I" } : Jvm.MethodName) prog_172_method_10_code (1 : Nat) (Option.some Jvm.ClassFile.FieldType.int))).before a0 Z = true := hw _ (List.mem_of_getElem? (i := 162) rfl)
theorem t163 {Z : State} {a0 : Array Value} (hw : Tw Z a0) : ((Jvm.Cond.methodLink "com/example/ryazan/ryazan/statespace/StateStore" (55 : Nat) ({ cls := "com/example/ryazan/ryazan/model/Model$Variable", name := "low", desc := "()I" } : Jvm.MethodName))).before a0 Z = true := hw _ (List.mem_of_getElem? (i := 163) rfl)
theorem t164 {Z : State} {a0 : Array Value} (hw : Tw Z a0) : ((Jvm.Cond.declares ({ cls := "com/example/ryazan/ryazan/model/Model$Variable", name := "low", desc := "()I" } : Jvm.MethodName))).before a0 Z = true := hw _ (List.mem_of_getElem? (i := 164) rfl)
theorem t165 {Z : State} {a0 : Array Value} (hw : Tw Z a0) : ((Jvm.Cond.instanceMethod ({ cls := "com/example/ryazan/ryazan/model/Model$Variable", name := "low", desc := "()I" } : Jvm.MethodName))).before a0 Z = true := hw _ (List.mem_of_getElem? (i := 165) rfl)
theorem t166 {Z : State} {a0 : Array Value} (hw : Tw Z a0) : ((Jvm.Cond.selects "com/example/ryazan/ryazan/model/Model$Variable" ({ cls := "com/example/ryazan/ryazan/model/Model$Variable", name := "low", desc := "()I" } : Jvm.MethodName) ({ cls := "com/example/ryazan/ryazan/model/Model$Variable", name := "low", desc := "()I" } : Jvm.MethodName))).before a0 Z = true := hw _ (List.mem_of_getElem? (i := 166) rfl)
theorem t167 {Z : State} {a0 : Array Value} (hw : Tw Z a0) : ((Jvm.Cond.code ({ cls := "com/example/ryazan/ryazan/model/Model$Variable", name := "low", desc := "()I" } : Jvm.MethodName) prog_172_method_9_code (1 : Nat) (Option.some Jvm.ClassFile.FieldType.int))).before a0 Z = true := hw _ (List.mem_of_getElem? (i := 167) rfl)
theorem t168 {Z : State} {a0 : Array Value} (hw : Tw Z a0) : ((Jvm.Cond.methodLink "com/example/ryazan/ryazan/statespace/StateStore" (58 : Nat) ({ cls := "java/lang/Long", name := "numberOfLeadingZeros", desc := "(J)I" } : Jvm.MethodName))).before a0 Z = true := hw _ (List.mem_of_getElem? (i := 168) rfl)
theorem t169 {Z : State} {a0 : Array Value} (hw : Tw Z a0) : ((Jvm.Cond.static ({ cls := "java/lang/Long", name := "numberOfLeadingZeros", desc := "(J)I" } : Jvm.MethodName))).before a0 Z = true := hw _ (List.mem_of_getElem? (i := 169) rfl)
theorem t170 {Z : State} {a0 : Array Value} (hw : Tw Z a0) : ((Jvm.Cond.initialized "java/lang/Long")).before a0 Z = true := hw _ (List.mem_of_getElem? (i := 170) rfl)
theorem t171 {Z : State} {a0 : Array Value} (hw : Tw Z a0) : ((Jvm.Cond.code ({ cls := "java/lang/Long", name := "numberOfLeadingZeros", desc := "(J)I" } : Jvm.MethodName) jdk_35_method_48_code (3 : Nat) (Option.some Jvm.ClassFile.FieldType.int))).before a0 Z = true := hw _ (List.mem_of_getElem? (i := 171) rfl)
theorem t172 {Z : State} {a0 : Array Value} (hw : Tw Z a0) : ((Jvm.Cond.methodLink "java/lang/Long" (308 : Nat) ({ cls := "java/lang/Integer", name := "numberOfLeadingZeros", desc := "(I)I" } : Jvm.MethodName))).before a0 Z = true := hw _ (List.mem_of_getElem? (i := 172) rfl)
theorem t173 {Z : State} {a0 : Array Value} (hw : Tw Z a0) : ((Jvm.Cond.static ({ cls := "java/lang/Integer", name := "numberOfLeadingZeros", desc := "(I)I" } : Jvm.MethodName))).before a0 Z = true := hw _ (List.mem_of_getElem? (i := 173) rfl)
theorem t174 {Z : State} {a0 : Array Value} (hw : Tw Z a0) : ((Jvm.Cond.initialized "java/lang/Integer")).before a0 Z = true := hw _ (List.mem_of_getElem? (i := 174) rfl)
theorem t175 {Z : State} {a0 : Array Value} (hw : Tw Z a0) : ((Jvm.Cond.code ({ cls := "java/lang/Integer", name := "numberOfLeadingZeros", desc := "(I)I" } : Jvm.MethodName) jdk_33_method_47_code (2 : Nat) (Option.some Jvm.ClassFile.FieldType.int))).before a0 Z = true := hw _ (List.mem_of_getElem? (i := 175) rfl)
theorem t176 {Z : State} {a0 : Array Value} (hw : Tw Z a0) : ((Jvm.Cond.fieldLink "com/example/ryazan/ryazan/statespace/StateStore" (64 : Nat) "com/example/ryazan/ryazan/statespace/StateStore" "wordsPerState" "I")).before a0 Z = true := hw _ (List.mem_of_getElem? (i := 176) rfl)
theorem t177 {Z : State} {a0 : Array Value} (hw : Tw Z a0) : ((Jvm.Cond.laysFinal "com/example/ryazan/ryazan/statespace/StateStore" "com/example/ryazan/ryazan/statespace/StateStore" "wordsPerState" "I")).before a0 Z = true := hw _ (List.mem_of_getElem? (i := 177) rfl)
theorem t178 {Z : State} {a0 : Array Value} (hw : Tw Z a0) : ((Jvm.Cond.fieldLink "com/example/ryazan/ryazan/statespace/StateStore" (67 : Nat) "com/example/ryazan/ryazan/statespace/StateStore" "key" "[J")).before a0 Z = true := hw _ (List.mem_of_getElem? (i := 178) rfl)
theorem t179 {Z : State} {a0 : Array Value} (hw : Tw Z a0) : ((Jvm.Cond.laysFinal "com/example/ryazan/ryazan/statespace/StateStore" "com/example/ryazan/ryazan/statespace/StateStore" "key" "[J")).before a0 Z = true := hw _ (List.mem_of_getElem? (i := 179) rfl)
theorem t180 {Z : State} {a0 : Array Value} (hw : Tw Z a0) : ((Jvm.Cond.methodLink "com/example/ryazan/ryazan/statespace/StateStoreHashPinLaw" (32 : Nat) ({ cls := "com/example/ryazan/ryazan/statespace/StateStore", name := "wordsPerState", desc := "()I" } : Jvm.MethodName))).before a0 Z = true := hw _ (List.mem_of_getElem? (i := 180) rfl)
theorem t181 {Z : State} {a0 : Array Value} (hw : Tw Z a0) : ((Jvm.Cond.declares ({ cls := "com/example/ryazan/ryazan/statespace/StateStore", name := "wordsPerState", desc := "()I" } : Jvm.MethodName))).before a0 Z = true := hw _ (List.mem_of_getElem? (i := 181) rfl)
theorem t182 {Z : State} {a0 : Array Value} (hw : Tw Z a0) : ((Jvm.Cond.instanceMethod ({ cls := "com/example/ryazan/ryazan/statespace/StateStore", name := "wordsPerState", desc := "()I" } : Jvm.MethodName))).before a0 Z = true := hw _ (List.mem_of_getElem? (i := 182) rfl)
theorem t183 {Z : State} {a0 : Array Value} (hw : Tw Z a0) : ((Jvm.Cond.selects "com/example/ryazan/ryazan/statespace/StateStore" ({ cls := "com/example/ryazan/ryazan/statespace/StateStore", name := "wordsPerState", desc := "()I" } : Jvm.MethodName) ({ cls := "com/example/ryazan/ryazan/statespace/StateStore", name := "wordsPerState", desc := "()I" } : Jvm.MethodName))).before a0 Z = true := hw _ (List.mem_of_getElem? (i := 183) rfl)
theorem t184 {Z : State} {a0 : Array Value} (hw : Tw Z a0) : ((Jvm.Cond.code ({ cls := "com/example/ryazan/ryazan/statespace/StateStore", name := "wordsPerState", desc := "()I" } : Jvm.MethodName) prog_197_method_4_code (1 : Nat) (Option.some Jvm.ClassFile.FieldType.int))).before a0 Z = true := hw _ (List.mem_of_getElem? (i := 184) rfl)
theorem t185 {Z : State} {a0 : Array Value} (hw : Tw Z a0) : ((Jvm.Cond.methodLink "com/example/ryazan/ryazan/statespace/StateStoreHashPinLaw" (36 : Nat) ({ cls := "com/example/ryazan/ryazan/statespace/StateStore", name := "hash", desc := "([JI)I" } : Jvm.MethodName))).before a0 Z = true := hw _ (List.mem_of_getElem? (i := 185) rfl)
theorem t186 {Z : State} {a0 : Array Value} (hw : Tw Z a0) : ((Jvm.Cond.declares ({ cls := "com/example/ryazan/ryazan/statespace/StateStore", name := "hash", desc := "([JI)I" } : Jvm.MethodName))).before a0 Z = true := hw _ (List.mem_of_getElem? (i := 186) rfl)
theorem t187 {Z : State} {a0 : Array Value} (hw : Tw Z a0) : ((Jvm.Cond.instanceMethod ({ cls := "com/example/ryazan/ryazan/statespace/StateStore", name := "hash", desc := "([JI)I" } : Jvm.MethodName))).before a0 Z = true := hw _ (List.mem_of_getElem? (i := 187) rfl)
theorem t188 {Z : State} {a0 : Array Value} (hw : Tw Z a0) : ((Jvm.Cond.selects "com/example/ryazan/ryazan/statespace/StateStore" ({ cls := "com/example/ryazan/ryazan/statespace/StateStore", name := "hash", desc := "([JI)I" } : Jvm.MethodName) ({ cls := "com/example/ryazan/ryazan/statespace/StateStore", name := "hash", desc := "([JI)I" } : Jvm.MethodName))).before a0 Z = true := hw _ (List.mem_of_getElem? (i := 188) rfl)
theorem t189 {Z : State} {a0 : Array Value} (hw : Tw Z a0) : ((Jvm.Cond.code ({ cls := "com/example/ryazan/ryazan/statespace/StateStore", name := "hash", desc := "([JI)I" } : Jvm.MethodName) prog_197_method_25_code (6 : Nat) (Option.some Jvm.ClassFile.FieldType.int))).before a0 Z = true := hw _ (List.mem_of_getElem? (i := 189) rfl)
theorem t190 {Z : State} {a0 : Array Value} (hw : Tw Z a0) : ((Jvm.Cond.constantLong "com/example/ryazan/ryazan/statespace/StateStore" (158 : Nat) (-7046029254386353131 : Int64))).before a0 Z = true := hw _ (List.mem_of_getElem? (i := 190) rfl)
theorem t191 {Z : State} {a0 : Array Value} (hw : Tw Z a0) : ((Jvm.Cond.constantLong "com/example/ryazan/ryazan/statespace/StateStore" (160 : Nat) (-4658895280553007687 : Int64))).before a0 Z = true := hw _ (List.mem_of_getElem? (i := 191) rfl)
theorem t192 {Z : State} {a0 : Array Value} (hw : Tw Z a0) : ((Jvm.Cond.constantLong "com/example/ryazan/ryazan/statespace/StateStoreHashPinLaw" (40 : Nat) (-7046029254386353131 : Int64))).before a0 Z = true := hw _ (List.mem_of_getElem? (i := 192) rfl)
theorem t193 {Z : State} {a0 : Array Value} (hw : Tw Z a0) : ((Jvm.Cond.methodLink "com/example/ryazan/ryazan/statespace/StateStoreHashPinLaw" (42 : Nat) ({ cls := "com/example/ryazan/ryazan/statespace/StateStoreHashPinLaw", name := "fin", desc := "(J)I" } : Jvm.MethodName))).before a0 Z = true := hw _ (List.mem_of_getElem? (i := 193) rfl)
theorem t194 {Z : State} {a0 : Array Value} (hw : Tw Z a0) : ((Jvm.Cond.static ({ cls := "com/example/ryazan/ryazan/statespace/StateStoreHashPinLaw", name := "fin", desc := "(J)I" } : Jvm.MethodName))).before a0 Z = true := hw _ (List.mem_of_getElem? (i := 194) rfl)
theorem t195 {Z : State} {a0 : Array Value} (hw : Tw Z a0) : ((Jvm.Cond.initialized "com/example/ryazan/ryazan/statespace/StateStoreHashPinLaw")).before a0 Z = true := hw _ (List.mem_of_getElem? (i := 195) rfl)
theorem t196 {Z : State} {a0 : Array Value} (hw : Tw Z a0) : ((Jvm.Cond.code ({ cls := "com/example/ryazan/ryazan/statespace/StateStoreHashPinLaw", name := "fin", desc := "(J)I" } : Jvm.MethodName) method_2_code (4 : Nat) (Option.some Jvm.ClassFile.FieldType.int))).before a0 Z = true := hw _ (List.mem_of_getElem? (i := 196) rfl)
theorem t197 {Z : State} {a0 : Array Value} (hw : Tw Z a0) : ((Jvm.Cond.constantLong "com/example/ryazan/ryazan/statespace/StateStoreHashPinLaw" (7 : Nat) (-4658895280553007687 : Int64))).before a0 Z = true := hw _ (List.mem_of_getElem? (i := 197) rfl)
def fs0 : List (String × String × String) := [("java/util/AbstractList", "modCount", "I"), ("java/util/ArrayList", "elementData", "[Ljava/lang/Object;"), ("java/util/ArrayList", "size", "I")]
abbrev o0 (w0 w1 w2 : Value) : Ob := .inl ("java/util/ArrayList", fs0, [w0, w1, w2])
theorem cls0 {Z : State} {a0 : Array Value} (hw : Tw Z a0) : Cls Z a0 "java/util/ArrayList" 3 fs0 := by
  refine ⟨(t1 hw), fun i f hf => ?_, fun i j f g hf hg e => ?_⟩
  · match i, hf with
    | 0, hf => cases (Option.some.inj hf); exact ⟨Or.inl (t22 hw), .int, by decide +kernel⟩
    | 1, hf => cases (Option.some.inj hf); exact ⟨Or.inl (t25 hw), (.array (.object "java/lang/Object")), by decide +kernel⟩
    | 2, hf => cases (Option.some.inj hf); exact ⟨Or.inl (t68 hw), .int, by decide +kernel⟩
    | (i + 3), hf => exact absurd hf (by simp [fs0])
  · have hi : i < 3 := (List.getElem?_eq_some_iff.mp hf).1
    have hj : j < 3 := (List.getElem?_eq_some_iff.mp hg).1
    have key : ∀ (i j : Fin 3), (fs0[i.val]?.map (·.2.1)) = (fs0[j.val]?.map (·.2.1)) → i = j := by decide +kernel
    exact congrArg Fin.val (key ⟨i, hi⟩ ⟨j, hj⟩ (by simp only [hf, hg, Option.map_some, e]))
def fs1 : List (String × String × String) := [("com/example/ryazan/ryazan/model/Model$Variable", "name", "Ljava/lang/String;"), ("com/example/ryazan/ryazan/model/Model$Variable", "type", "Lcom/example/ryazan/ryazan/lang/Type;"), ("com/example/ryazan/ryazan/model/Model$Variable", "low", "I"), ("com/example/ryazan/ryazan/model/Model$Variable", "high", "I"), ("com/example/ryazan/ryazan/model/Model$Variable", "initial", "I"), ("com/example/ryazan/ryazan/model/Model$Variable", "position", "Lcom/example/ryazan/ryazan/lang/SourcePosition;")]
abbrev o1 (w0 w1 w2 w3 w4 w5 : Value) : Ob := .inl ("com/example/ryazan/ryazan/model/Model$Variable", fs1, [w0, w1, w2, w3, w4, w5])
theorem cls1 {Z : State} {a0 : Array Value} (hw : Tw Z a0) : Cls Z a0 "com/example/ryazan/ryazan/model/Model$Variable" 6 fs1 := by
  refine ⟨(t27 hw), fun i f hf => ?_, fun i j f g hf hg e => ?_⟩
  · match i, hf with
    | 0, hf => cases (Option.some.inj hf); exact ⟨Or.inr (t49 hw), (.object "java/lang/String"), by decide +kernel⟩
    | 1, hf => cases (Option.some.inj hf); exact ⟨Or.inr (t51 hw), (.object "com/example/ryazan/ryazan/lang/Type"), by decide +kernel⟩
    | 2, hf => cases (Option.some.inj hf); exact ⟨Or.inr (t53 hw), .int, by decide +kernel⟩
    | 3, hf => cases (Option.some.inj hf); exact ⟨Or.inr (t55 hw), .int, by decide +kernel⟩
    | 4, hf => cases (Option.some.inj hf); exact ⟨Or.inr (t57 hw), .int, by decide +kernel⟩
    | 5, hf => cases (Option.some.inj hf); exact ⟨Or.inr (t59 hw), (.object "com/example/ryazan/ryazan/lang/SourcePosition"), by decide +kernel⟩
    | (i + 6), hf => exact absurd hf (by simp [fs1])
  · have hi : i < 6 := (List.getElem?_eq_some_iff.mp hf).1
    have hj : j < 6 := (List.getElem?_eq_some_iff.mp hg).1
    have key : ∀ (i j : Fin 6), (fs1[i.val]?.map (·.2.1)) = (fs1[j.val]?.map (·.2.1)) → i = j := by decide +kernel
    exact congrArg Fin.val (key ⟨i, hi⟩ ⟨j, hj⟩ (by simp only [hf, hg, Option.map_some, e]))
def fs2 : List (String × String × String) := [("com/example/ryazan/ryazan/statespace/StateStore", "packed", "[J"), ("com/example/ryazan/ryazan/statespace/StateStore", "slotBits", "I"), ("com/example/ryazan/ryazan/statespace/StateStore", "table", "[I"), ("com/example/ryazan/ryazan/statespace/StateStore", "hashes", "[I"), ("com/example/ryazan/ryazan/statespace/StateStore", "lows", "[I"), ("com/example/ryazan/ryazan/statespace/StateStore", "words", "[I"), ("com/example/ryazan/ryazan/statespace/StateStore", "shifts", "[I"), ("com/example/ryazan/ryazan/statespace/StateStore", "masks", "[J"), ("com/example/ryazan/ryazan/statespace/StateStore", "wordsPerState", "I"), ("com/example/ryazan/ryazan/statespace/StateStore", "key", "[J")]
abbrev o2 (w0 w1 w2 w3 w4 w5 w6 w7 w8 w9 : Value) : Ob := .inl ("com/example/ryazan/ryazan/statespace/StateStore", fs2, [w0, w1, w2, w3, w4, w5, w6, w7, w8, w9])
theorem cls2 {Z : State} {a0 : Array Value} (hw : Tw Z a0) : Cls Z a0 "com/example/ryazan/ryazan/statespace/StateStore" 12 fs2 := by
  refine ⟨(t92 hw), fun i f hf => ?_, fun i j f g hf hg e => ?_⟩
  · match i, hf with
    | 0, hf => cases (Option.some.inj hf); exact ⟨Or.inl (t100 hw), (.array .long), by decide +kernel⟩
    | 1, hf => cases (Option.some.inj hf); exact ⟨Or.inl (t102 hw), .int, by decide +kernel⟩
    | 2, hf => cases (Option.some.inj hf); exact ⟨Or.inl (t115 hw), (.array .int), by decide +kernel⟩
    | 3, hf => cases (Option.some.inj hf); exact ⟨Or.inl (t117 hw), (.array .int), by decide +kernel⟩
    | 4, hf => cases (Option.some.inj hf); exact ⟨Or.inr (t128 hw), (.array .int), by decide +kernel⟩
    | 5, hf => cases (Option.some.inj hf); exact ⟨Or.inr (t130 hw), (.array .int), by decide +kernel⟩
    | 6, hf => cases (Option.some.inj hf); exact ⟨Or.inr (t132 hw), (.array .int), by decide +kernel⟩
    | 7, hf => cases (Option.some.inj hf); exact ⟨Or.inr (t134 hw), (.array .long), by decide +kernel⟩
    | 8, hf => cases (Option.some.inj hf); exact ⟨Or.inr (t177 hw), .int, by decide +kernel⟩
    | 9, hf => cases (Option.some.inj hf); exact ⟨Or.inr (t179 hw), (.array .long), by decide +kernel⟩
    | (i + 10), hf => exact absurd hf (by simp [fs2])
  · have hi : i < 10 := (List.getElem?_eq_some_iff.mp hf).1
    have hj : j < 10 := (List.getElem?_eq_some_iff.mp hg).1
    have key : ∀ (i j : Fin 10), (fs2[i.val]?.map (·.2.1)) = (fs2[j.val]?.map (·.2.1)) → i = j := by decide +kernel
    exact congrArg Fin.val (key ⟨i, hi⟩ ⟨j, hj⟩ (by simp only [hf, hg, Option.map_some, e]))
theorem pd0 : parseMethodDescriptor "()V" = some ⟨[], none⟩ := by decide +kernel
theorem pd1 : parseMethodDescriptor "(II)I" = some ⟨[.int, .int], some .int⟩ := by decide +kernel
theorem pd2 : parseMethodDescriptor "(I)[Ljava/lang/Object;" = some ⟨[.int], some (.array (.object "java/lang/Object"))⟩ := by decide +kernel
theorem pd3 : parseMethodDescriptor "()[Ljava/lang/Object;" = some ⟨[], some (.array (.object "java/lang/Object"))⟩ := by decide +kernel
theorem pd4 : parseMethodDescriptor "(Ljava/lang/Object;[Ljava/lang/Object;I)V" = some ⟨[(.object "java/lang/Object"), (.array (.object "java/lang/Object")), .int], none⟩ := by decide +kernel
theorem pd5 : parseMethodDescriptor "(IILjava/util/function/BiFunction;)I" = some ⟨[.int, .int, (.object "java/util/function/BiFunction")], some .int⟩ := by decide +kernel
theorem pd6 : parseMethodDescriptor "(I)Ljava/lang/Object;" = some ⟨[.int], some (.object "java/lang/Object")⟩ := by decide +kernel
theorem pd7 : parseMethodDescriptor "(I)I" = some ⟨[.int], some .int⟩ := by decide +kernel
theorem pd8 : parseMethodDescriptor "(J)I" = some ⟨[.long], some .int⟩ := by decide +kernel
theorem pd9 : parseMethodDescriptor "([II)V" = some ⟨[(.array .int), .int], none⟩ := by decide +kernel
theorem pd10 : parseMethodDescriptor "(I)[I" = some ⟨[.int], some (.array .int)⟩ := by decide +kernel
theorem pd11 : parseMethodDescriptor "()I" = some ⟨[], some .int⟩ := by decide +kernel
theorem pd12 : parseMethodDescriptor "(Ljava/lang/String;Lcom/example/ryazan/ryazan/lang/Type;IIILcom/example/ryazan/ryazan/lang/SourcePosition;)V" = some ⟨[(.object "java/lang/String"), (.object "com/example/ryazan/ryazan/lang/Type"), .int, .int, .int, (.object "com/example/ryazan/ryazan/lang/SourcePosition")], none⟩ := by decide +kernel
theorem pd13 : parseMethodDescriptor "(Ljava/lang/Object;)Z" = some ⟨[(.object "java/lang/Object")], some .boolean⟩ := by decide +kernel
theorem pd14 : parseMethodDescriptor "(Ljava/util/List;)V" = some ⟨[(.object "java/util/List")], none⟩ := by decide +kernel
theorem pd15 : parseMethodDescriptor "([JI)I" = some ⟨[(.array .long), .int], some .int⟩ := by decide +kernel
theorem pn0 : plainName "java/util/AbstractCollection" = true := by first | (simp [plainName, overriddenIn]; done) | decide +kernel
theorem pn1 : plainName "java/util/AbstractList" = true := by first | (simp [plainName, overriddenIn]; done) | decide +kernel
theorem pn2 : plainName "java/util/ArrayList" = true := by first | (simp [plainName, overriddenIn]; done) | decide +kernel
theorem pn3 : plainName "jdk/internal/util/Preconditions" = true := by first | (simp [plainName, overriddenIn]; done) | decide +kernel
theorem pn4 : plainName "java/util/Objects" = true := by first | (simp [plainName, overriddenIn]; done) | decide +kernel
theorem pn5 : plainName "java/util/Arrays" = true := by first | (simp [plainName, overriddenIn]; done) | decide +kernel
theorem pn6 : plainName "java/lang/Integer" = true := by first | (simp [plainName, overriddenIn]; done) | decide +kernel
theorem pn7 : plainName "java/lang/Long" = true := by first | (simp [plainName, overriddenIn]; done) | decide +kernel
theorem pn8 : plainName "java/lang/Record" = true := by first | (simp [plainName, overriddenIn]; done) | decide +kernel
theorem pn9 : plainName "com/example/ryazan/ryazan/model/Model$Variable" = true := by first | (simp [plainName, overriddenIn]; done) | decide +kernel
theorem pn10 : plainName "com/example/ryazan/ryazan/statespace/StateStore" = true := by first | (simp [plainName, overriddenIn]; done) | decide +kernel
theorem pn11 : plainName "com/example/ryazan/ryazan/statespace/StateStoreHashPinLaw" = true := by first | (simp [plainName, overriddenIn]; done) | decide +kernel
theorem d1_0 : decode jdk_38_method_2_code 0 = .ok (.aload_n 0, 1) := by decide +kernel
theorem d1_1 : decode jdk_38_method_2_code 1 = .ok (.invokespecial 1, 3) := by decide +kernel
theorem d1_4 : decode jdk_38_method_2_code 4 = .ok (.aload_n 0, 1) := by decide +kernel
theorem d1_5 : decode jdk_38_method_2_code 5 = .ok (.getstatic 39, 3) := by decide +kernel
theorem d1_8 : decode jdk_38_method_2_code 8 = .ok (.putfield 9, 3) := by decide +kernel
theorem d1_11 : decode jdk_38_method_2_code 11 = .ok (.return_, 1) := by decide +kernel
theorem d2_0 : decode jdk_39_method_1_code 0 = .ok (.aload_n 0, 1) := by decide +kernel
theorem d2_1 : decode jdk_39_method_1_code 1 = .ok (.invokespecial 1, 3) := by decide +kernel
theorem d2_4 : decode jdk_39_method_1_code 4 = .ok (.aload_n 0, 1) := by decide +kernel
theorem d2_5 : decode jdk_39_method_1_code 5 = .ok (.iconst 0, 1) := by decide +kernel
theorem d2_6 : decode jdk_39_method_1_code 6 = .ok (.putfield 7, 3) := by decide +kernel
theorem d2_9 : decode jdk_39_method_1_code 9 = .ok (.return_, 1) := by decide +kernel
theorem d3_0 : decode jdk_22_method_1_code 0 = .ok (.aload_n 0, 1) := by decide +kernel
theorem d3_1 : decode jdk_22_method_1_code 1 = .ok (.invokespecial 1, 3) := by decide +kernel
theorem d3_4 : decode jdk_22_method_1_code 4 = .ok (.return_, 1) := by decide +kernel
theorem d5_0 : decode prog_172_method_1_code 0 = .ok (.aload_n 0, 1) := by decide +kernel
theorem d5_1 : decode prog_172_method_1_code 1 = .ok (.invokespecial 1, 3) := by decide +kernel
theorem d5_4 : decode prog_172_method_1_code 4 = .ok (.aload_n 0, 1) := by decide +kernel
theorem d5_5 : decode prog_172_method_1_code 5 = .ok (.aload_n 1, 1) := by decide +kernel
theorem d5_6 : decode prog_172_method_1_code 6 = .ok (.putfield 7, 3) := by decide +kernel
theorem d5_9 : decode prog_172_method_1_code 9 = .ok (.aload_n 0, 1) := by decide +kernel
theorem d5_10 : decode prog_172_method_1_code 10 = .ok (.aload_n 2, 1) := by decide +kernel
theorem d5_11 : decode prog_172_method_1_code 11 = .ok (.putfield 13, 3) := by decide +kernel
theorem d5_14 : decode prog_172_method_1_code 14 = .ok (.aload_n 0, 1) := by decide +kernel
theorem d5_15 : decode prog_172_method_1_code 15 = .ok (.iload_n 3, 1) := by decide +kernel
theorem d5_16 : decode prog_172_method_1_code 16 = .ok (.putfield 17, 3) := by decide +kernel
theorem d5_19 : decode prog_172_method_1_code 19 = .ok (.aload_n 0, 1) := by decide +kernel
theorem d5_20 : decode prog_172_method_1_code 20 = .ok (.iload 4, 2) := by decide +kernel
theorem d5_22 : decode prog_172_method_1_code 22 = .ok (.putfield 21, 3) := by decide +kernel
theorem d5_25 : decode prog_172_method_1_code 25 = .ok (.aload_n 0, 1) := by decide +kernel
theorem d5_26 : decode prog_172_method_1_code 26 = .ok (.iload 5, 2) := by decide +kernel
theorem d5_28 : decode prog_172_method_1_code 28 = .ok (.putfield 24, 3) := by decide +kernel
theorem d5_31 : decode prog_172_method_1_code 31 = .ok (.aload_n 0, 1) := by decide +kernel
theorem d5_32 : decode prog_172_method_1_code 32 = .ok (.aload 6, 2) := by decide +kernel
theorem d5_34 : decode prog_172_method_1_code 34 = .ok (.putfield 27, 3) := by decide +kernel
theorem d5_37 : decode prog_172_method_1_code 37 = .ok (.return_, 1) := by decide +kernel
theorem d6_0 : decode jdk_30_method_1_code 0 = .ok (.aload_n 0, 1) := by decide +kernel
theorem d6_1 : decode jdk_30_method_1_code 1 = .ok (.invokespecial 1, 3) := by decide +kernel
theorem d6_4 : decode jdk_30_method_1_code 4 = .ok (.return_, 1) := by decide +kernel
theorem d7_0 : decode jdk_38_method_25_code 0 = .ok (.aload_n 0, 1) := by decide +kernel
theorem d7_1 : decode jdk_38_method_25_code 1 = .ok (.dup, 1) := by decide +kernel
theorem d7_2 : decode jdk_38_method_25_code 2 = .ok (.getfield 63, 3) := by decide +kernel
theorem d7_5 : decode jdk_38_method_25_code 5 = .ok (.iconst 1, 1) := by decide +kernel
theorem d7_6 : decode jdk_38_method_25_code 6 = .ok (.iadd, 1) := by decide +kernel
theorem d7_7 : decode jdk_38_method_25_code 7 = .ok (.putfield 63, 3) := by decide +kernel
theorem d7_10 : decode jdk_38_method_25_code 10 = .ok (.aload_n 0, 1) := by decide +kernel
theorem d7_11 : decode jdk_38_method_25_code 11 = .ok (.aload_n 1, 1) := by decide +kernel
theorem d7_12 : decode jdk_38_method_25_code 12 = .ok (.aload_n 0, 1) := by decide +kernel
theorem d7_13 : decode jdk_38_method_25_code 13 = .ok (.getfield 9, 3) := by decide +kernel
theorem d7_16 : decode jdk_38_method_25_code 16 = .ok (.aload_n 0, 1) := by decide +kernel
theorem d7_17 : decode jdk_38_method_25_code 17 = .ok (.getfield 48, 3) := by decide +kernel
theorem d7_20 : decode jdk_38_method_25_code 20 = .ok (.invokevirtual 131, 3) := by decide +kernel
theorem d7_23 : decode jdk_38_method_25_code 23 = .ok (.iconst 1, 1) := by decide +kernel
theorem d7_24 : decode jdk_38_method_25_code 24 = .ok (.ireturn, 1) := by decide +kernel
theorem d8_0 : decode jdk_38_method_24_code 0 = .ok (.iload_n 3, 1) := by decide +kernel
theorem d8_1 : decode jdk_38_method_24_code 1 = .ok (.aload_n 2, 1) := by decide +kernel
theorem d8_2 : decode jdk_38_method_24_code 2 = .ok (.arraylength, 1) := by decide +kernel
theorem d8_3 : decode jdk_38_method_24_code 3 = .ok (.if_icmp .ne 8, 3) := by decide +kernel
theorem d8_6 : decode jdk_38_method_24_code 6 = .ok (.aload_n 0, 1) := by decide +kernel
theorem d8_7 : decode jdk_38_method_24_code 7 = .ok (.invokevirtual 129, 3) := by decide +kernel
theorem d8_10 : decode jdk_38_method_24_code 10 = .ok (.astore_n 2, 1) := by decide +kernel
theorem d8_11 : decode jdk_38_method_24_code 11 = .ok (.aload_n 2, 1) := by decide +kernel
theorem d8_12 : decode jdk_38_method_24_code 12 = .ok (.iload_n 3, 1) := by decide +kernel
theorem d8_13 : decode jdk_38_method_24_code 13 = .ok (.aload_n 1, 1) := by decide +kernel
theorem d8_14 : decode jdk_38_method_24_code 14 = .ok (.aastore, 1) := by decide +kernel
theorem d8_15 : decode jdk_38_method_24_code 15 = .ok (.aload_n 0, 1) := by decide +kernel
theorem d8_16 : decode jdk_38_method_24_code 16 = .ok (.iload_n 3, 1) := by decide +kernel
theorem d8_17 : decode jdk_38_method_24_code 17 = .ok (.iconst 1, 1) := by decide +kernel
theorem d8_18 : decode jdk_38_method_24_code 18 = .ok (.iadd, 1) := by decide +kernel
theorem d8_19 : decode jdk_38_method_24_code 19 = .ok (.putfield 48, 3) := by decide +kernel
theorem d8_22 : decode jdk_38_method_24_code 22 = .ok (.return_, 1) := by decide +kernel
theorem d9_0 : decode jdk_38_method_7_code 0 = .ok (.aload_n 0, 1) := by decide +kernel
theorem d9_1 : decode jdk_38_method_7_code 1 = .ok (.aload_n 0, 1) := by decide +kernel
theorem d9_2 : decode jdk_38_method_7_code 2 = .ok (.getfield 48, 3) := by decide +kernel
theorem d9_5 : decode jdk_38_method_7_code 5 = .ok (.iconst 1, 1) := by decide +kernel
theorem d9_6 : decode jdk_38_method_7_code 6 = .ok (.iadd, 1) := by decide +kernel
theorem d9_7 : decode jdk_38_method_7_code 7 = .ok (.invokevirtual 69, 3) := by decide +kernel
theorem d9_10 : decode jdk_38_method_7_code 10 = .ok (.areturn, 1) := by decide +kernel
theorem d10_0 : decode jdk_38_method_6_code 0 = .ok (.aload_n 0, 1) := by decide +kernel
theorem d10_1 : decode jdk_38_method_6_code 1 = .ok (.getfield 9, 3) := by decide +kernel
theorem d10_4 : decode jdk_38_method_6_code 4 = .ok (.arraylength, 1) := by decide +kernel
theorem d10_5 : decode jdk_38_method_6_code 5 = .ok (.istore_n 2, 1) := by decide +kernel
theorem d10_6 : decode jdk_38_method_6_code 6 = .ok (.iload_n 2, 1) := by decide +kernel
theorem d10_7 : decode jdk_38_method_6_code 7 = .ok (.ifCond .gt 13, 3) := by decide +kernel
theorem d10_10 : decode jdk_38_method_6_code 10 = .ok (.aload_n 0, 1) := by decide +kernel
theorem d10_11 : decode jdk_38_method_6_code 11 = .ok (.getfield 9, 3) := by decide +kernel
theorem d10_14 : decode jdk_38_method_6_code 14 = .ok (.getstatic 39, 3) := by decide +kernel
theorem d10_17 : decode jdk_38_method_6_code 17 = .ok (.if_acmp .eq 28, 3) := by decide +kernel
theorem d10_45 : decode jdk_38_method_6_code 45 = .ok (.aload_n 0, 1) := by decide +kernel
theorem d10_46 : decode jdk_38_method_6_code 46 = .ok (.bipush 10, 2) := by decide +kernel
theorem d10_48 : decode jdk_38_method_6_code 48 = .ok (.iload_n 1, 1) := by decide +kernel
theorem d10_49 : decode jdk_38_method_6_code 49 = .ok (.invokestatic 79, 3) := by decide +kernel
theorem d10_52 : decode jdk_38_method_6_code 52 = .ok (.anewarray 7, 3) := by decide +kernel
theorem d10_55 : decode jdk_38_method_6_code 55 = .ok (.dup_x1, 1) := by decide +kernel
theorem d10_56 : decode jdk_38_method_6_code 56 = .ok (.putfield 9, 3) := by decide +kernel
theorem d10_59 : decode jdk_38_method_6_code 59 = .ok (.areturn, 1) := by decide +kernel
theorem d11_0 : decode jdk_29_method_65_code 0 = .ok (.iload_n 0, 1) := by decide +kernel
theorem d11_1 : decode jdk_29_method_65_code 1 = .ok (.iload_n 1, 1) := by decide +kernel
theorem d11_2 : decode jdk_29_method_65_code 2 = .ok (.if_icmp .lt 7, 3) := by decide +kernel
theorem d11_5 : decode jdk_29_method_65_code 5 = .ok (.iload_n 0, 1) := by decide +kernel
theorem d11_6 : decode jdk_29_method_65_code 6 = .ok (.goto 4, 3) := by decide +kernel
theorem d11_9 : decode jdk_29_method_65_code 9 = .ok (.iload_n 1, 1) := by decide +kernel
theorem d11_10 : decode jdk_29_method_65_code 10 = .ok (.ireturn, 1) := by decide +kernel
theorem d12_0 : decode prog_197_method_1_code 0 = .ok (.aload_n 0, 1) := by decide +kernel
theorem d12_1 : decode prog_197_method_1_code 1 = .ok (.invokespecial 1, 3) := by decide +kernel
theorem d12_4 : decode prog_197_method_1_code 4 = .ok (.aload_n 0, 1) := by decide +kernel
theorem d12_5 : decode prog_197_method_1_code 5 = .ok (.iconst 0, 1) := by decide +kernel
theorem d12_6 : decode prog_197_method_1_code 6 = .ok (.newarray .long, 2) := by decide +kernel
theorem d12_8 : decode prog_197_method_1_code 8 = .ok (.putfield 7, 3) := by decide +kernel
theorem d12_11 : decode prog_197_method_1_code 11 = .ok (.aload_n 0, 1) := by decide +kernel
theorem d12_12 : decode prog_197_method_1_code 12 = .ok (.bipush 10, 2) := by decide +kernel
theorem d12_14 : decode prog_197_method_1_code 14 = .ok (.putfield 13, 3) := by decide +kernel
theorem d12_17 : decode prog_197_method_1_code 17 = .ok (.aload_n 0, 1) := by decide +kernel
theorem d12_18 : decode prog_197_method_1_code 18 = .ok (.aload_n 0, 1) := by decide +kernel
theorem d12_19 : decode prog_197_method_1_code 19 = .ok (.getfield 13, 3) := by decide +kernel
theorem d12_22 : decode prog_197_method_1_code 22 = .ok (.invokestatic 17, 3) := by decide +kernel
theorem d12_25 : decode prog_197_method_1_code 25 = .ok (.putfield 21, 3) := by decide +kernel
theorem d12_28 : decode prog_197_method_1_code 28 = .ok (.aload_n 0, 1) := by decide +kernel
theorem d12_29 : decode prog_197_method_1_code 29 = .ok (.iconst 0, 1) := by decide +kernel
theorem d12_30 : decode prog_197_method_1_code 30 = .ok (.newarray .int, 2) := by decide +kernel
theorem d12_32 : decode prog_197_method_1_code 32 = .ok (.putfield 25, 3) := by decide +kernel
theorem d12_35 : decode prog_197_method_1_code 35 = .ok (.aload_n 1, 1) := by decide +kernel
theorem d12_36 : decode prog_197_method_1_code 36 = .ok (.invokeinterface 28 1, 5) := by decide +kernel
theorem d12_41 : decode prog_197_method_1_code 41 = .ok (.istore_n 2, 1) := by decide +kernel
theorem d12_42 : decode prog_197_method_1_code 42 = .ok (.aload_n 0, 1) := by decide +kernel
theorem d12_43 : decode prog_197_method_1_code 43 = .ok (.iload_n 2, 1) := by decide +kernel
theorem d12_44 : decode prog_197_method_1_code 44 = .ok (.newarray .int, 2) := by decide +kernel
theorem d12_46 : decode prog_197_method_1_code 46 = .ok (.putfield 34, 3) := by decide +kernel
theorem d12_49 : decode prog_197_method_1_code 49 = .ok (.aload_n 0, 1) := by decide +kernel
theorem d12_50 : decode prog_197_method_1_code 50 = .ok (.iload_n 2, 1) := by decide +kernel
theorem d12_51 : decode prog_197_method_1_code 51 = .ok (.newarray .int, 2) := by decide +kernel
theorem d12_53 : decode prog_197_method_1_code 53 = .ok (.putfield 37, 3) := by decide +kernel
theorem d12_56 : decode prog_197_method_1_code 56 = .ok (.aload_n 0, 1) := by decide +kernel
theorem d12_57 : decode prog_197_method_1_code 57 = .ok (.iload_n 2, 1) := by decide +kernel
theorem d12_58 : decode prog_197_method_1_code 58 = .ok (.newarray .int, 2) := by decide +kernel
theorem d12_60 : decode prog_197_method_1_code 60 = .ok (.putfield 40, 3) := by decide +kernel
theorem d12_63 : decode prog_197_method_1_code 63 = .ok (.aload_n 0, 1) := by decide +kernel
theorem d12_64 : decode prog_197_method_1_code 64 = .ok (.iload_n 2, 1) := by decide +kernel
theorem d12_65 : decode prog_197_method_1_code 65 = .ok (.newarray .long, 2) := by decide +kernel
theorem d12_67 : decode prog_197_method_1_code 67 = .ok (.putfield 43, 3) := by decide +kernel
theorem d12_70 : decode prog_197_method_1_code 70 = .ok (.iconst 0, 1) := by decide +kernel
theorem d12_71 : decode prog_197_method_1_code 71 = .ok (.istore_n 3, 1) := by decide +kernel
theorem d12_72 : decode prog_197_method_1_code 72 = .ok (.iconst 0, 1) := by decide +kernel
theorem d12_73 : decode prog_197_method_1_code 73 = .ok (.istore 4, 2) := by decide +kernel
theorem d12_75 : decode prog_197_method_1_code 75 = .ok (.iconst 0, 1) := by decide +kernel
theorem d12_76 : decode prog_197_method_1_code 76 = .ok (.istore 5, 2) := by decide +kernel
theorem d12_78 : decode prog_197_method_1_code 78 = .ok (.iload 5, 2) := by decide +kernel
theorem d12_80 : decode prog_197_method_1_code 80 = .ok (.iload_n 2, 1) := by decide +kernel
theorem d12_81 : decode prog_197_method_1_code 81 = .ok (.if_icmp .ge 112, 3) := by decide +kernel
theorem d12_84 : decode prog_197_method_1_code 84 = .ok (.aload_n 1, 1) := by decide +kernel
theorem d12_85 : decode prog_197_method_1_code 85 = .ok (.iload 5, 2) := by decide +kernel
theorem d12_87 : decode prog_197_method_1_code 87 = .ok (.invokeinterface 46 2, 5) := by decide +kernel
theorem d12_92 : decode prog_197_method_1_code 92 = .ok (.checkcast 50, 3) := by decide +kernel
theorem d12_95 : decode prog_197_method_1_code 95 = .ok (.astore 6, 2) := by decide +kernel
theorem d12_97 : decode prog_197_method_1_code 97 = .ok (.aload 6, 2) := by decide +kernel
theorem d12_99 : decode prog_197_method_1_code 99 = .ok (.invokevirtual 52, 3) := by decide +kernel
theorem d12_102 : decode prog_197_method_1_code 102 = .ok (.i2l, 1) := by decide +kernel
theorem d12_103 : decode prog_197_method_1_code 103 = .ok (.aload 6, 2) := by decide +kernel
theorem d12_105 : decode prog_197_method_1_code 105 = .ok (.invokevirtual 55, 3) := by decide +kernel
theorem d12_108 : decode prog_197_method_1_code 108 = .ok (.i2l, 1) := by decide +kernel
theorem d12_109 : decode prog_197_method_1_code 109 = .ok (.lsub, 1) := by decide +kernel
theorem d12_110 : decode prog_197_method_1_code 110 = .ok (.lstore 7, 2) := by decide +kernel
theorem d12_112 : decode prog_197_method_1_code 112 = .ok (.bipush 64, 2) := by decide +kernel
theorem d12_114 : decode prog_197_method_1_code 114 = .ok (.lload 7, 2) := by decide +kernel
theorem d12_116 : decode prog_197_method_1_code 116 = .ok (.invokestatic 58, 3) := by decide +kernel
theorem d12_119 : decode prog_197_method_1_code 119 = .ok (.isub, 1) := by decide +kernel
theorem d12_120 : decode prog_197_method_1_code 120 = .ok (.istore 9, 2) := by decide +kernel
theorem d12_122 : decode prog_197_method_1_code 122 = .ok (.iload 4, 2) := by decide +kernel
theorem d12_124 : decode prog_197_method_1_code 124 = .ok (.iload 9, 2) := by decide +kernel
theorem d12_126 : decode prog_197_method_1_code 126 = .ok (.iadd, 1) := by decide +kernel
theorem d12_127 : decode prog_197_method_1_code 127 = .ok (.bipush 64, 2) := by decide +kernel
theorem d12_129 : decode prog_197_method_1_code 129 = .ok (.if_icmp .le 9, 3) := by decide +kernel
theorem d12_132 : decode prog_197_method_1_code 132 = .ok (.iinc 3 1, 3) := by decide +kernel
theorem d12_135 : decode prog_197_method_1_code 135 = .ok (.iconst 0, 1) := by decide +kernel
theorem d12_136 : decode prog_197_method_1_code 136 = .ok (.istore 4, 2) := by decide +kernel
theorem d12_138 : decode prog_197_method_1_code 138 = .ok (.aload_n 0, 1) := by decide +kernel
theorem d12_139 : decode prog_197_method_1_code 139 = .ok (.getfield 34, 3) := by decide +kernel
theorem d12_142 : decode prog_197_method_1_code 142 = .ok (.iload 5, 2) := by decide +kernel
theorem d12_144 : decode prog_197_method_1_code 144 = .ok (.aload 6, 2) := by decide +kernel
theorem d12_146 : decode prog_197_method_1_code 146 = .ok (.invokevirtual 55, 3) := by decide +kernel
theorem d12_149 : decode prog_197_method_1_code 149 = .ok (.iastore, 1) := by decide +kernel
theorem d12_150 : decode prog_197_method_1_code 150 = .ok (.aload_n 0, 1) := by decide +kernel
theorem d12_151 : decode prog_197_method_1_code 151 = .ok (.getfield 37, 3) := by decide +kernel
theorem d12_154 : decode prog_197_method_1_code 154 = .ok (.iload 5, 2) := by decide +kernel
theorem d12_156 : decode prog_197_method_1_code 156 = .ok (.iload_n 3, 1) := by decide +kernel
theorem d12_157 : decode prog_197_method_1_code 157 = .ok (.iastore, 1) := by decide +kernel
theorem d12_158 : decode prog_197_method_1_code 158 = .ok (.aload_n 0, 1) := by decide +kernel
theorem d12_159 : decode prog_197_method_1_code 159 = .ok (.getfield 40, 3) := by decide +kernel
theorem d12_162 : decode prog_197_method_1_code 162 = .ok (.iload 5, 2) := by decide +kernel
theorem d12_164 : decode prog_197_method_1_code 164 = .ok (.iload 4, 2) := by decide +kernel
theorem d12_166 : decode prog_197_method_1_code 166 = .ok (.iastore, 1) := by decide +kernel
theorem d12_167 : decode prog_197_method_1_code 167 = .ok (.aload_n 0, 1) := by decide +kernel
theorem d12_168 : decode prog_197_method_1_code 168 = .ok (.getfield 43, 3) := by decide +kernel
theorem d12_171 : decode prog_197_method_1_code 171 = .ok (.iload 5, 2) := by decide +kernel
theorem d12_173 : decode prog_197_method_1_code 173 = .ok (.lconst 1, 1) := by decide +kernel
theorem d12_174 : decode prog_197_method_1_code 174 = .ok (.iload 9, 2) := by decide +kernel
theorem d12_176 : decode prog_197_method_1_code 176 = .ok (.lshl, 1) := by decide +kernel
theorem d12_177 : decode prog_197_method_1_code 177 = .ok (.lconst 1, 1) := by decide +kernel
theorem d12_178 : decode prog_197_method_1_code 178 = .ok (.lsub, 1) := by decide +kernel
theorem d12_179 : decode prog_197_method_1_code 179 = .ok (.lastore, 1) := by decide +kernel
theorem d12_180 : decode prog_197_method_1_code 180 = .ok (.iload 4, 2) := by decide +kernel
theorem d12_182 : decode prog_197_method_1_code 182 = .ok (.iload 9, 2) := by decide +kernel
theorem d12_184 : decode prog_197_method_1_code 184 = .ok (.iadd, 1) := by decide +kernel
theorem d12_185 : decode prog_197_method_1_code 185 = .ok (.istore 4, 2) := by decide +kernel
theorem d12_187 : decode prog_197_method_1_code 187 = .ok (.iinc 5 1, 3) := by decide +kernel
theorem d12_190 : decode prog_197_method_1_code 190 = .ok (.goto (-112), 3) := by decide +kernel
theorem d12_193 : decode prog_197_method_1_code 193 = .ok (.aload_n 0, 1) := by decide +kernel
theorem d12_194 : decode prog_197_method_1_code 194 = .ok (.iload_n 3, 1) := by decide +kernel
theorem d12_195 : decode prog_197_method_1_code 195 = .ok (.iconst 1, 1) := by decide +kernel
theorem d12_196 : decode prog_197_method_1_code 196 = .ok (.iadd, 1) := by decide +kernel
theorem d12_197 : decode prog_197_method_1_code 197 = .ok (.putfield 64, 3) := by decide +kernel
theorem d12_200 : decode prog_197_method_1_code 200 = .ok (.aload_n 0, 1) := by decide +kernel
theorem d12_201 : decode prog_197_method_1_code 201 = .ok (.aload_n 0, 1) := by decide +kernel
theorem d12_202 : decode prog_197_method_1_code 202 = .ok (.getfield 64, 3) := by decide +kernel
theorem d12_205 : decode prog_197_method_1_code 205 = .ok (.newarray .long, 2) := by decide +kernel
theorem d12_207 : decode prog_197_method_1_code 207 = .ok (.putfield 67, 3) := by decide +kernel
theorem d12_210 : decode prog_197_method_1_code 210 = .ok (.return_, 1) := by decide +kernel
theorem d13_0 : decode prog_197_method_24_code 0 = .ok (.lconst 1, 1) := by decide +kernel
theorem d13_1 : decode prog_197_method_24_code 1 = .ok (.iload_n 0, 1) := by decide +kernel
theorem d13_2 : decode prog_197_method_24_code 2 = .ok (.lshl, 1) := by decide +kernel
theorem d13_3 : decode prog_197_method_24_code 3 = .ok (.invokestatic 152, 3) := by decide +kernel
theorem d13_6 : decode prog_197_method_24_code 6 = .ok (.newarray .int, 2) := by decide +kernel
theorem d13_8 : decode prog_197_method_24_code 8 = .ok (.astore_n 1, 1) := by decide +kernel
theorem d13_9 : decode prog_197_method_24_code 9 = .ok (.aload_n 1, 1) := by decide +kernel
theorem d13_10 : decode prog_197_method_24_code 10 = .ok (.iconst (-1), 1) := by decide +kernel
theorem d13_11 : decode prog_197_method_24_code 11 = .ok (.invokestatic 155, 3) := by decide +kernel
theorem d13_14 : decode prog_197_method_24_code 14 = .ok (.aload_n 1, 1) := by decide +kernel
theorem d13_15 : decode prog_197_method_24_code 15 = .ok (.areturn, 1) := by decide +kernel
theorem d14_0 : decode jdk_29_method_43_code 0 = .ok (.lload_n 0, 1) := by decide +kernel
theorem d14_1 : decode jdk_29_method_43_code 1 = .ok (.l2i, 1) := by decide +kernel
theorem d14_2 : decode jdk_29_method_43_code 2 = .ok (.i2l, 1) := by decide +kernel
theorem d14_3 : decode jdk_29_method_43_code 3 = .ok (.lload_n 0, 1) := by decide +kernel
theorem d14_4 : decode jdk_29_method_43_code 4 = .ok (.lcmp, 1) := by decide +kernel
theorem d14_5 : decode jdk_29_method_43_code 5 = .ok (.ifCond .eq 13, 3) := by decide +kernel
theorem d14_18 : decode jdk_29_method_43_code 18 = .ok (.lload_n 0, 1) := by decide +kernel
theorem d14_19 : decode jdk_29_method_43_code 19 = .ok (.l2i, 1) := by decide +kernel
theorem d14_20 : decode jdk_29_method_43_code 20 = .ok (.ireturn, 1) := by decide +kernel
theorem d15_0 : decode jdk_65_method_103_code 0 = .ok (.iconst 0, 1) := by decide +kernel
theorem d15_1 : decode jdk_65_method_103_code 1 = .ok (.istore_n 2, 1) := by decide +kernel
theorem d15_2 : decode jdk_65_method_103_code 2 = .ok (.aload_n 0, 1) := by decide +kernel
theorem d15_3 : decode jdk_65_method_103_code 3 = .ok (.arraylength, 1) := by decide +kernel
theorem d15_4 : decode jdk_65_method_103_code 4 = .ok (.istore_n 3, 1) := by decide +kernel
theorem d15_5 : decode jdk_65_method_103_code 5 = .ok (.iload_n 2, 1) := by decide +kernel
theorem d15_6 : decode jdk_65_method_103_code 6 = .ok (.iload_n 3, 1) := by decide +kernel
theorem d15_7 : decode jdk_65_method_103_code 7 = .ok (.if_icmp .ge 13, 3) := by decide +kernel
theorem d15_10 : decode jdk_65_method_103_code 10 = .ok (.aload_n 0, 1) := by decide +kernel
theorem d15_11 : decode jdk_65_method_103_code 11 = .ok (.iload_n 2, 1) := by decide +kernel
theorem d15_12 : decode jdk_65_method_103_code 12 = .ok (.iload_n 1, 1) := by decide +kernel
theorem d15_13 : decode jdk_65_method_103_code 13 = .ok (.iastore, 1) := by decide +kernel
theorem d15_14 : decode jdk_65_method_103_code 14 = .ok (.iinc 2 1, 3) := by decide +kernel
theorem d15_17 : decode jdk_65_method_103_code 17 = .ok (.goto (-12), 3) := by decide +kernel
theorem d15_20 : decode jdk_65_method_103_code 20 = .ok (.return_, 1) := by decide +kernel
theorem d16_0 : decode jdk_38_method_8_code 0 = .ok (.aload_n 0, 1) := by decide +kernel
theorem d16_1 : decode jdk_38_method_8_code 1 = .ok (.getfield 48, 3) := by decide +kernel
theorem d16_4 : decode jdk_38_method_8_code 4 = .ok (.ireturn, 1) := by decide +kernel
theorem d17_0 : decode jdk_38_method_20_code 0 = .ok (.iload_n 1, 1) := by decide +kernel
theorem d17_1 : decode jdk_38_method_20_code 1 = .ok (.aload_n 0, 1) := by decide +kernel
theorem d17_2 : decode jdk_38_method_20_code 2 = .ok (.getfield 48, 3) := by decide +kernel
theorem d17_5 : decode jdk_38_method_20_code 5 = .ok (.invokestatic 118, 3) := by decide +kernel
theorem d17_8 : decode jdk_38_method_20_code 8 = .ok (.pop, 1) := by decide +kernel
theorem d17_9 : decode jdk_38_method_20_code 9 = .ok (.aload_n 0, 1) := by decide +kernel
theorem d17_10 : decode jdk_38_method_20_code 10 = .ok (.iload_n 1, 1) := by decide +kernel
theorem d17_11 : decode jdk_38_method_20_code 11 = .ok (.invokevirtual 123, 3) := by decide +kernel
theorem d17_14 : decode jdk_38_method_20_code 14 = .ok (.areturn, 1) := by decide +kernel
theorem d18_0 : decode jdk_31_method_17_code 0 = .ok (.iload_n 0, 1) := by decide +kernel
theorem d18_1 : decode jdk_31_method_17_code 1 = .ok (.iload_n 1, 1) := by decide +kernel
theorem d18_2 : decode jdk_31_method_17_code 2 = .ok (.aconst_null, 1) := by decide +kernel
theorem d18_3 : decode jdk_31_method_17_code 3 = .ok (.invokestatic 105, 3) := by decide +kernel
theorem d18_6 : decode jdk_31_method_17_code 6 = .ok (.ireturn, 1) := by decide +kernel
theorem d19_0 : decode jdk_41_method_11_code 0 = .ok (.iload_n 0, 1) := by decide +kernel
theorem d19_1 : decode jdk_41_method_11_code 1 = .ok (.ifCond .lt 8, 3) := by decide +kernel
theorem d19_4 : decode jdk_41_method_11_code 4 = .ok (.iload_n 0, 1) := by decide +kernel
theorem d19_5 : decode jdk_41_method_11_code 5 = .ok (.iload_n 1, 1) := by decide +kernel
theorem d19_6 : decode jdk_41_method_11_code 6 = .ok (.if_icmp .lt 10, 3) := by decide +kernel
theorem d19_16 : decode jdk_41_method_11_code 16 = .ok (.iload_n 0, 1) := by decide +kernel
theorem d19_17 : decode jdk_41_method_11_code 17 = .ok (.ireturn, 1) := by decide +kernel
theorem d20_0 : decode jdk_38_method_18_code 0 = .ok (.aload_n 0, 1) := by decide +kernel
theorem d20_1 : decode jdk_38_method_18_code 1 = .ok (.getfield 9, 3) := by decide +kernel
theorem d20_4 : decode jdk_38_method_18_code 4 = .ok (.iload_n 1, 1) := by decide +kernel
theorem d20_5 : decode jdk_38_method_18_code 5 = .ok (.aaload, 1) := by decide +kernel
theorem d20_6 : decode jdk_38_method_18_code 6 = .ok (.areturn, 1) := by decide +kernel
theorem d21_0 : decode prog_172_method_10_code 0 = .ok (.aload_n 0, 1) := by decide +kernel
theorem d21_1 : decode prog_172_method_10_code 1 = .ok (.getfield 21, 3) := by decide +kernel
theorem d21_4 : decode prog_172_method_10_code 4 = .ok (.ireturn, 1) := by decide +kernel
theorem d22_0 : decode prog_172_method_9_code 0 = .ok (.aload_n 0, 1) := by decide +kernel
theorem d22_1 : decode prog_172_method_9_code 1 = .ok (.getfield 17, 3) := by decide +kernel
theorem d22_4 : decode prog_172_method_9_code 4 = .ok (.ireturn, 1) := by decide +kernel
theorem d23_0 : decode jdk_35_method_48_code 0 = .ok (.lload_n 0, 1) := by decide +kernel
theorem d23_1 : decode jdk_35_method_48_code 1 = .ok (.bipush 32, 2) := by decide +kernel
theorem d23_3 : decode jdk_35_method_48_code 3 = .ok (.lushr, 1) := by decide +kernel
theorem d23_4 : decode jdk_35_method_48_code 4 = .ok (.l2i, 1) := by decide +kernel
theorem d23_5 : decode jdk_35_method_48_code 5 = .ok (.istore_n 2, 1) := by decide +kernel
theorem d23_6 : decode jdk_35_method_48_code 6 = .ok (.iload_n 2, 1) := by decide +kernel
theorem d23_7 : decode jdk_35_method_48_code 7 = .ok (.ifCond .ne 14, 3) := by decide +kernel
theorem d23_10 : decode jdk_35_method_48_code 10 = .ok (.bipush 32, 2) := by decide +kernel
theorem d23_12 : decode jdk_35_method_48_code 12 = .ok (.lload_n 0, 1) := by decide +kernel
theorem d23_13 : decode jdk_35_method_48_code 13 = .ok (.l2i, 1) := by decide +kernel
theorem d23_14 : decode jdk_35_method_48_code 14 = .ok (.invokestatic 308, 3) := by decide +kernel
theorem d23_17 : decode jdk_35_method_48_code 17 = .ok (.iadd, 1) := by decide +kernel
theorem d23_18 : decode jdk_35_method_48_code 18 = .ok (.goto 7, 3) := by decide +kernel
theorem d23_25 : decode jdk_35_method_48_code 25 = .ok (.ireturn, 1) := by decide +kernel
theorem d24_0 : decode jdk_33_method_47_code 0 = .ok (.iload_n 0, 1) := by decide +kernel
theorem d24_1 : decode jdk_33_method_47_code 1 = .ok (.ifCond .gt 14, 3) := by decide +kernel
theorem d24_4 : decode jdk_33_method_47_code 4 = .ok (.iload_n 0, 1) := by decide +kernel
theorem d24_5 : decode jdk_33_method_47_code 5 = .ok (.ifCond .ne 8, 3) := by decide +kernel
theorem d24_13 : decode jdk_33_method_47_code 13 = .ok (.iconst 0, 1) := by decide +kernel
theorem d24_14 : decode jdk_33_method_47_code 14 = .ok (.ireturn, 1) := by decide +kernel
theorem d25_0 : decode prog_197_method_4_code 0 = .ok (.aload_n 0, 1) := by decide +kernel
theorem d25_1 : decode prog_197_method_4_code 1 = .ok (.getfield 64, 3) := by decide +kernel
theorem d25_4 : decode prog_197_method_4_code 4 = .ok (.ireturn, 1) := by decide +kernel
theorem d26_0 : decode prog_197_method_25_code 0 = .ok (.lconst 0, 1) := by decide +kernel
theorem d26_1 : decode prog_197_method_25_code 1 = .ok (.lstore_n 3, 1) := by decide +kernel
theorem d26_2 : decode prog_197_method_25_code 2 = .ok (.iload_n 2, 1) := by decide +kernel
theorem d26_3 : decode prog_197_method_25_code 3 = .ok (.istore 5, 2) := by decide +kernel
theorem d26_5 : decode prog_197_method_25_code 5 = .ok (.iload 5, 2) := by decide +kernel
theorem d26_7 : decode prog_197_method_25_code 7 = .ok (.iload_n 2, 1) := by decide +kernel
theorem d26_8 : decode prog_197_method_25_code 8 = .ok (.aload_n 0, 1) := by decide +kernel
theorem d26_9 : decode prog_197_method_25_code 9 = .ok (.getfield 64, 3) := by decide +kernel
theorem d26_12 : decode prog_197_method_25_code 12 = .ok (.iadd, 1) := by decide +kernel
theorem d26_13 : decode prog_197_method_25_code 13 = .ok (.if_icmp .ge 20, 3) := by decide +kernel
theorem d26_16 : decode prog_197_method_25_code 16 = .ok (.lload_n 3, 1) := by decide +kernel
theorem d26_17 : decode prog_197_method_25_code 17 = .ok (.aload_n 1, 1) := by decide +kernel
theorem d26_18 : decode prog_197_method_25_code 18 = .ok (.iload 5, 2) := by decide +kernel
theorem d26_20 : decode prog_197_method_25_code 20 = .ok (.laload, 1) := by decide +kernel
theorem d26_21 : decode prog_197_method_25_code 21 = .ok (.ladd, 1) := by decide +kernel
theorem d26_22 : decode prog_197_method_25_code 22 = .ok (.ldc2_w 158, 3) := by decide +kernel
theorem d26_25 : decode prog_197_method_25_code 25 = .ok (.lmul, 1) := by decide +kernel
theorem d26_26 : decode prog_197_method_25_code 26 = .ok (.lstore_n 3, 1) := by decide +kernel
theorem d26_27 : decode prog_197_method_25_code 27 = .ok (.iinc 5 1, 3) := by decide +kernel
theorem d26_30 : decode prog_197_method_25_code 30 = .ok (.goto (-25), 3) := by decide +kernel
theorem d26_33 : decode prog_197_method_25_code 33 = .ok (.lload_n 3, 1) := by decide +kernel
theorem d26_34 : decode prog_197_method_25_code 34 = .ok (.lload_n 3, 1) := by decide +kernel
theorem d26_35 : decode prog_197_method_25_code 35 = .ok (.bipush 29, 2) := by decide +kernel
theorem d26_37 : decode prog_197_method_25_code 37 = .ok (.lushr, 1) := by decide +kernel
theorem d26_38 : decode prog_197_method_25_code 38 = .ok (.lxor, 1) := by decide +kernel
theorem d26_39 : decode prog_197_method_25_code 39 = .ok (.lstore_n 3, 1) := by decide +kernel
theorem d26_40 : decode prog_197_method_25_code 40 = .ok (.lload_n 3, 1) := by decide +kernel
theorem d26_41 : decode prog_197_method_25_code 41 = .ok (.ldc2_w 160, 3) := by decide +kernel
theorem d26_44 : decode prog_197_method_25_code 44 = .ok (.lmul, 1) := by decide +kernel
theorem d26_45 : decode prog_197_method_25_code 45 = .ok (.lstore_n 3, 1) := by decide +kernel
theorem d26_46 : decode prog_197_method_25_code 46 = .ok (.lload_n 3, 1) := by decide +kernel
theorem d26_47 : decode prog_197_method_25_code 47 = .ok (.lload_n 3, 1) := by decide +kernel
theorem d26_48 : decode prog_197_method_25_code 48 = .ok (.bipush 32, 2) := by decide +kernel
theorem d26_50 : decode prog_197_method_25_code 50 = .ok (.lushr, 1) := by decide +kernel
theorem d26_51 : decode prog_197_method_25_code 51 = .ok (.lxor, 1) := by decide +kernel
theorem d26_52 : decode prog_197_method_25_code 52 = .ok (.lstore_n 3, 1) := by decide +kernel
theorem d26_53 : decode prog_197_method_25_code 53 = .ok (.lload_n 3, 1) := by decide +kernel
theorem d26_54 : decode prog_197_method_25_code 54 = .ok (.l2i, 1) := by decide +kernel
theorem d26_55 : decode prog_197_method_25_code 55 = .ok (.ireturn, 1) := by decide +kernel
theorem d27_0 : decode method_2_code 0 = .ok (.lload_n 0, 1) := by decide +kernel
theorem d27_1 : decode method_2_code 1 = .ok (.lstore_n 2, 1) := by decide +kernel
theorem d27_2 : decode method_2_code 2 = .ok (.lload_n 2, 1) := by decide +kernel
theorem d27_3 : decode method_2_code 3 = .ok (.lload_n 2, 1) := by decide +kernel
theorem d27_4 : decode method_2_code 4 = .ok (.bipush 29, 2) := by decide +kernel
theorem d27_6 : decode method_2_code 6 = .ok (.lushr, 1) := by decide +kernel
theorem d27_7 : decode method_2_code 7 = .ok (.lxor, 1) := by decide +kernel
theorem d27_8 : decode method_2_code 8 = .ok (.lstore_n 2, 1) := by decide +kernel
theorem d27_9 : decode method_2_code 9 = .ok (.lload_n 2, 1) := by decide +kernel
theorem d27_10 : decode method_2_code 10 = .ok (.ldc2_w 7, 3) := by decide +kernel
theorem d27_13 : decode method_2_code 13 = .ok (.lmul, 1) := by decide +kernel
theorem d27_14 : decode method_2_code 14 = .ok (.lstore_n 2, 1) := by decide +kernel
theorem d27_15 : decode method_2_code 15 = .ok (.lload_n 2, 1) := by decide +kernel
theorem d27_16 : decode method_2_code 16 = .ok (.lload_n 2, 1) := by decide +kernel
theorem d27_17 : decode method_2_code 17 = .ok (.bipush 32, 2) := by decide +kernel
theorem d27_19 : decode method_2_code 19 = .ok (.lushr, 1) := by decide +kernel
theorem d27_20 : decode method_2_code 20 = .ok (.lxor, 1) := by decide +kernel
theorem d27_21 : decode method_2_code 21 = .ok (.lstore_n 2, 1) := by decide +kernel
theorem d27_22 : decode method_2_code 22 = .ok (.lload_n 2, 1) := by decide +kernel
theorem d27_23 : decode method_2_code 23 = .ok (.l2i, 1) := by decide +kernel
theorem d27_24 : decode method_2_code 24 = .ok (.ireturn, 1) := by decide +kernel
set_option maxRecDepth 65536 in
set_option maxHeartbeats 40000000 in
theorem c_max {Z : State} {a0 : Array Value} (hw : Tw Z a0) (l : Launch) (h0 : Heap) (n0 : Nat) (x1 x2 : Int32) (Ls : List Ob) :
    Met1 l Z (⟨"java/lang/Math", "max", "(II)I"⟩ : MethodName) jdk_29_method_65_code 2 (some .int) ({ frames := 0, cells := 0, slots := 0, locals := 0 } : Room) #[(.int x1), (.int x2)] h0 n0 Ls (fun v L => v = some (.int (if x1 < x2 then x2 else x1)) ∧ L = Ls) [] := by
  refine Met1.of (ls := #[vI x1, vI x2]) (Jvm.Free.JP.mathPlain rfl (by decide +kernel)) (fun m => by first | (simp [entryFrame, mkF, argsToLocals, Value.category]; done) | rfl) ?_
  intro p e s m below meth c T w
  refine s_iloadN (pc' := 1) w d11_0 rfl rfl ?_
  refine s_iloadN (pc' := 2) w d11_1 rfl rfl ?_
  by_cases h : x1 < x2
  · refine s_icmpY (pc' := 9) w d11_2 (Jvm.Free.XT.ii_lt_t h) (by decide) (by decide) ?_
    refine s_iloadN (pc' := 10) w d11_9 rfl rfl ?_
    exact s_ireturn w d11_10 (by decide) (by decide) ⟨by rw [if_pos h], rfl⟩
  · refine s_icmpN (pc' := 5) w d11_2 (Jvm.Free.XT.ii_lt_f h) rfl ?_
    refine s_iloadN (pc' := 6) w d11_5 rfl rfl ?_
    refine s_goto (pc' := 10) w d11_6 (by decide) (by decide) ?_
    exact s_ireturn w d11_10 (by decide) (by decide) ⟨by rw [if_neg h], rfl⟩
set_option maxRecDepth 65536 in
set_option maxHeartbeats 40000000 in
theorem c_acol {Z : State} {a0 : Array Value} (hw : Tw Z a0) (l : Launch) (h0 : Heap) (n0 : Nat) (a : Addr) (Ls : List Ob) :
    Met1 l Z (⟨"java/util/AbstractCollection", "<init>", "()V"⟩ : MethodName) jdk_22_method_1_code 1 none ({ frames := 1, cells := 0, slots := 0, locals := 12 } : Room) #[(.ref a)] h0 n0 Ls (fun v L => v = none ∧ L = Ls) [] := by
  refine Met1.of (ls := #[vR a]) (plainFor_of_name pn0) (fun m => by first | (simp [entryFrame, mkF, argsToLocals, Value.category]; done) | rfl) ?_
  intro p e s m below meth c T w
  refine s_aloadN (pc' := 1) w d3_0 rfl rfl rfl ?_
  refine s_initO (pc' := 4) 0 w (t18 hw) (t19 hw) (t20 hw) d3_1 rfl (by decide) (Nat.le_of_eq rfl) (by decide) rfl ?_
  intro T w
  exact s_return w d3_4 (by decide) (by decide) ⟨rfl, rfl⟩
set_option maxRecDepth 65536 in
set_option maxHeartbeats 40000000 in
theorem c_alist {Z : State} {a0 : Array Value} (hw : Tw Z a0) (l : Launch) (h0 : Heap) (n0 : Nat) (k : Nat) (mc ed sz : Value) (Ls : List Ob) (hk : Ls[k]? = some (o0 mc ed sz)) :
    Met1 l Z (⟨"java/util/AbstractList", "<init>", "()V"⟩ : MethodName) jdk_39_method_1_code 1 none ({ frames := 2, cells := 0, slots := 0, locals := 24 } : Room) #[(.ref (n0 + k))] h0 n0 Ls (fun v L => v = none ∧ L = Ls.set k (o0 (.int 0) ed sz)) [] := by
  refine Met1.of (ls := #[vR (n0 + k)]) (plainFor_of_name pn1) (fun m => by first | (simp [entryFrame, mkF, argsToLocals, Value.category]; done) | rfl) ?_
  intro p e s m below meth c T w
  refine s_aloadN (pc' := 1) w d2_0 rfl rfl rfl ?_
  refine s_special (pc' := 4) (rest := []) 0 [] w (c_acol hw l h0 n0 (n0 + k) Ls) rfl (t12 hw) (t13 hw) (t16 hw) (t17 hw) (by decide) pd0 d2_1 (by decide) rfl rfl rfl rfl (Nat.le_of_eq rfl) rfl ?_
  intro T v L' hQ w
  obtain ⟨rfl, hL⟩ := hQ
  replace hL := hL.symm
  subst hL
  dsimp only [oS, oN, cA, nA]
  refine s_aloadN (pc' := 5) w d2_4 rfl rfl rfl ?_
  refine s_iconst (pc' := 6) (0 : Int32) w d2_5 (by decide) rfl ?_
  refine s_put (pc' := 9) (host := "") (k := k) w (Or.inl (t21 hw)) Via.refl (cls0 hw) hk (j := 0) rfl (leB rfl) (Or.inl (t22 hw)) (ty := .int) (by decide +kernel) rfl rfl d2_6 rfl ?_
  intro T w
  exact s_return w d2_9 (by decide) (by decide) ⟨rfl, rfl⟩
set_option maxRecDepth 65536 in
set_option maxHeartbeats 40000000 in
theorem c_alinit {Z : State} {a0 : Array Value} (hw : Tw Z a0) (l : Launch) (h0 : Heap) (n0 : Nat) (k : Nat) (mc ed sz : Value) (de : Addr) (Ls : List Ob) (hk : Ls[k]? = some (o0 mc ed sz)) (SD : Sta Z h0 "java/util/ArrayList" "DEFAULTCAPACITY_EMPTY_ELEMENTDATA" "[Ljava/lang/Object;" (.ref de)) :
    Met1 l Z (⟨"java/util/ArrayList", "<init>", "()V"⟩ : MethodName) jdk_38_method_2_code 1 none ({ frames := 3, cells := 0, slots := 0, locals := 36 } : Room) #[(.ref (n0 + k))] h0 n0 Ls (fun v L => v = none ∧ L = Ls.set k (o0 (.int 0) (.ref de) sz)) [] := by
  refine Met1.of (ls := #[vR (n0 + k)]) (plainFor_of_name pn2) (fun m => by first | (simp [entryFrame, mkF, argsToLocals, Value.category]; done) | rfl) ?_
  intro p e s m below meth c T w
  refine s_aloadN (pc' := 1) w d1_0 rfl rfl rfl ?_
  refine s_special (pc' := 4) (rest := []) 0 [] w (c_alist hw l h0 n0 k mc ed sz Ls hk) rfl (t6 hw) (t7 hw) (t10 hw) (t11 hw) (by decide) pd0 d1_1 (by decide) rfl rfl rfl rfl (Nat.le_of_eq rfl) rfl ?_
  intro T v L' hQ w
  obtain ⟨rfl, hL⟩ := hQ
  replace hL := hL.symm
  subst hL
  dsimp only [oS, oN, cA, nA]
  refine s_aloadN (pc' := 5) w d1_4 rfl rfl rfl ?_
  refine s_getS (pc' := 8) (host := "") w (Or.inl (t23 hw)) Via.refl SD d1_5 rfl ?_
  intro T w
  refine s_put (pc' := 11) (host := "") (k := k) w (Or.inl (t24 hw)) Via.refl (cls0 hw) (lk_set hk) (j := 1) rfl (leB rfl) (Or.inl (t25 hw)) (ty := (.array (.object "java/lang/Object"))) (by decide +kernel) rfl rfl d1_8 rfl ?_
  intro T w
  exact s_return w d1_11 (by decide) (by decide) ⟨rfl, List.set_set ..⟩
set_option maxRecDepth 65536 in
set_option maxHeartbeats 40000000 in
theorem c_growI {Z : State} {a0 : Array Value} (hw : Tw Z a0) (l : Launch) (h0 : Heap) (n0 : Nat) (k : Nat) (mc : Value) (sz : Int32) (de : Addr) (dcl : Cell) (Ls : List Ob) (hk : Ls[k]? = some (o0 mc (.ref de) (.int sz))) (SD : Sta Z h0 "java/util/ArrayList" "DEFAULTCAPACITY_EMPTY_ELEMENTDATA" "[Ljava/lang/Object;" (.ref de)) (AD : Arr Z h0 de dcl (.object "java/lang/Object")) (hdcl : dcl.slots.size = 0) :
    Met1 l Z (⟨"java/util/ArrayList", "grow", "(I)[Ljava/lang/Object;"⟩ : MethodName) jdk_38_method_6_code 4 (some (.array (.object "java/lang/Object"))) ({ frames := 1, cells := 1, slots := 10, locals := 14 } : Room) #[(.ref (n0 + k)), (.int (1 : Int32))] h0 n0 Ls (fun v L => v = some (.ref (n0 + Ls.length)) ∧ L = Ls.set k (o0 mc (.ref (n0 + Ls.length)) (.int sz)) ++ [aO (List.replicate 10 .null)]) [] := by
  refine Met1.of (ls := #[vR (n0 + k), vI (1 : Int32), un, un]) (plainFor_of_name pn2) (fun m => by first | (simp [entryFrame, mkF, argsToLocals, Value.category]; done) | rfl) ?_
  intro p e s m below meth c T w
  refine s_aloadN (pc' := 1) w d10_0 rfl rfl rfl ?_
  refine s_getL (pc' := 4) (host := "") w (Or.inl (t24 hw)) Via.refl (Lk.new hk) (j := 1) rfl rfl d10_1 rfl ?_
  intro T w
  refine s_arraylengthA (pc' := 5) (0 : Int32) w AD d10_4 (by rw [hdcl]; rfl) rfl ?_
  refine s_istoreN (pc' := 6) (ls' := #[vR (n0 + k), vI (1 : Int32), vI (0 : Int32), un]) w d10_5 rfl rfl ?_
  refine s_iloadN (pc' := 7) w d10_6 rfl rfl ?_
  refine s_ifN (pc' := 10) w d10_7 (Jvm.Free.XT.i0_gt_f (by decide)) rfl ?_
  refine s_aloadN (pc' := 11) w d10_10 rfl rfl rfl ?_
  refine s_getL (pc' := 14) (host := "") w (Or.inl (t24 hw)) Via.refl (Lk.new hk) (j := 1) rfl rfl d10_11 rfl ?_
  intro T w
  refine s_getS (pc' := 17) (host := "") w (Or.inl (t23 hw)) Via.refl SD d10_14 rfl ?_
  intro T w
  refine s_acmpY (pc' := 45) w d10_17 rfl rfl (Jvm.Free.XT.aa_eq_t rfl) (by decide) (by decide) ?_
  refine s_aloadN (pc' := 46) w d10_45 rfl rfl rfl ?_
  refine s_bipush (pc' := 48) (10 : Int32) w d10_46 (by decide) rfl ?_
  refine s_iloadN (pc' := 49) w d10_48 rfl rfl ?_
  refine s_static (pc' := 52) (rest := [(.ref (n0 + k))]) 1 [(.int (10 : Int32)), (.int (1 : Int32))] w (c_max hw l h0 n0 10 1 Ls) (t84 hw) (t85 hw) (t86 hw) (t87 hw) (by decide) pd1 d10_49 (by decide) rfl rfl rfl rfl (Nat.le_of_eq rfl) rfl ?_
  intro T v L' hQ w
  obtain ⟨rfl, hL⟩ := hQ
  replace hL := hL.symm
  subst hL
  dsimp only [oS, oN, cA, nA]
  rw [show (if (10 : Int32) < 1 then (1 : Int32) else 10) = 10 by decide]
  refine s_anewarray (pc' := 55) w (t88 hw) (t89 hw) d10_52 (by decide) 10 (by decide) (by decide) (by decide) (by decide) (Ls.length) rfl rfl ?_
  intro T w
  replace w : St p l e _ s m _ below meth c Z _ _ _ _ h0 n0 T (Ls ++ [.inr ((.object "java/lang/Object"), List.replicate 10 .null)]) 1 10 := w
  refine s_dup_x1 (pc' := 56) w d10_55 rfl rfl rfl ?_
  refine s_put (pc' := 59) (host := "") (k := k) w (Or.inl (t24 hw)) Via.refl (cls0 hw) (lk_app hk) (j := 1) rfl (leB rfl) (Or.inl (t25 hw)) (ty := (.array (.object "java/lang/Object"))) (by decide +kernel) rfl rfl d10_56 rfl ?_
  intro T w
  exact s_areturn w d10_59 rfl rfl (by decide) (by decide) ⟨rfl, set_app hk⟩
set_option maxRecDepth 65536 in
set_option maxHeartbeats 40000000 in
theorem c_grow {Z : State} {a0 : Array Value} (hw : Tw Z a0) (l : Launch) (h0 : Heap) (n0 : Nat) (k : Nat) (mc : Value) (de : Addr) (dcl : Cell) (Ls : List Ob) (hk : Ls[k]? = some (o0 mc (.ref de) (.int 0))) (SD : Sta Z h0 "java/util/ArrayList" "DEFAULTCAPACITY_EMPTY_ELEMENTDATA" "[Ljava/lang/Object;" (.ref de)) (AD : Arr Z h0 de dcl (.object "java/lang/Object")) (hdcl : dcl.slots.size = 0) :
    Met1 l Z (⟨"java/util/ArrayList", "grow", "()[Ljava/lang/Object;"⟩ : MethodName) jdk_38_method_7_code 1 (some (.array (.object "java/lang/Object"))) ({ frames := 2, cells := 1, slots := 10, locals := 29 } : Room) #[(.ref (n0 + k))] h0 n0 Ls (fun v L => v = some (.ref (n0 + Ls.length)) ∧ L = Ls.set k (o0 mc (.ref (n0 + Ls.length)) (.int 0)) ++ [aO (List.replicate 10 .null)]) [] := by
  refine Met1.of (ls := #[vR (n0 + k)]) (plainFor_of_name pn2) (fun m => by first | (simp [entryFrame, mkF, argsToLocals, Value.category]; done) | rfl) ?_
  intro p e s m below meth c T w
  refine s_aloadN (pc' := 1) w d9_0 rfl rfl rfl ?_
  refine s_aloadN (pc' := 2) w d9_1 rfl rfl rfl ?_
  refine s_getL (pc' := 5) (host := "") w (Or.inl (t67 hw)) Via.refl (Lk.new hk) (j := 2) rfl rfl d9_2 rfl ?_
  intro T w
  refine s_iconst (pc' := 6) (1 : Int32) w d9_5 (by decide) rfl ?_
  refine s_iadd (pc' := 7) w d9_6 rfl ?_
  rw [show (0 : Int32) + 1 = 1 by decide]
  refine s_private (pc' := 10) (rest := []) 0 [(.int (1 : Int32))] w (c_growI hw l h0 n0 k mc 0 de dcl Ls hk SD AD hdcl) (Lk.new hk) (t79 hw) (t80 hw) (t63 hw) rfl (t81 hw) (t2 hw) (t83 hw) (by decide) pd2 d9_7 (by decide) rfl rfl rfl rfl (Nat.le_of_eq rfl) rfl ?_
  intro T v L' hQ w
  obtain ⟨rfl, hL⟩ := hQ
  replace hL := hL.symm
  subst hL
  dsimp only [oS, oN, cA, nA]
  exact s_areturn w d9_10 rfl rfl (by decide) (by decide) ⟨rfl, rfl⟩
set_option maxRecDepth 65536 in
set_option maxHeartbeats 40000000 in
theorem c_add3g {Z : State} {a0 : Array Value} (hw : Tw Z a0) (l : Launch) (h0 : Heap) (n0 : Nat) (k : Nat) (mc : Value) (de : Addr) (dcl : Cell) (b : Addr) (C : String) (fs : List (String × String × String)) (us : List Value) (Ls : List Ob) (hk : Ls[k]? = some (o0 mc (.ref de) (.int 0))) (SD : Sta Z h0 "java/util/ArrayList" "DEFAULTCAPACITY_EMPTY_ELEMENTDATA" "[Ljava/lang/Object;" (.ref de)) (AD : Arr Z h0 de dcl (.object "java/lang/Object")) (hdcl : dcl.slots.size = 0) (qb : Lk Z h0 n0 Ls b (.inl (C, fs, us))) (kc : C = "java/lang/Object" ∨ (Cond.castable C "java/lang/Object").before a0 Z = true) (nb : b ≠ n0 + k) :
    Met1 l Z (⟨"java/util/ArrayList", "add", "(Ljava/lang/Object;[Ljava/lang/Object;I)V"⟩ : MethodName) jdk_38_method_24_code 4 none ({ frames := 3, cells := 1, slots := 10, locals := 41 } : Room) #[(.ref (n0 + k)), (.ref b), (.ref de), (.int (0 : Int32))] h0 n0 Ls (fun v L => v = none ∧ L = Ls.set k (o0 mc (.ref (n0 + Ls.length)) (.int 1)) ++ [aO ((List.replicate 10 .null).set 0 (.ref b))]) [] := by
  refine Met1.of (ls := #[vR (n0 + k), vR b, vR de, vI (0 : Int32)]) (plainFor_of_name pn2) (fun m => by first | (simp [entryFrame, mkF, argsToLocals, Value.category]; done) | rfl) ?_
  intro p e s m below meth c T w
  refine s_iloadN (pc' := 1) w d8_0 rfl rfl ?_
  refine s_aloadN (pc' := 2) w d8_1 rfl rfl rfl ?_
  refine s_arraylengthA (pc' := 3) (0 : Int32) w AD d8_2 (by rw [hdcl]; rfl) rfl ?_
  refine s_icmpN (pc' := 6) w d8_3 (Jvm.Free.XT.ii_ne_f rfl) rfl ?_
  refine s_aloadN (pc' := 7) w d8_6 rfl rfl rfl ?_
  refine s_private (pc' := 10) (rest := []) 0 [] w (c_grow hw l h0 n0 k mc de dcl Ls hk SD AD hdcl) (Lk.new hk) (t74 hw) (t75 hw) (t63 hw) rfl (t76 hw) (t2 hw) (t78 hw) (by decide) pd3 d8_7 (by decide) rfl rfl rfl rfl (Nat.le_of_eq rfl) rfl ?_
  intro T v L' hQ w
  obtain ⟨rfl, hL⟩ := hQ
  replace hL := hL.symm
  subst hL
  dsimp only [oS, oN, cA, nA]
  have hlen : (Ls.set k (o0 mc (.ref (n0 + Ls.length)) (.int 0))).length = Ls.length := List.length_set ..
  have pA : (Ls.set k (o0 mc (.ref (n0 + Ls.length)) (.int 0)) ++ [aO (List.replicate 10 .null)])[Ls.length]? = some (aO (List.replicate 10 .null)) := lk_lastN hlen
  refine s_astoreN (pc' := 11) (ls' := #[vR (n0 + k), vR b, vR (n0 + Ls.length), vI (0 : Int32)]) w d8_10 rfl rfl rfl ?_
  refine s_aloadN (pc' := 12) w d8_11 rfl rfl rfl ?_
  refine s_iloadN (pc' := 13) w d8_12 rfl rfl ?_
  refine s_aloadN (pc' := 14) w d8_13 rfl rfl rfl ?_
  refine s_aastore (pc' := 15) (k := Ls.length) w pA (qb.set hk nb).app kc d8_14 (by decide) (leB rfl) rfl ?_
  intro T w
  refine s_aloadN (pc' := 16) w d8_15 rfl rfl rfl ?_
  refine s_iloadN (pc' := 17) w d8_16 rfl rfl ?_
  refine s_iconst (pc' := 18) (1 : Int32) w d8_17 (by decide) rfl ?_
  refine s_iadd (pc' := 19) w d8_18 rfl ?_
  have pS : (List.set (Ls.set k (o0 mc (.ref (n0 + Ls.length)) (.int 0)) ++ [aO (List.replicate 10 .null)]) Ls.length (aO ((List.replicate 10 .null).set 0 (.ref b))))[k]? = some (o0 mc (.ref (n0 + Ls.length)) (.int 0)) := lk_ne (lk_app (lk_set hk)) (Nat.ne_of_gt (List.getElem?_eq_some_iff.mp hk).1)
  rw [show (0 : Int32) + 1 = 1 by decide]
  refine s_put (pc' := 22) (host := "") (k := k) w (Or.inl (t67 hw)) Via.refl (cls0 hw) pS (j := 2) rfl (leB rfl) (Or.inl (t68 hw)) (ty := .int) (by decide +kernel) rfl rfl d8_19 rfl ?_
  intro T w
  exact s_return w d8_22 (by decide) (by decide) ⟨rfl, by rw [set_lastN hlen, set_app (lk_set hk), List.set_set] <;> rfl⟩
set_option maxRecDepth 65536 in
set_option maxHeartbeats 40000000 in
theorem c_add3n {Z : State} {a0 : Array Value} (hw : Tw Z a0) (l : Launch) (h0 : Heap) (n0 : Nat) (k kE : Nat) (mc : Value) (sz : Int32) (vs : List Value) (nv : Int32) (b : Addr) (C : String) (fs : List (String × String × String)) (us : List Value) (Ls : List Ob) (hk : Ls[k]? = some (o0 mc (.ref (n0 + kE)) (.int sz))) (hE : Ls[kE]? = some (aO (vs))) (hnv : vs.length.toInt32 = nv) (hs1 : ¬ sz = nv) (hs0 : ¬ sz < 0) (hs2 : sz.toNatClampNeg < vs.length) (nE : kE ≠ k) (qb : Lk Z h0 n0 Ls b (.inl (C, fs, us))) (kc : C = "java/lang/Object" ∨ (Cond.castable C "java/lang/Object").before a0 Z = true) (nb : b ≠ n0 + k) :
    Met1 l Z (⟨"java/util/ArrayList", "add", "(Ljava/lang/Object;[Ljava/lang/Object;I)V"⟩ : MethodName) jdk_38_method_24_code 4 none ({ frames := 0, cells := 0, slots := 0, locals := 0 } : Room) #[(.ref (n0 + k)), (.ref b), (.ref (n0 + kE)), (.int sz)] h0 n0 Ls (fun v L => v = none ∧ L = (Ls.set kE (aO (vs.set sz.toNatClampNeg (.ref b)))).set k (o0 mc (.ref (n0 + kE)) (.int (sz + 1)))) [] := by
  refine Met1.of (ls := #[vR (n0 + k), vR b, vR (n0 + kE), vI sz]) (plainFor_of_name pn2) (fun m => by first | (simp [entryFrame, mkF, argsToLocals, Value.category]; done) | rfl) ?_
  intro p e s m below meth c T w
  refine s_iloadN (pc' := 1) w d8_0 rfl rfl ?_
  refine s_aloadN (pc' := 2) w d8_1 rfl rfl rfl ?_
  refine s_arraylength (pc' := 3) nv w (Lk.new hE) d8_2 hnv rfl ?_
  refine s_icmpY (pc' := 11) w d8_3 (Jvm.Free.XT.ii_ne_t hs1) (by decide) (by decide) ?_
  refine s_aloadN (pc' := 12) w d8_11 rfl rfl rfl ?_
  refine s_iloadN (pc' := 13) w d8_12 rfl rfl ?_
  refine s_aloadN (pc' := 14) w d8_13 rfl rfl rfl ?_
  refine s_aastore (pc' := 15) (k := kE) w hE qb kc d8_14 hs0 hs2 rfl ?_
  intro T w
  refine s_aloadN (pc' := 16) w d8_15 rfl rfl rfl ?_
  refine s_iloadN (pc' := 17) w d8_16 rfl rfl ?_
  refine s_iconst (pc' := 18) (1 : Int32) w d8_17 (by decide) rfl ?_
  refine s_iadd (pc' := 19) w d8_18 rfl ?_
  refine s_put (pc' := 22) (host := "") (k := k) w (Or.inl (t67 hw)) Via.refl (cls0 hw) (lk_ne hk nE) (j := 2) rfl (leB rfl) (Or.inl (t68 hw)) (ty := .int) (by decide +kernel) rfl rfl d8_19 rfl ?_
  intro T w
  exact s_return w d8_22 (by decide) (by decide) ⟨rfl, rfl⟩
set_option maxRecDepth 65536 in
set_option maxHeartbeats 40000000 in
theorem c_addg {Z : State} {a0 : Array Value} (hw : Tw Z a0) (l : Launch) (h0 : Heap) (n0 : Nat) (k : Nat) (mc : Int32) (de : Addr) (dcl : Cell) (b : Addr) (C : String) (fs : List (String × String × String)) (us : List Value) (Ls : List Ob) (hk : Ls[k]? = some (o0 (.int mc) (.ref de) (.int 0))) (SD : Sta Z h0 "java/util/ArrayList" "DEFAULTCAPACITY_EMPTY_ELEMENTDATA" "[Ljava/lang/Object;" (.ref de)) (AD : Arr Z h0 de dcl (.object "java/lang/Object")) (hdcl : dcl.slots.size = 0) (qb : Lk Z h0 n0 Ls b (.inl (C, fs, us))) (kc : C = "java/lang/Object" ∨ (Cond.castable C "java/lang/Object").before a0 Z = true) (nb : b ≠ n0 + k) :
    Met1 l Z (⟨"java/util/ArrayList", "add", "(Ljava/lang/Object;)Z"⟩ : MethodName) jdk_38_method_25_code 2 (some .boolean) ({ frames := 4, cells := 1, slots := 10, locals := 56 } : Room) #[(.ref (n0 + k)), (.ref b)] h0 n0 Ls (fun v L => v = some (.int 1) ∧ L = Ls.set k (o0 (.int (mc + 1)) (.ref (n0 + Ls.length)) (.int 1)) ++ [aO ((List.replicate 10 .null).set 0 (.ref b))]) [] := by
  refine Met1.of (ls := #[vR (n0 + k), vR b]) (plainFor_of_name pn2) (fun m => by first | (simp [entryFrame, mkF, argsToLocals, Value.category]; done) | rfl) ?_
  intro p e s m below meth c T w
  refine s_aloadN (pc' := 1) w d7_0 rfl rfl rfl ?_
  refine s_dup (pc' := 2) w d7_1 rfl rfl ?_
  refine s_getL (pc' := 5) (host := "") w (Or.inl (t65 hw)) (Via.of (t66 hw)) (Lk.new hk) (j := 0) rfl rfl d7_2 rfl ?_
  intro T w
  refine s_iconst (pc' := 6) (1 : Int32) w d7_5 (by decide) rfl ?_
  refine s_iadd (pc' := 7) w d7_6 rfl ?_
  refine s_put (pc' := 10) (host := "") (k := k) w (Or.inl (t65 hw)) (Via.of (t66 hw)) (cls0 hw) hk (j := 0) rfl (leB rfl) (Or.inl (t22 hw)) (ty := .int) (by decide +kernel) rfl rfl d7_7 rfl ?_
  intro T w
  replace w : St p l e _ s m _ below meth c Z _ _ _ _ h0 n0 T (Ls.set k (o0 (.int (mc + 1)) (.ref de) (.int 0))) 0 0 := w
  refine s_aloadN (pc' := 11) w d7_10 rfl rfl rfl ?_
  refine s_aloadN (pc' := 12) w d7_11 rfl rfl rfl ?_
  refine s_aloadN (pc' := 13) w d7_12 rfl rfl rfl ?_
  refine s_getL (pc' := 16) (host := "") w (Or.inl (t24 hw)) Via.refl (Lk.new (lk_set hk)) (j := 1) rfl rfl d7_13 rfl ?_
  intro T w
  refine s_aloadN (pc' := 17) w d7_16 rfl rfl rfl ?_
  refine s_getL (pc' := 20) (host := "") w (Or.inl (t67 hw)) Via.refl (Lk.new (lk_set hk)) (j := 2) rfl rfl d7_17 rfl ?_
  intro T w
  refine s_private (pc' := 23) (rest := []) 0 [(.ref b), (.ref de), (.int (0 : Int32))] w (c_add3g hw l h0 n0 k (.int (mc + 1)) de dcl b C fs us (Ls.set k (o0 (.int (mc + 1)) (.ref de) (.int 0))) (lk_set hk) SD AD hdcl (qb.set hk nb) kc nb) (Lk.new (lk_set hk)) (t69 hw) (t70 hw) (t63 hw) rfl (t71 hw) (t2 hw) (t73 hw) (by decide) pd4 d7_20 (by decide) rfl rfl rfl rfl (Nat.le_of_eq rfl) rfl ?_
  intro T v L' hQ w
  obtain ⟨rfl, hL⟩ := hQ
  replace hL := hL.symm
  subst hL
  dsimp only [oS, oN, cA, nA]
  refine s_iconst (pc' := 24) (1 : Int32) w d7_23 (by decide) rfl ?_
  exact s_zreturn rfl w d7_24 (by decide) (by decide) ⟨rfl, by rw [List.set_set, List.length_set]⟩
set_option maxRecDepth 65536 in
set_option maxHeartbeats 40000000 in
theorem c_addn {Z : State} {a0 : Array Value} (hw : Tw Z a0) (l : Launch) (h0 : Heap) (n0 : Nat) (k kE : Nat) (mc sz : Int32) (vs : List Value) (nv : Int32) (b : Addr) (C : String) (fs : List (String × String × String)) (us : List Value) (Ls : List Ob) (hk : Ls[k]? = some (o0 (.int mc) (.ref (n0 + kE)) (.int sz))) (hE : Ls[kE]? = some (aO (vs))) (hnv : vs.length.toInt32 = nv) (hs1 : ¬ sz = nv) (hs0 : ¬ sz < 0) (hs2 : sz.toNatClampNeg < vs.length) (nE : kE ≠ k) (qb : Lk Z h0 n0 Ls b (.inl (C, fs, us))) (kc : C = "java/lang/Object" ∨ (Cond.castable C "java/lang/Object").before a0 Z = true) (nb : b ≠ n0 + k) :
    Met1 l Z (⟨"java/util/ArrayList", "add", "(Ljava/lang/Object;)Z"⟩ : MethodName) jdk_38_method_25_code 2 (some .boolean) ({ frames := 1, cells := 0, slots := 0, locals := 15 } : Room) #[(.ref (n0 + k)), (.ref b)] h0 n0 Ls (fun v L => v = some (.int 1) ∧ L = (Ls.set kE (aO (vs.set sz.toNatClampNeg (.ref b)))).set k (o0 (.int (mc + 1)) (.ref (n0 + kE)) (.int (sz + 1)))) [] := by
  refine Met1.of (ls := #[vR (n0 + k), vR b]) (plainFor_of_name pn2) (fun m => by first | (simp [entryFrame, mkF, argsToLocals, Value.category]; done) | rfl) ?_
  intro p e s m below meth c T w
  refine s_aloadN (pc' := 1) w d7_0 rfl rfl rfl ?_
  refine s_dup (pc' := 2) w d7_1 rfl rfl ?_
  refine s_getL (pc' := 5) (host := "") w (Or.inl (t65 hw)) (Via.of (t66 hw)) (Lk.new hk) (j := 0) rfl rfl d7_2 rfl ?_
  intro T w
  refine s_iconst (pc' := 6) (1 : Int32) w d7_5 (by decide) rfl ?_
  refine s_iadd (pc' := 7) w d7_6 rfl ?_
  refine s_put (pc' := 10) (host := "") (k := k) w (Or.inl (t65 hw)) (Via.of (t66 hw)) (cls0 hw) hk (j := 0) rfl (leB rfl) (Or.inl (t22 hw)) (ty := .int) (by decide +kernel) rfl rfl d7_7 rfl ?_
  intro T w
  replace w : St p l e _ s m _ below meth c Z _ _ _ _ h0 n0 T (Ls.set k (o0 (.int (mc + 1)) (.ref (n0 + kE)) (.int sz))) 0 0 := w
  refine s_aloadN (pc' := 11) w d7_10 rfl rfl rfl ?_
  refine s_aloadN (pc' := 12) w d7_11 rfl rfl rfl ?_
  refine s_aloadN (pc' := 13) w d7_12 rfl rfl rfl ?_
  refine s_getL (pc' := 16) (host := "") w (Or.inl (t24 hw)) Via.refl (Lk.new (lk_set hk)) (j := 1) rfl rfl d7_13 rfl ?_
  intro T w
  refine s_aloadN (pc' := 17) w d7_16 rfl rfl rfl ?_
  refine s_getL (pc' := 20) (host := "") w (Or.inl (t67 hw)) Via.refl (Lk.new (lk_set hk)) (j := 2) rfl rfl d7_17 rfl ?_
  intro T w
  refine s_private (pc' := 23) (rest := []) 0 [(.ref b), (.ref (n0 + kE)), (.int sz)] w (c_add3n hw l h0 n0 k kE (.int (mc + 1)) sz vs nv b C fs us (Ls.set k (o0 (.int (mc + 1)) (.ref (n0 + kE)) (.int sz))) (lk_set hk) (lk_ne hE nE.symm) hnv hs1 hs0 hs2 nE (qb.set hk nb) kc nb) (Lk.new (lk_set hk)) (t69 hw) (t70 hw) (t63 hw) rfl (t71 hw) (t2 hw) (t73 hw) (by decide) pd4 d7_20 (by decide) rfl rfl rfl rfl (Nat.le_of_eq rfl) rfl ?_
  intro T v L' hQ w
  obtain ⟨rfl, hL⟩ := hQ
  replace hL := hL.symm
  subst hL
  dsimp only [oS, oN, cA, nA]
  refine s_iconst (pc' := 24) (1 : Int32) w d7_23 (by decide) rfl ?_
  exact s_zreturn rfl w d7_24 (by decide) (by decide) ⟨rfl, by rw [List.set_comm _ _ nE, List.set_set]; exact List.set_comm _ _ nE.symm⟩
set_option maxRecDepth 65536 in
set_option maxHeartbeats 40000000 in
theorem c_size {Z : State} {a0 : Array Value} (hw : Tw Z a0) (l : Launch) (h0 : Heap) (n0 : Nat) (a : Addr) (mc ed : Value) (sz : Int32) (Ls : List Ob) (q : Lk Z h0 n0 Ls a (o0 mc ed (.int sz))) :
    Met1 l Z (⟨"java/util/ArrayList", "size", "()I"⟩ : MethodName) jdk_38_method_8_code 1 (some .int) ({ frames := 0, cells := 0, slots := 0, locals := 0 } : Room) #[(.ref a)] h0 n0 Ls (fun v L => v = some (.int sz) ∧ L = Ls) [] := by
  refine Met1.of (ls := #[vR a]) (plainFor_of_name pn2) (fun m => by first | (simp [entryFrame, mkF, argsToLocals, Value.category]; done) | rfl) ?_
  intro p e s m below meth c T w
  refine s_aloadN (pc' := 1) w d16_0 rfl rfl rfl ?_
  refine s_getL (pc' := 4) (host := "") w (Or.inl (t67 hw)) Via.refl q (j := 2) rfl rfl d16_1 rfl ?_
  intro T w
  exact s_ireturn w d16_4 (by decide) (by decide) ⟨rfl, rfl⟩
set_option maxRecDepth 65536 in
set_option maxHeartbeats 40000000 in
theorem c_pre {Z : State} {a0 : Array Value} (hw : Tw Z a0) (l : Launch) (h0 : Heap) (n0 : Nat) (i n : Int32) (Ls : List Ob) (h1 : ¬ i < 0) (h2 : i < n) :
    Met1 l Z (⟨"jdk/internal/util/Preconditions", "checkIndex", "(IILjava/util/function/BiFunction;)I"⟩ : MethodName) jdk_41_method_11_code 3 (some .int) ({ frames := 0, cells := 0, slots := 0, locals := 0 } : Room) #[(.int i), (.int n), .null] h0 n0 Ls (fun v L => v = some (.int i) ∧ L = Ls) [] := by
  refine Met1.of (ls := #[vI i, vI n, .val .null]) (plainFor_of_name pn3) (fun m => by first | (simp [entryFrame, mkF, argsToLocals, Value.category]; done) | rfl) ?_
  intro p e s m below meth c T w
  refine s_iloadN (pc' := 1) w d19_0 rfl rfl ?_
  refine s_ifN (pc' := 4) w d19_1 (Jvm.Free.XT.i0_lt_f h1) rfl ?_
  refine s_iloadN (pc' := 5) w d19_4 rfl rfl ?_
  refine s_iloadN (pc' := 6) w d19_5 rfl rfl ?_
  refine s_icmpY (pc' := 16) w d19_6 (Jvm.Free.XT.ii_lt_t h2) (by decide) (by decide) ?_
  refine s_iloadN (pc' := 17) w d19_16 rfl rfl ?_
  exact s_ireturn w d19_17 (by decide) (by decide) ⟨rfl, rfl⟩
set_option maxRecDepth 65536 in
set_option maxHeartbeats 40000000 in
theorem c_chk {Z : State} {a0 : Array Value} (hw : Tw Z a0) (l : Launch) (h0 : Heap) (n0 : Nat) (i n : Int32) (Ls : List Ob) (h1 : ¬ i < 0) (h2 : i < n) :
    Met1 l Z (⟨"java/util/Objects", "checkIndex", "(II)I"⟩ : MethodName) jdk_31_method_17_code 2 (some .int) ({ frames := 1, cells := 0, slots := 0, locals := 14 } : Room) #[(.int i), (.int n)] h0 n0 Ls (fun v L => v = some (.int i) ∧ L = Ls) [] := by
  refine Met1.of (ls := #[vI i, vI n]) (plainFor_of_name pn4) (fun m => by first | (simp [entryFrame, mkF, argsToLocals, Value.category]; done) | rfl) ?_
  intro p e s m below meth c T w
  refine s_iloadN (pc' := 1) w d18_0 rfl rfl ?_
  refine s_iloadN (pc' := 2) w d18_1 rfl rfl ?_
  refine s_aconst_null (pc' := 3) w d18_2 rfl ?_
  refine s_static (pc' := 6) (rest := []) 0 [(.int i), (.int n), .null] w (c_pre hw l h0 n0 i n Ls h1 h2) (t147 hw) (t148 hw) (t149 hw) (t150 hw) (by decide) pd5 d18_3 (by decide) rfl rfl rfl rfl (Nat.le_of_eq rfl) rfl ?_
  intro T v L' hQ w
  obtain ⟨rfl, hL⟩ := hQ
  replace hL := hL.symm
  subst hL
  dsimp only [oS, oN, cA, nA]
  exact s_ireturn w d18_6 (by decide) (by decide) ⟨rfl, rfl⟩
set_option maxRecDepth 65536 in
set_option maxHeartbeats 40000000 in
theorem c_ed {Z : State} {a0 : Array Value} (hw : Tw Z a0) (l : Launch) (h0 : Heap) (n0 : Nat) (a ea : Addr) (mc : Value) (sz i : Int32) (vs : List Value) (b : Addr) (Ls : List Ob) (q : Lk Z h0 n0 Ls a (o0 mc (.ref ea) (.int sz))) (qE : Lk Z h0 n0 Ls ea (aO (vs))) (h1 : ¬ i < 0) (hv : vs[i.toNatClampNeg]? = some (.ref b)) :
    Met1 l Z (⟨"java/util/ArrayList", "elementData", "(I)Ljava/lang/Object;"⟩ : MethodName) jdk_38_method_18_code 2 (some (.object "java/lang/Object")) ({ frames := 0, cells := 0, slots := 0, locals := 0 } : Room) #[(.ref a), (.int i)] h0 n0 Ls (fun v L => v = some (.ref b) ∧ L = Ls) [] := by
  refine Met1.of (ls := #[vR a, vI i]) (plainFor_of_name pn2) (fun m => by first | (simp [entryFrame, mkF, argsToLocals, Value.category]; done) | rfl) ?_
  intro p e s m below meth c T w
  refine s_aloadN (pc' := 1) w d20_0 rfl rfl rfl ?_
  refine s_getL (pc' := 4) (host := "") w (Or.inl (t24 hw)) Via.refl q (j := 1) rfl rfl d20_1 rfl ?_
  intro T w
  refine s_iloadN (pc' := 5) w d20_4 rfl rfl ?_
  refine s_aaload (pc' := 6) (v := (.ref b)) w qE rfl d20_5 h1 hv rfl ?_
  exact s_areturn w d20_6 rfl rfl (by decide) (by decide) ⟨rfl, rfl⟩
set_option maxRecDepth 65536 in
set_option maxHeartbeats 40000000 in
theorem c_get {Z : State} {a0 : Array Value} (hw : Tw Z a0) (l : Launch) (h0 : Heap) (n0 : Nat) (a ea : Addr) (mc : Value) (sz i : Int32) (vs : List Value) (b : Addr) (Ls : List Ob) (q : Lk Z h0 n0 Ls a (o0 mc (.ref ea) (.int sz))) (qE : Lk Z h0 n0 Ls ea (aO (vs))) (h1 : ¬ i < 0) (hv : vs[i.toNatClampNeg]? = some (.ref b)) (h2 : i < sz) :
    Met1 l Z (⟨"java/util/ArrayList", "get", "(I)Ljava/lang/Object;"⟩ : MethodName) jdk_38_method_20_code 2 (some (.object "java/lang/Object")) ({ frames := 2, cells := 0, slots := 0, locals := 27 } : Room) #[(.ref a), (.int i)] h0 n0 Ls (fun v L => v = some (.ref b) ∧ L = Ls) [] := by
  refine Met1.of (ls := #[vR a, vI i]) (plainFor_of_name pn2) (fun m => by first | (simp [entryFrame, mkF, argsToLocals, Value.category]; done) | rfl) ?_
  intro p e s m below meth c T w
  refine s_iloadN (pc' := 1) w d17_0 rfl rfl ?_
  refine s_aloadN (pc' := 2) w d17_1 rfl rfl rfl ?_
  refine s_getL (pc' := 5) (host := "") w (Or.inl (t67 hw)) Via.refl q (j := 2) rfl rfl d17_2 rfl ?_
  intro T w
  refine s_static (pc' := 8) (rest := []) 0 [(.int i), (.int sz)] w (c_chk hw l h0 n0 i sz Ls h1 h2) (t143 hw) (t144 hw) (t145 hw) (t146 hw) (by decide) pd1 d17_5 (by decide) rfl rfl rfl rfl (Nat.le_of_eq rfl) rfl ?_
  intro T v L' hQ w
  obtain ⟨rfl, hL⟩ := hQ
  replace hL := hL.symm
  subst hL
  dsimp only [oS, oN, cA, nA]
  refine s_pop (pc' := 9) w d17_8 rfl rfl ?_
  refine s_aloadN (pc' := 10) w d17_9 rfl rfl rfl ?_
  refine s_iloadN (pc' := 11) w d17_10 rfl rfl ?_
  refine s_virtual (pc' := 14) (rest := []) 0 [(.int i)] w (c_ed hw l h0 n0 a ea mc sz i vs b Ls q qE h1 hv) q (t151 hw) (t152 hw) (w.notFace (t154 hw)) (t154 hw) (t153 hw) (t2 hw) (t155 hw) (by decide) pd6 d17_11 (by decide) rfl rfl rfl rfl (Nat.le_of_eq rfl) rfl ?_
  intro T v L' hQ w
  obtain ⟨rfl, hL⟩ := hQ
  replace hL := hL.symm
  subst hL
  dsimp only [oS, oN, cA, nA]
  exact s_areturn w d17_14 rfl rfl (by decide) (by decide) ⟨rfl, rfl⟩
set_option maxRecDepth 65536 in
set_option maxHeartbeats 40000000 in
theorem c_tie {Z : State} {a0 : Array Value} (hw : Tw Z a0) (l : Launch) (h0 : Heap) (n0 : Nat) (x1 : Int64) (Ls : List Ob) (hx1 : x1.toInt32.toInt64 = x1) :
    Met1 l Z (⟨"java/lang/Math", "toIntExact", "(J)I"⟩ : MethodName) jdk_29_method_43_code 2 (some .int) ({ frames := 0, cells := 0, slots := 0, locals := 0 } : Room) #[(.long x1)] h0 n0 Ls (fun v L => v = some (.int x1.toInt32) ∧ L = Ls) [] := by
  refine Met1.of (ls := #[vJ x1, sc]) (Jvm.Free.JP.mathPlain rfl (by decide +kernel)) (fun m => by first | (simp [entryFrame, mkF, argsToLocals, Value.category]; done) | rfl) ?_
  intro p e s m below meth c T w
  refine s_lloadN (pc' := 1) w d14_0 rfl rfl ?_
  refine s_l2i (pc' := 2) w d14_1 rfl ?_
  refine s_i2l (pc' := 3) w d14_2 rfl ?_
  refine s_lloadN (pc' := 4) w d14_3 rfl rfl ?_
  refine s_lcmp (pc' := 5) w d14_4 rfl ?_
  refine s_ifY (pc' := 18) w d14_5 (Jvm.Free.XT.ll_eq_t hx1) (by decide) (by decide) ?_
  refine s_lloadN (pc' := 19) w d14_18 rfl rfl ?_
  refine s_l2i (pc' := 20) w d14_19 rfl ?_
  exact s_ireturn w d14_20 (by decide) (by decide) ⟨rfl, rfl⟩
set_option maxRecDepth 65536 in
set_option maxHeartbeats 40000000 in
theorem c_fillI {Z : State} {a0 : Array Value} (hw : Tw Z a0) (l : Launch) (h0 : Heap) (n0 : Nat) (k : Nat) (x1 : Int32) (vs : List Value) (nv : Int32) (Ls : List Ob) (hk : Ls[k]? = some (aI (vs))) (hnv : vs.length.toInt32 = nv) (hl : vs.length < 2 ^ 31) :
    Met1 l Z (⟨"java/util/Arrays", "fill", "([II)V"⟩ : MethodName) jdk_65_method_103_code 4 none ({ frames := 0, cells := 0, slots := 0, locals := 0 } : Room) #[(.ref (n0 + k)), (.int x1)] h0 n0 Ls (fun v L => v = none ∧ L = Ls.set k (aI (List.replicate vs.length (.int x1)))) [] := by
  refine Met1.of (ls := #[vR (n0 + k), vI x1, un, un]) (plainFor_of_name pn5) (fun m => by first | (simp [entryFrame, mkF, argsToLocals, Value.category]; done) | rfl) ?_
  intro p e s m below meth c T w
  refine s_iconst (pc' := 1) (0 : Int32) w d15_0 (by decide) rfl ?_
  refine s_istoreN (pc' := 2) (ls' := #[vR (n0 + k), vI x1, vI (0 : Int32), un]) w d15_1 rfl rfl ?_
  refine s_aloadN (pc' := 3) w d15_2 rfl rfl rfl ?_
  refine s_arraylength (pc' := 4) nv w (Lk.new hk) d15_3 hnv rfl ?_
  refine s_istoreN (pc' := 5) (ls' := #[vR (n0 + k), vI x1, vI (0 : Int32), vI nv]) w d15_4 rfl rfl ?_
  have hn0 : nv.toInt = vs.length := by rw [← hnv]; exact len_toInt hl
  suffices K : ∀ (r i : Nat) (T : State), i + r = vs.length → St p l e _ s m _ below meth c Z _ _ _ _ h0 n0 T (Ls.set k (aI (List.replicate i (.int x1) ++ vs.drop i))) 0 0 → Go p e below (Fin1 Z h0 n0 s _ _) T (mkF m 5 #[vR (n0 + k), vI x1, vI i.toInt32, vI nv] []) by
    exact K vs.length 0 T (Nat.zero_add _) (by rw [show Ls.set k (aI (List.replicate 0 (.int x1) ++ vs.drop 0)) = Ls from by simp [set_self hk]]; exact w)
  intro r
  induction r with
  | zero =>
    intro i T hi w
    have hi' : i = vs.length := by omega
    have ei : i.toInt32.toInt = i := len_toInt (by omega)
    have hc : ¬ i.toInt32 < nv := by rw [Int32.lt_iff_toInt_lt, ei, hn0]; omega
    refine s_iloadN (pc' := 6) w d15_5 rfl rfl ?_
    refine s_iloadN (pc' := 7) w d15_6 rfl rfl ?_
    refine s_icmpY (pc' := 20) w d15_7 (Jvm.Free.XT.ii_ge_t hc) (by decide) (by decide) ?_
    exact s_return w d15_20 (by decide) (by decide) ⟨rfl, by subst hi'; simp⟩
  | succ r ih =>
    intro i T hi w
    have ei : i.toInt32.toInt = i := len_toInt (by omega)
    have hc : i.toInt32 < nv := by rw [Int32.lt_iff_toInt_lt, ei, hn0]; omega
    have g0 : ¬ i.toInt32 < 0 := by rw [Int32.lt_iff_toInt_lt, ei]; show ¬ (i : Int) < 0; omega
    have gi : i.toInt32.toNatClampNeg = i := by simp only [Int32.toNatClampNeg, ei]; omega
    have es : i.toInt32 + (1 : Int32) = (i + 1).toInt32 := succ32 i
    refine s_iloadN (pc' := 6) w d15_5 rfl rfl ?_
    refine s_iloadN (pc' := 7) w d15_6 rfl rfl ?_
    refine s_icmpN (pc' := 10) w d15_7 (Jvm.Free.XT.ii_ge_f hc) rfl ?_
    refine s_aloadN (pc' := 11) w d15_10 rfl rfl rfl ?_
    refine s_iloadN (pc' := 12) w d15_11 rfl rfl ?_
    refine s_iloadN (pc' := 13) w d15_12 rfl rfl ?_
    refine s_iastore (pc' := 14) (k := k) w (lk_set hk) d15_13 g0 (by rw [gi]; simp; omega) rfl ?_
    intro T w
    rw [gi, List.set_set] at w
    refine s_iinc (pc' := 17) (ls' := #[vR (n0 + k), vI x1, vI (i.toInt32 + (1 : Int32)), vI nv]) (1 : Int32) w d15_14 (by decide) rfl rfl rfl ?_
    refine s_goto (pc' := 5) w d15_17 (by decide) (by decide) ?_
    rw [es]
    exact ih (i + 1) T (by omega) (by rw [fill_step (by omega)] at w; exact w)
set_option maxRecDepth 65536 in
set_option maxHeartbeats 40000000 in
theorem c_nlz32 {Z : State} {a0 : Array Value} (hw : Tw Z a0) (l : Launch) (h0 : Heap) (n0 : Nat) (x1 : Int32) (Ls : List Ob) (h : ¬ 0 < x1 ∧ ¬ x1 = 0) :
    Met1 l Z (⟨"java/lang/Integer", "numberOfLeadingZeros", "(I)I"⟩ : MethodName) jdk_33_method_47_code 2 (some .int) ({ frames := 0, cells := 0, slots := 0, locals := 0 } : Room) #[(.int x1)] h0 n0 Ls (fun v L => v = some (.int 0) ∧ L = Ls) [] := by
  refine Met1.of (ls := #[vI x1, un]) (plainFor_of_name pn6) (fun m => by first | (simp [entryFrame, mkF, argsToLocals, Value.category]; done) | rfl) ?_
  intro p e s m below meth c T w
  refine s_iloadN (pc' := 1) w d24_0 rfl rfl ?_
  refine s_ifN (pc' := 4) w d24_1 (Jvm.Free.XT.i0_gt_f h.1) rfl ?_
  refine s_iloadN (pc' := 5) w d24_4 rfl rfl ?_
  refine s_ifY (pc' := 13) w d24_5 (Jvm.Free.XT.i0_ne_t h.2) (by decide) (by decide) ?_
  refine s_iconst (pc' := 14) (0 : Int32) w d24_13 (by decide) rfl ?_
  exact s_ireturn w d24_14 (by decide) (by decide) ⟨rfl, rfl⟩
set_option maxRecDepth 65536 in
set_option maxHeartbeats 40000000 in
theorem c_nlz64 {Z : State} {a0 : Array Value} (hw : Tw Z a0) (l : Launch) (h0 : Heap) (n0 : Nat) (x1 : Int64) (Ls : List Ob) (hx1 : x1.toBitVec.toNat < 2 ^ 32) (h : ¬ 0 < x1.toInt32 ∧ ¬ x1.toInt32 = 0) :
    Met1 l Z (⟨"java/lang/Long", "numberOfLeadingZeros", "(J)I"⟩ : MethodName) jdk_35_method_48_code 3 (some .int) ({ frames := 1, cells := 0, slots := 0, locals := 14 } : Room) #[(.long x1)] h0 n0 Ls (fun v L => ∃ b : Nat, v = some (.int (Int32.ofNat (64 - b))) ∧ b ≤ 32 ∧ x1.toBitVec.toNat < 2 ^ b ∧ L = Ls) [] := by
  refine Met1.of (ls := #[vJ x1, sc, un]) (plainFor_of_name pn7) (fun m => by first | (simp [entryFrame, mkF, argsToLocals, Value.category]; done) | rfl) ?_
  intro p e s m below meth c T w
  refine s_lloadN (pc' := 1) w d23_0 rfl rfl ?_
  refine s_bipush (pc' := 3) (32 : Int32) w d23_1 (by decide) rfl ?_
  refine s_lushr (pc' := 4) w d23_3 rfl ?_
  refine s_l2i (pc' := 5) w d23_4 rfl ?_
  rw [l_hi0 hx1]
  refine s_istoreN (pc' := 6) (ls' := #[vJ x1, sc, vI (0 : Int32)]) w d23_5 rfl rfl ?_
  refine s_iloadN (pc' := 7) w d23_6 rfl rfl ?_
  refine s_ifN (pc' := 10) w d23_7 (Jvm.Free.XT.i0_ne_f rfl) rfl ?_
  refine s_bipush (pc' := 12) (32 : Int32) w d23_10 (by decide) rfl ?_
  refine s_lloadN (pc' := 13) w d23_12 rfl rfl ?_
  refine s_l2i (pc' := 14) w d23_13 rfl ?_
  refine s_static (pc' := 17) (rest := [(.int (32 : Int32))]) 1 [(.int x1.toInt32)] w (c_nlz32 hw l h0 n0 x1.toInt32 Ls h) (t172 hw) (t173 hw) (t174 hw) (t175 hw) (by decide) pd7 d23_14 (by decide) rfl rfl rfl rfl (Nat.le_of_eq rfl) rfl ?_
  intro T v L' hQ w
  obtain ⟨rfl, hL⟩ := hQ
  replace hL := hL.symm
  subst hL
  dsimp only [oS, oN, cA, nA]
  refine s_iadd (pc' := 18) w d23_17 rfl ?_
  rw [show (32 : Int32) + 0 = Int32.ofNat (64 - 32) by decide]
  refine s_goto (pc' := 25) w d23_18 (by decide) (by decide) ?_
  exact s_ireturn w d23_25 (by decide) (by decide) ⟨32, rfl, by decide, hx1, rfl⟩
set_option maxRecDepth 65536 in
set_option maxHeartbeats 40000000 in
theorem c_rec {Z : State} {a0 : Array Value} (hw : Tw Z a0) (l : Launch) (h0 : Heap) (n0 : Nat) (a : Addr) (Ls : List Ob) :
    Met1 l Z (⟨"java/lang/Record", "<init>", "()V"⟩ : MethodName) jdk_30_method_1_code 1 none ({ frames := 1, cells := 0, slots := 0, locals := 12 } : Room) #[(.ref a)] h0 n0 Ls (fun v L => v = none ∧ L = Ls) [] := by
  refine Met1.of (ls := #[vR a]) (plainFor_of_name pn8) (fun m => by first | (simp [entryFrame, mkF, argsToLocals, Value.category]; done) | rfl) ?_
  intro p e s m below meth c T w
  refine s_aloadN (pc' := 1) w d6_0 rfl rfl rfl ?_
  refine s_initO (pc' := 4) 0 w (t47 hw) (t19 hw) (t20 hw) d6_1 rfl (by decide) (Nat.le_of_eq rfl) (by decide) rfl ?_
  intro T w
  exact s_return w d6_4 (by decide) (by decide) ⟨rfl, rfl⟩
set_option maxRecDepth 65536 in
set_option maxHeartbeats 40000000 in
theorem c_var {Z : State} {a0 : Array Value} (hw : Tw Z a0) (l : Launch) (h0 : Heap) (n0 : Nat) (k : Nat) (na ty : Value) (lo hi ini : Int32) (Ls : List Ob) (hk : Ls[k]? = some (o1 .null .null (.int 0) (.int 0) (.int 0) .null)) (hna : na.isRef = true) (hty : ty.isRef = true) :
    Met1 l Z (⟨"com/example/ryazan/ryazan/model/Model$Variable", "<init>", "(Ljava/lang/String;Lcom/example/ryazan/ryazan/lang/Type;IIILcom/example/ryazan/ryazan/lang/SourcePosition;)V"⟩ : MethodName) prog_172_method_1_code 7 none ({ frames := 2, cells := 0, slots := 0, locals := 24 } : Room) #[(.ref (n0 + k)), na, ty, (.int lo), (.int hi), (.int ini), .null] h0 n0 Ls (fun v L => v = none ∧ L = Ls.set k (o1 na ty (.int lo) (.int hi) (.int ini) .null)) [] := by
  refine Met1.of (ls := #[vR (n0 + k), .val na, .val ty, vI lo, vI hi, vI ini, .val .null]) (plainFor_of_name pn9) (fun m => by rcases ref_cases hna with rfl | ⟨_, rfl⟩ <;> rcases ref_cases hty with rfl | ⟨_, rfl⟩ <;> rfl) ?_
  intro p e s m below meth c T w
  refine s_aloadN (pc' := 1) w d5_0 rfl rfl rfl ?_
  refine s_special (pc' := 4) (rest := []) 0 [] w (c_rec hw l h0 n0 (n0 + k) Ls) rfl (t42 hw) (t43 hw) (t45 hw) (t46 hw) (by decide) pd0 d5_1 (by decide) rfl rfl rfl rfl (Nat.le_of_eq rfl) rfl ?_
  intro T v L' hQ w
  obtain ⟨rfl, hL⟩ := hQ
  replace hL := hL.symm
  subst hL
  dsimp only [oS, oN, cA, nA]
  refine s_aloadN (pc' := 5) w d5_4 rfl rfl rfl ?_
  refine s_aloadN (pc' := 6) w d5_5 rfl hna rfl ?_
  refine s_put (pc' := 9) (host := "") (k := k) w (Or.inl (t48 hw)) Via.refl (cls1 hw) hk (j := 0) rfl (leB rfl) (Or.inr ⟨(t49 hw), rfl, rfl⟩) (ty := (.object "java/lang/String")) (by decide +kernel) (nar_ref hna) (fit_ref hna) d5_6 rfl ?_
  intro T w
  replace w : St p l e _ s m _ below meth c Z _ _ _ _ h0 n0 T (Ls.set k (o1 na .null (.int 0) (.int 0) (.int 0) .null)) 0 0 := w
  refine s_aloadN (pc' := 10) w d5_9 rfl rfl rfl ?_
  refine s_aloadN (pc' := 11) w d5_10 rfl hty rfl ?_
  refine s_put (pc' := 14) (host := "") (k := k) w (Or.inl (t50 hw)) Via.refl (cls1 hw) (lk_set hk) (j := 1) rfl (leB rfl) (Or.inr ⟨(t51 hw), rfl, rfl⟩) (ty := (.object "com/example/ryazan/ryazan/lang/Type")) (by decide +kernel) (nar_ref hty) (fit_ref hty) d5_11 rfl ?_
  intro T w
  rw [List.set_set] at w
  replace w : St p l e _ s m _ below meth c Z _ _ _ _ h0 n0 T (Ls.set k (o1 na ty (.int 0) (.int 0) (.int 0) .null)) 0 0 := w
  refine s_aloadN (pc' := 15) w d5_14 rfl rfl rfl ?_
  refine s_iloadN (pc' := 16) w d5_15 rfl rfl ?_
  refine s_put (pc' := 19) (host := "") (k := k) w (Or.inl (t52 hw)) Via.refl (cls1 hw) (lk_set hk) (j := 2) rfl (leB rfl) (Or.inr ⟨(t53 hw), rfl, rfl⟩) (ty := .int) (by decide +kernel) rfl rfl d5_16 rfl ?_
  intro T w
  rw [List.set_set] at w
  replace w : St p l e _ s m _ below meth c Z _ _ _ _ h0 n0 T (Ls.set k (o1 na ty (.int lo) (.int 0) (.int 0) .null)) 0 0 := w
  refine s_aloadN (pc' := 20) w d5_19 rfl rfl rfl ?_
  refine s_iload (pc' := 22) w d5_20 rfl rfl ?_
  refine s_put (pc' := 25) (host := "") (k := k) w (Or.inl (t54 hw)) Via.refl (cls1 hw) (lk_set hk) (j := 3) rfl (leB rfl) (Or.inr ⟨(t55 hw), rfl, rfl⟩) (ty := .int) (by decide +kernel) rfl rfl d5_22 rfl ?_
  intro T w
  rw [List.set_set] at w
  replace w : St p l e _ s m _ below meth c Z _ _ _ _ h0 n0 T (Ls.set k (o1 na ty (.int lo) (.int hi) (.int 0) .null)) 0 0 := w
  refine s_aloadN (pc' := 26) w d5_25 rfl rfl rfl ?_
  refine s_iload (pc' := 28) w d5_26 rfl rfl ?_
  refine s_put (pc' := 31) (host := "") (k := k) w (Or.inl (t56 hw)) Via.refl (cls1 hw) (lk_set hk) (j := 4) rfl (leB rfl) (Or.inr ⟨(t57 hw), rfl, rfl⟩) (ty := .int) (by decide +kernel) rfl rfl d5_28 rfl ?_
  intro T w
  rw [List.set_set] at w
  replace w : St p l e _ s m _ below meth c Z _ _ _ _ h0 n0 T (Ls.set k (o1 na ty (.int lo) (.int hi) (.int ini) .null)) 0 0 := w
  refine s_aloadN (pc' := 32) w d5_31 rfl rfl rfl ?_
  refine s_aload (pc' := 34) w d5_32 rfl rfl rfl ?_
  refine s_put (pc' := 37) (host := "") (k := k) w (Or.inl (t58 hw)) Via.refl (cls1 hw) (lk_set hk) (j := 5) rfl (leB rfl) (Or.inr ⟨(t59 hw), rfl, rfl⟩) (ty := (.object "com/example/ryazan/ryazan/lang/SourcePosition")) (by decide +kernel) rfl rfl d5_34 rfl ?_
  intro T w
  rw [List.set_set] at w
  replace w : St p l e _ s m _ below meth c Z _ _ _ _ h0 n0 T (Ls.set k (o1 na ty (.int lo) (.int hi) (.int ini) .null)) 0 0 := w
  exact s_return w d5_37 (by decide) (by decide) ⟨rfl, rfl⟩
set_option maxRecDepth 65536 in
set_option maxHeartbeats 40000000 in
theorem c_high {Z : State} {a0 : Array Value} (hw : Tw Z a0) (l : Launch) (h0 : Heap) (n0 : Nat) (a : Addr) (v1 v2 v3 v5 v6 : Value) (z : Int32) (Ls : List Ob) (q : Lk Z h0 n0 Ls a (o1 v1 v2 v3 (.int z) v5 v6)) :
    Met1 l Z (⟨"com/example/ryazan/ryazan/model/Model$Variable", "high", "()I"⟩ : MethodName) prog_172_method_10_code 1 (some .int) ({ frames := 0, cells := 0, slots := 0, locals := 0 } : Room) #[(.ref a)] h0 n0 Ls (fun v L => v = some (.int z) ∧ L = Ls) [] := by
  refine Met1.of (ls := #[vR a]) (plainFor_of_name pn9) (fun m => by first | (simp [entryFrame, mkF, argsToLocals, Value.category]; done) | rfl) ?_
  intro p e s m below meth c T w
  refine s_aloadN (pc' := 1) w d21_0 rfl rfl rfl ?_
  refine s_getL (pc' := 4) (host := "") w (Or.inl (t54 hw)) Via.refl q (j := 3) rfl rfl d21_1 rfl ?_
  intro T w
  exact s_ireturn w d21_4 (by decide) (by decide) ⟨rfl, rfl⟩
set_option maxRecDepth 65536 in
set_option maxHeartbeats 40000000 in
theorem c_low {Z : State} {a0 : Array Value} (hw : Tw Z a0) (l : Launch) (h0 : Heap) (n0 : Nat) (a : Addr) (v1 v2 v4 v5 v6 : Value) (z : Int32) (Ls : List Ob) (q : Lk Z h0 n0 Ls a (o1 v1 v2 (.int z) v4 v5 v6)) :
    Met1 l Z (⟨"com/example/ryazan/ryazan/model/Model$Variable", "low", "()I"⟩ : MethodName) prog_172_method_9_code 1 (some .int) ({ frames := 0, cells := 0, slots := 0, locals := 0 } : Room) #[(.ref a)] h0 n0 Ls (fun v L => v = some (.int z) ∧ L = Ls) [] := by
  refine Met1.of (ls := #[vR a]) (plainFor_of_name pn9) (fun m => by first | (simp [entryFrame, mkF, argsToLocals, Value.category]; done) | rfl) ?_
  intro p e s m below meth c T w
  refine s_aloadN (pc' := 1) w d22_0 rfl rfl rfl ?_
  refine s_getL (pc' := 4) (host := "") w (Or.inl (t52 hw)) Via.refl q (j := 2) rfl rfl d22_1 rfl ?_
  intro T w
  exact s_ireturn w d22_4 (by decide) (by decide) ⟨rfl, rfl⟩
set_option maxRecDepth 65536 in
set_option maxHeartbeats 40000000 in
theorem c_empty {Z : State} {a0 : Array Value} (hw : Tw Z a0) (l : Launch) (h0 : Heap) (n0 : Nat) (Ls : List Ob) :
    Met1 l Z (⟨"com/example/ryazan/ryazan/statespace/StateStore", "emptyTable", "(I)[I"⟩ : MethodName) prog_197_method_24_code 2 (some (.array .int)) ({ frames := 1, cells := 1, slots := 1024, locals := 15 } : Room) #[(.int (10 : Int32))] h0 n0 Ls (fun v L => v = some (.ref (n0 + Ls.length)) ∧ L = Ls ++ [aI (List.replicate 1024 (.int (-1)))]) [] := by
  refine Met1.of (ls := #[vI (10 : Int32), un]) (plainFor_of_name pn10) (fun m => by first | (simp [entryFrame, mkF, argsToLocals, Value.category]; done) | rfl) ?_
  intro p e s m below meth c T w
  refine s_lconst (pc' := 1) (1 : Int64) w d13_0 (by decide) rfl ?_
  refine s_iloadN (pc' := 2) w d13_1 rfl rfl ?_
  refine s_lshl (pc' := 3) w d13_2 rfl ?_
  refine s_static (pc' := 6) (rest := []) 0 [(.long ((1 : Int64) <<< ((10 : Int32).toInt64 &&& 63)))] w (c_tie hw l h0 n0 ((1 : Int64) <<< ((10 : Int32).toInt64 &&& 63)) Ls (by decide)) (t106 hw) (t107 hw) (t86 hw) (t108 hw) (by decide) pd8 d13_3 (by decide) rfl rfl rfl rfl (Nat.le_of_eq rfl) rfl ?_
  intro T v L' hQ w
  obtain ⟨rfl, hL⟩ := hQ
  replace hL := hL.symm
  subst hL
  dsimp only [oS, oN, cA, nA]
  rw [show ((1 : Int64) <<< ((10 : Int32).toInt64 &&& 63)).toInt32 = 1024 by decide]
  refine s_newarray (pc' := 8) (ty := .int) w (t109 hw) rfl (by intro C h; cases h) d13_6 (by decide) 1024 (by decide) (by decide) (by decide) (by decide) (Ls.length) rfl rfl ?_
  intro T w
  replace w : St p l e _ s m _ below meth c Z _ _ _ _ h0 n0 T (Ls ++ [aI (List.replicate 1024 (.int 0))]) 1 1024 := w
  refine s_astoreN (pc' := 9) (ls' := #[vI (10 : Int32), vR (n0 + Ls.length)]) w d13_8 rfl rfl rfl ?_
  refine s_aloadN (pc' := 10) w d13_9 rfl rfl rfl ?_
  refine s_iconst (pc' := 11) (-1 : Int32) w d13_10 (by decide) rfl ?_
  refine s_static (pc' := 14) (rest := []) 0 [(.ref (n0 + Ls.length)), (.int (-1 : Int32))] w (c_fillI hw l h0 n0 Ls.length (-1) (List.replicate 1024 (.int 0)) 1024 (Ls ++ [aI (List.replicate 1024 (.int 0))]) lk_last (by rw [List.length_replicate]; decide) (by rw [List.length_replicate]; decide)) (t110 hw) (t111 hw) (t112 hw) (t113 hw) (by decide) pd9 d13_11 (by decide) rfl rfl rfl rfl (Nat.le_of_eq rfl) rfl ?_
  intro T v L' hQ w
  obtain ⟨rfl, hL⟩ := hQ
  replace hL := hL.symm
  subst hL
  dsimp only [oS, oN, cA, nA]
  refine s_aloadN (pc' := 15) w d13_14 rfl rfl rfl ?_
  exact s_areturn w d13_15 rfl rfl (by decide) (by decide) ⟨rfl, by rw [set_last, List.length_replicate]⟩
set_option maxRecDepth 65536 in
set_option maxHeartbeats 40000000 in
theorem c_storeF1 {Z : State} {a0 : Array Value} (hw : Tw Z a0) (l : Launch) (h0 : Heap) (n0 : Nat) (Pre : List Ob) (N kA kE : Nat) (mc : Value) (es : List Value) (v0 : Nat) (l0 u0 : Int32) (na0 ty0 ini0 pos0 : Value) (hN : Pre.length = N) (pA : Pre[kA]? = some (o0 mc (.ref (n0 + kE)) (.int 1))) (pE : Pre[kE]? = some (aO (es))) (he0 : es[0]? = some (.ref (n0 + v0))) (pV0 : Pre[v0]? = some (o1 na0 ty0 (.int l0) (.int u0) ini0 pos0)) (hs0 : (u0.toInt64 - l0.toInt64).toBitVec.toNat < 2 ^ 32) (hf0 : 2 ^ 31 ≤ (u0.toInt64 - l0.toInt64).toBitVec.toNat) (hg0 : ¬ 0 < (u0.toInt64 - l0.toInt64).toInt32 ∧ ¬ (u0.toInt64 - l0.toInt64).toInt32 = 0) :
    Met1 l Z (⟨"com/example/ryazan/ryazan/statespace/StateStore", "<init>", "(Ljava/util/List;)V"⟩ : MethodName) prog_197_method_1_code 10 none ({ frames := 3, cells := 8, slots := 1029, locals := 40 } : Room) #[(.ref (n0 + (N + 0))), (.ref (n0 + kA))] h0 n0 (Pre ++ [o2 .null (.int 0) .null .null .null .null .null .null (.int 0) .null]) (fun v L => v = none ∧ L = Pre ++ [o2 (.ref (n0 + (N + 1))) (.int 10) (.ref (n0 + (N + 2))) (.ref (n0 + (N + 3))) (.ref (n0 + (N + 4))) (.ref (n0 + (N + 5))) (.ref (n0 + (N + 6))) (.ref (n0 + (N + 7))) (.int 1) (.ref (n0 + (N + 8))), aJ ([]), aI (List.replicate 1024 (.int (-1))), aI ([]), aI ([.int l0]), aI ([.int 0]), aI ([.int (Int32.ofNat (0))]), aJ ([.long (mkM (32))]), aJ ([.long 0])]) [] := by
  refine Met1.of (ls := #[vR (n0 + (N + 0)), vR (n0 + kA), un, un, un, un, un, un, un, un]) (plainFor_of_name pn10) (fun m => by first | (simp [entryFrame, mkF, argsToLocals, Value.category]; done) | rfl) ?_
  intro p e s m below meth c T w
  refine s_aloadN (pc' := 1) w d12_0 rfl rfl rfl ?_
  refine s_initO (pc' := 4) 0 w (t97 hw) (t19 hw) (t20 hw) d12_1 rfl (by decide) (Nat.le_of_eq rfl) (by decide) rfl ?_
  intro T w
  refine s_aloadN (pc' := 5) w d12_4 rfl rfl rfl ?_
  refine s_iconst (pc' := 6) (0 : Int32) w d12_5 (by decide) rfl ?_
  refine s_newarray (pc' := 8) (ty := .long) w (t98 hw) rfl (by intro C h; cases h) d12_6 (by decide) 0 (by decide) (by decide) (by decide) (by decide) (N + 1) (by rw [List.length_append, hN]; rfl) rfl ?_
  intro T w
  rw [List.append_assoc] at w
  replace w : St p l e _ s m _ below meth c Z _ _ _ _ h0 n0 T (Pre ++ [o2 .null (.int 0) .null .null .null .null .null .null (.int 0) .null, aJ ([])]) 1 0 := w
  refine s_put (pc' := 11) (host := "") (k := (N + 0)) w (Or.inl (t99 hw)) Via.refl (cls2 hw) (lk_suf hN rfl) (j := 0) rfl (leB rfl) (Or.inl (t100 hw)) (ty := (.array .long)) (by decide +kernel) rfl rfl d12_8 rfl ?_
  intro T w
  rw [set_suf hN] at w
  replace w : St p l e _ s m _ below meth c Z _ _ _ _ h0 n0 T (Pre ++ [o2 (.ref (n0 + (N + 1))) (.int 0) .null .null .null .null .null .null (.int 0) .null, aJ ([])]) 1 0 := w
  refine s_aloadN (pc' := 12) w d12_11 rfl rfl rfl ?_
  refine s_bipush (pc' := 14) (10 : Int32) w d12_12 (by decide) rfl ?_
  refine s_put (pc' := 17) (host := "") (k := (N + 0)) w (Or.inl (t101 hw)) Via.refl (cls2 hw) (lk_suf hN rfl) (j := 1) rfl (leB rfl) (Or.inl (t102 hw)) (ty := .int) (by decide +kernel) rfl rfl d12_14 rfl ?_
  intro T w
  rw [set_suf hN] at w
  replace w : St p l e _ s m _ below meth c Z _ _ _ _ h0 n0 T (Pre ++ [o2 (.ref (n0 + (N + 1))) (.int 10) .null .null .null .null .null .null (.int 0) .null, aJ ([])]) 1 0 := w
  refine s_aloadN (pc' := 18) w d12_17 rfl rfl rfl ?_
  refine s_aloadN (pc' := 19) w d12_18 rfl rfl rfl ?_
  refine s_getL (pc' := 22) (host := "") w (Or.inl (t101 hw)) Via.refl (Lk.new (lk_suf hN rfl)) (j := 1) rfl rfl d12_19 rfl ?_
  intro T w
  refine s_static (pc' := 25) (rest := [(.ref (n0 + (N + 0)))]) 1 [(.int (10 : Int32))] w (c_empty hw l h0 n0 (Pre ++ [o2 (.ref (n0 + (N + 1))) (.int 10) .null .null .null .null .null .null (.int 0) .null, aJ ([])])) (t103 hw) (t104 hw) (t93 hw) (t105 hw) (by decide) pd10 d12_22 (by decide) rfl rfl rfl rfl (Nat.le_of_eq rfl) rfl ?_
  intro T v L' hQ w
  obtain ⟨rfl, hM⟩ := hQ
  rw [hM, List.append_assoc] at w
  clear hM
  rw [show (Pre ++ [o2 (.ref (n0 + (N + 1))) (.int 10) .null .null .null .null .null .null (.int 0) .null, aJ ([])]).length = N + 2 by rw [List.length_append, hN]; rfl]
  dsimp only [oS, oN, cA, nA]
  replace w : St p l e _ s m _ below meth c Z _ _ _ _ h0 n0 T (Pre ++ [o2 (.ref (n0 + (N + 1))) (.int 10) .null .null .null .null .null .null (.int 0) .null, aJ ([]), aI (List.replicate 1024 (.int (-1)))]) 2 1024 := w
  refine s_put (pc' := 28) (host := "") (k := (N + 0)) w (Or.inl (t114 hw)) Via.refl (cls2 hw) (lk_suf hN rfl) (j := 2) rfl (leB rfl) (Or.inl (t115 hw)) (ty := (.array .int)) (by decide +kernel) rfl rfl d12_25 rfl ?_
  intro T w
  rw [set_suf hN] at w
  replace w : St p l e _ s m _ below meth c Z _ _ _ _ h0 n0 T (Pre ++ [o2 (.ref (n0 + (N + 1))) (.int 10) (.ref (n0 + (N + 2))) .null .null .null .null .null (.int 0) .null, aJ ([]), aI (List.replicate 1024 (.int (-1)))]) 2 1024 := w
  refine s_aloadN (pc' := 29) w d12_28 rfl rfl rfl ?_
  refine s_iconst (pc' := 30) (0 : Int32) w d12_29 (by decide) rfl ?_
  refine s_newarray (pc' := 32) (ty := .int) w (t109 hw) rfl (by intro C h; cases h) d12_30 (by decide) 0 (by decide) (by decide) (by decide) (by decide) (N + 3) (by rw [List.length_append, hN]; rfl) rfl ?_
  intro T w
  rw [List.append_assoc] at w
  replace w : St p l e _ s m _ below meth c Z _ _ _ _ h0 n0 T (Pre ++ [o2 (.ref (n0 + (N + 1))) (.int 10) (.ref (n0 + (N + 2))) .null .null .null .null .null (.int 0) .null, aJ ([]), aI (List.replicate 1024 (.int (-1))), aI ([])]) 3 1024 := w
  refine s_put (pc' := 35) (host := "") (k := (N + 0)) w (Or.inl (t116 hw)) Via.refl (cls2 hw) (lk_suf hN rfl) (j := 3) rfl (leB rfl) (Or.inl (t117 hw)) (ty := (.array .int)) (by decide +kernel) rfl rfl d12_32 rfl ?_
  intro T w
  rw [set_suf hN] at w
  replace w : St p l e _ s m _ below meth c Z _ _ _ _ h0 n0 T (Pre ++ [o2 (.ref (n0 + (N + 1))) (.int 10) (.ref (n0 + (N + 2))) (.ref (n0 + (N + 3))) .null .null .null .null (.int 0) .null, aJ ([]), aI (List.replicate 1024 (.int (-1))), aI ([])]) 3 1024 := w
  refine s_aloadN (pc' := 36) w d12_35 rfl rfl rfl ?_
  refine s_face (pc' := 41) (rest := []) 0 [] w (c_size hw l h0 n0 (n0 + kA) mc (.ref (n0 + kE)) 1 (Pre ++ [o2 (.ref (n0 + (N + 1))) (.int 10) (.ref (n0 + (N + 2))) (.ref (n0 + (N + 3))) .null .null .null .null (.int 0) .null, aJ ([]), aI (List.replicate 1024 (.int (-1))), aI ([])]) (Lk.new (lk_app pA))) (Lk.new (lk_app pA)) (t118 hw) (t119 hw) (t120 hw) (t121 hw) (t122 hw) (t123 hw) (t124 hw) (t125 hw) (t2 hw) (t126 hw) (by decide) pd11 d12_36 (by decide) rfl rfl rfl rfl (Nat.le_of_eq rfl) rfl ?_
  intro T v L' hQ w
  obtain ⟨rfl, hL⟩ := hQ
  replace hL := hL.symm
  subst hL
  dsimp only [oS, oN, cA, nA]
  refine s_istoreN (pc' := 42) (ls' := #[vR (n0 + (N + 0)), vR (n0 + kA), vI (1 : Int32), un, un, un, un, un, un, un]) w d12_41 rfl rfl ?_
  refine s_aloadN (pc' := 43) w d12_42 rfl rfl rfl ?_
  refine s_iloadN (pc' := 44) w d12_43 rfl rfl ?_
  refine s_newarray (pc' := 46) (ty := .int) w (t109 hw) rfl (by intro C h; cases h) d12_44 (by decide) 1 (by decide) (by decide) (by decide) (by decide) (N + 4) (by rw [List.length_append, hN]; rfl) rfl ?_
  intro T w
  rw [List.append_assoc] at w
  replace w : St p l e _ s m _ below meth c Z _ _ _ _ h0 n0 T (Pre ++ [o2 (.ref (n0 + (N + 1))) (.int 10) (.ref (n0 + (N + 2))) (.ref (n0 + (N + 3))) .null .null .null .null (.int 0) .null, aJ ([]), aI (List.replicate 1024 (.int (-1))), aI ([]), aI ([(.int 0)])]) 4 1025 := w
  refine s_put (pc' := 49) (host := "") (k := (N + 0)) w (Or.inl (t127 hw)) Via.refl (cls2 hw) (lk_suf hN rfl) (j := 4) rfl (leB rfl) (Or.inr ⟨(t128 hw), rfl, rfl⟩) (ty := (.array .int)) (by decide +kernel) rfl rfl d12_46 rfl ?_
  intro T w
  rw [set_suf hN] at w
  replace w : St p l e _ s m _ below meth c Z _ _ _ _ h0 n0 T (Pre ++ [o2 (.ref (n0 + (N + 1))) (.int 10) (.ref (n0 + (N + 2))) (.ref (n0 + (N + 3))) (.ref (n0 + (N + 4))) .null .null .null (.int 0) .null, aJ ([]), aI (List.replicate 1024 (.int (-1))), aI ([]), aI ([(.int 0)])]) 4 1025 := w
  refine s_aloadN (pc' := 50) w d12_49 rfl rfl rfl ?_
  refine s_iloadN (pc' := 51) w d12_50 rfl rfl ?_
  refine s_newarray (pc' := 53) (ty := .int) w (t109 hw) rfl (by intro C h; cases h) d12_51 (by decide) 1 (by decide) (by decide) (by decide) (by decide) (N + 5) (by rw [List.length_append, hN]; rfl) rfl ?_
  intro T w
  rw [List.append_assoc] at w
  replace w : St p l e _ s m _ below meth c Z _ _ _ _ h0 n0 T (Pre ++ [o2 (.ref (n0 + (N + 1))) (.int 10) (.ref (n0 + (N + 2))) (.ref (n0 + (N + 3))) (.ref (n0 + (N + 4))) .null .null .null (.int 0) .null, aJ ([]), aI (List.replicate 1024 (.int (-1))), aI ([]), aI ([(.int 0)]), aI ([(.int 0)])]) 5 1026 := w
  refine s_put (pc' := 56) (host := "") (k := (N + 0)) w (Or.inl (t129 hw)) Via.refl (cls2 hw) (lk_suf hN rfl) (j := 5) rfl (leB rfl) (Or.inr ⟨(t130 hw), rfl, rfl⟩) (ty := (.array .int)) (by decide +kernel) rfl rfl d12_53 rfl ?_
  intro T w
  rw [set_suf hN] at w
  replace w : St p l e _ s m _ below meth c Z _ _ _ _ h0 n0 T (Pre ++ [o2 (.ref (n0 + (N + 1))) (.int 10) (.ref (n0 + (N + 2))) (.ref (n0 + (N + 3))) (.ref (n0 + (N + 4))) (.ref (n0 + (N + 5))) .null .null (.int 0) .null, aJ ([]), aI (List.replicate 1024 (.int (-1))), aI ([]), aI ([(.int 0)]), aI ([(.int 0)])]) 5 1026 := w
  refine s_aloadN (pc' := 57) w d12_56 rfl rfl rfl ?_
  refine s_iloadN (pc' := 58) w d12_57 rfl rfl ?_
  refine s_newarray (pc' := 60) (ty := .int) w (t109 hw) rfl (by intro C h; cases h) d12_58 (by decide) 1 (by decide) (by decide) (by decide) (by decide) (N + 6) (by rw [List.length_append, hN]; rfl) rfl ?_
  intro T w
  rw [List.append_assoc] at w
  replace w : St p l e _ s m _ below meth c Z _ _ _ _ h0 n0 T (Pre ++ [o2 (.ref (n0 + (N + 1))) (.int 10) (.ref (n0 + (N + 2))) (.ref (n0 + (N + 3))) (.ref (n0 + (N + 4))) (.ref (n0 + (N + 5))) .null .null (.int 0) .null, aJ ([]), aI (List.replicate 1024 (.int (-1))), aI ([]), aI ([(.int 0)]), aI ([(.int 0)]), aI ([(.int 0)])]) 6 1027 := w
  refine s_put (pc' := 63) (host := "") (k := (N + 0)) w (Or.inl (t131 hw)) Via.refl (cls2 hw) (lk_suf hN rfl) (j := 6) rfl (leB rfl) (Or.inr ⟨(t132 hw), rfl, rfl⟩) (ty := (.array .int)) (by decide +kernel) rfl rfl d12_60 rfl ?_
  intro T w
  rw [set_suf hN] at w
  replace w : St p l e _ s m _ below meth c Z _ _ _ _ h0 n0 T (Pre ++ [o2 (.ref (n0 + (N + 1))) (.int 10) (.ref (n0 + (N + 2))) (.ref (n0 + (N + 3))) (.ref (n0 + (N + 4))) (.ref (n0 + (N + 5))) (.ref (n0 + (N + 6))) .null (.int 0) .null, aJ ([]), aI (List.replicate 1024 (.int (-1))), aI ([]), aI ([(.int 0)]), aI ([(.int 0)]), aI ([(.int 0)])]) 6 1027 := w
  refine s_aloadN (pc' := 64) w d12_63 rfl rfl rfl ?_
  refine s_iloadN (pc' := 65) w d12_64 rfl rfl ?_
  refine s_newarray (pc' := 67) (ty := .long) w (t98 hw) rfl (by intro C h; cases h) d12_65 (by decide) 1 (by decide) (by decide) (by decide) (by decide) (N + 7) (by rw [List.length_append, hN]; rfl) rfl ?_
  intro T w
  rw [List.append_assoc] at w
  replace w : St p l e _ s m _ below meth c Z _ _ _ _ h0 n0 T (Pre ++ [o2 (.ref (n0 + (N + 1))) (.int 10) (.ref (n0 + (N + 2))) (.ref (n0 + (N + 3))) (.ref (n0 + (N + 4))) (.ref (n0 + (N + 5))) (.ref (n0 + (N + 6))) .null (.int 0) .null, aJ ([]), aI (List.replicate 1024 (.int (-1))), aI ([]), aI ([(.int 0)]), aI ([(.int 0)]), aI ([(.int 0)]), aJ ([(.long 0)])]) 7 1028 := w
  refine s_put (pc' := 70) (host := "") (k := (N + 0)) w (Or.inl (t133 hw)) Via.refl (cls2 hw) (lk_suf hN rfl) (j := 7) rfl (leB rfl) (Or.inr ⟨(t134 hw), rfl, rfl⟩) (ty := (.array .long)) (by decide +kernel) rfl rfl d12_67 rfl ?_
  intro T w
  rw [set_suf hN] at w
  replace w : St p l e _ s m _ below meth c Z _ _ _ _ h0 n0 T (Pre ++ [o2 (.ref (n0 + (N + 1))) (.int 10) (.ref (n0 + (N + 2))) (.ref (n0 + (N + 3))) (.ref (n0 + (N + 4))) (.ref (n0 + (N + 5))) (.ref (n0 + (N + 6))) (.ref (n0 + (N + 7))) (.int 0) .null, aJ ([]), aI (List.replicate 1024 (.int (-1))), aI ([]), aI ([(.int 0)]), aI ([(.int 0)]), aI ([(.int 0)]), aJ ([(.long 0)])]) 7 1028 := w
  refine s_iconst (pc' := 71) (0 : Int32) w d12_70 (by decide) rfl ?_
  refine s_istoreN (pc' := 72) (ls' := #[vR (n0 + (N + 0)), vR (n0 + kA), vI (1 : Int32), vI (0 : Int32), un, un, un, un, un, un]) w d12_71 rfl rfl ?_
  refine s_iconst (pc' := 73) (0 : Int32) w d12_72 (by decide) rfl ?_
  refine s_istore (pc' := 75) (ls' := #[vR (n0 + (N + 0)), vR (n0 + kA), vI (1 : Int32), vI (0 : Int32), vI (0 : Int32), un, un, un, un, un]) w d12_73 rfl rfl ?_
  refine s_iconst (pc' := 76) (0 : Int32) w d12_75 (by decide) rfl ?_
  refine s_istore (pc' := 78) (ls' := #[vR (n0 + (N + 0)), vR (n0 + kA), vI (1 : Int32), vI (0 : Int32), vI (0 : Int32), vI (0 : Int32), un, un, un, un]) w d12_76 rfl rfl ?_
  change Go p e below _ T (mkF m 78 #[vR (n0 + (N + 0)), vR (n0 + kA), vI (1 : Int32), vI (0 : Int32), vI (Int32.ofNat 0), vI (0 : Int32), un, un, un, un] [])
  have hfull0 : 2 ^ 31 ≤ (u0.toInt64 - l0.toInt64).toBitVec.toNat := hf0
  refine s_iload (pc' := 80) w d12_78 rfl rfl ?_
  refine s_iloadN (pc' := 81) w d12_80 rfl rfl ?_
  refine s_icmpN (pc' := 84) w d12_81 (Jvm.Free.XT.ii_ge_f (by decide)) rfl ?_
  refine s_aloadN (pc' := 85) w d12_84 rfl rfl rfl ?_
  refine s_iload (pc' := 87) w d12_85 rfl rfl ?_
  refine s_face (pc' := 92) (rest := []) 0 [(.int (0 : Int32))] w (c_get hw l h0 n0 (n0 + kA) (n0 + kE) mc 1 0 es (n0 + v0) (Pre ++ [o2 (.ref (n0 + (N + 1))) (.int 10) (.ref (n0 + (N + 2))) (.ref (n0 + (N + 3))) (.ref (n0 + (N + 4))) (.ref (n0 + (N + 5))) (.ref (n0 + (N + 6))) (.ref (n0 + (N + 7))) (.int 0) .null, aJ ([]), aI (List.replicate 1024 (.int (-1))), aI ([]), aI ([(.int 0)]), aI ([(.int 0)]), aI ([(.int 0)]), aJ ([(.long 0)])]) (Lk.new (lk_app pA)) (Lk.new (lk_app pE)) (by decide) he0 (by decide)) (Lk.new (lk_app pA)) (t135 hw) (t136 hw) (t137 hw) (t138 hw) (t139 hw) (t140 hw) (t141 hw) (t125 hw) (t2 hw) (t142 hw) (by decide) pd6 d12_87 (by decide) rfl rfl rfl rfl (Nat.le_of_eq rfl) rfl ?_
  intro T v L' hQ w
  obtain ⟨rfl, hL⟩ := hQ
  replace hL := hL.symm
  subst hL
  dsimp only [oS, oN, cA, nA]
  refine s_checkcast (pc' := 95) w (t156 hw) (Lk.new (lk_app pV0)) (Or.inl rfl) d12_92 rfl ?_
  intro T w
  refine s_astore (pc' := 97) (ls' := #[vR (n0 + (N + 0)), vR (n0 + kA), vI (1 : Int32), vI (0 : Int32), vI (Int32.ofNat 0), vI (0 : Int32), vR (n0 + v0), un, un, un]) w d12_95 rfl rfl rfl ?_
  refine s_aload (pc' := 99) w d12_97 rfl rfl rfl ?_
  refine s_virtual (pc' := 102) (rest := []) 0 [] w (c_high hw l h0 n0 (n0 + v0) na0 ty0 (.int l0) ini0 pos0 u0 (Pre ++ [o2 (.ref (n0 + (N + 1))) (.int 10) (.ref (n0 + (N + 2))) (.ref (n0 + (N + 3))) (.ref (n0 + (N + 4))) (.ref (n0 + (N + 5))) (.ref (n0 + (N + 6))) (.ref (n0 + (N + 7))) (.int 0) .null, aJ ([]), aI (List.replicate 1024 (.int (-1))), aI ([]), aI ([(.int 0)]), aI ([(.int 0)]), aI ([(.int 0)]), aJ ([(.long 0)])]) (Lk.new (lk_app pV0))) (Lk.new (lk_app pV0)) (t158 hw) (t159 hw) (w.notFace (t161 hw)) (t161 hw) (t160 hw) (t28 hw) (t162 hw) (by decide) pd11 d12_99 (by decide) rfl rfl rfl rfl (Nat.le_of_eq rfl) rfl ?_
  intro T v L' hQ w
  obtain ⟨rfl, hL⟩ := hQ
  replace hL := hL.symm
  subst hL
  dsimp only [oS, oN, cA, nA]
  refine s_i2l (pc' := 103) w d12_102 rfl ?_
  refine s_aload (pc' := 105) w d12_103 rfl rfl rfl ?_
  refine s_virtual (pc' := 108) (rest := [(.long u0.toInt64)]) 2 [] w (c_low hw l h0 n0 (n0 + v0) na0 ty0 (.int u0) ini0 pos0 l0 (Pre ++ [o2 (.ref (n0 + (N + 1))) (.int 10) (.ref (n0 + (N + 2))) (.ref (n0 + (N + 3))) (.ref (n0 + (N + 4))) (.ref (n0 + (N + 5))) (.ref (n0 + (N + 6))) (.ref (n0 + (N + 7))) (.int 0) .null, aJ ([]), aI (List.replicate 1024 (.int (-1))), aI ([]), aI ([(.int 0)]), aI ([(.int 0)]), aI ([(.int 0)]), aJ ([(.long 0)])]) (Lk.new (lk_app pV0))) (Lk.new (lk_app pV0)) (t163 hw) (t164 hw) (w.notFace (t166 hw)) (t166 hw) (t165 hw) (t28 hw) (t167 hw) (by decide) pd11 d12_105 (by decide) rfl rfl rfl rfl (Nat.le_of_eq rfl) rfl ?_
  intro T v L' hQ w
  obtain ⟨rfl, hL⟩ := hQ
  replace hL := hL.symm
  subst hL
  dsimp only [oS, oN, cA, nA]
  refine s_i2l (pc' := 109) w d12_108 rfl ?_
  refine s_lsub (pc' := 110) w d12_109 rfl ?_
  refine s_lstore (pc' := 112) (ls' := #[vR (n0 + (N + 0)), vR (n0 + kA), vI (1 : Int32), vI (0 : Int32), vI (Int32.ofNat 0), vI (0 : Int32), vR (n0 + v0), vJ (u0.toInt64 - l0.toInt64), sc, un]) w d12_110 rfl rfl ?_
  refine s_bipush (pc' := 114) (64 : Int32) w d12_112 (by decide) rfl ?_
  refine s_lload (pc' := 116) w d12_114 rfl rfl ?_
  refine s_static (pc' := 119) (rest := [(.int (64 : Int32))]) 1 [(.long (u0.toInt64 - l0.toInt64))] w (c_nlz64 hw l h0 n0 (u0.toInt64 - l0.toInt64) (Pre ++ [o2 (.ref (n0 + (N + 1))) (.int 10) (.ref (n0 + (N + 2))) (.ref (n0 + (N + 3))) (.ref (n0 + (N + 4))) (.ref (n0 + (N + 5))) (.ref (n0 + (N + 6))) (.ref (n0 + (N + 7))) (.int 0) .null, aJ ([]), aI (List.replicate 1024 (.int (-1))), aI ([]), aI ([(.int 0)]), aI ([(.int 0)]), aI ([(.int 0)]), aJ ([(.long 0)])]) hs0 hg0) (t168 hw) (t169 hw) (t170 hw) (t171 hw) (by decide) pd8 d12_116 (by decide) rfl rfl rfl rfl (Nat.le_of_eq rfl) rfl ?_
  intro T v L' hQ w
  obtain ⟨b0, rfl, hb0, hx0, hL⟩ := hQ
  replace hL := hL.symm
  subst hL
  dsimp only [oS, oN, cA, nA]
  obtain rfl : b0 = 32 := full32 hfull0 hx0 hb0
  refine s_isub (pc' := 120) w d12_119 rfl ?_
  rw [b_sub (by decide : 32 ≤ 32)]
  refine s_istore (pc' := 122) (ls' := #[vR (n0 + (N + 0)), vR (n0 + kA), vI (1 : Int32), vI (0 : Int32), vI (Int32.ofNat 0), vI (0 : Int32), vR (n0 + v0), vJ (u0.toInt64 - l0.toInt64), sc, vI (Int32.ofNat (32))]) w d12_120 rfl rfl ?_
  refine s_iload (pc' := 124) w d12_122 rfl rfl ?_
  refine s_iload (pc' := 126) w d12_124 rfl rfl ?_
  refine s_iadd (pc' := 127) w d12_126 rfl ?_
  rw [b_add]
  refine s_bipush (pc' := 129) (64 : Int32) w d12_127 (by decide) rfl ?_
  refine s_icmpY (pc' := 138) w d12_129 (Jvm.Free.XT.ii_le_t (by decide)) (by decide) (by decide) ?_
  refine s_aloadN (pc' := 139) w d12_138 rfl rfl rfl ?_
  refine s_getL (pc' := 142) (host := "") w (Or.inl (t127 hw)) Via.refl (Lk.new (lk_suf hN rfl)) (j := 4) rfl rfl d12_139 rfl ?_
  intro T w
  refine s_iload (pc' := 144) w d12_142 rfl rfl ?_
  refine s_aload (pc' := 146) w d12_144 rfl rfl rfl ?_
  refine s_virtual (pc' := 149) (rest := [(.int (0 : Int32)), (.ref (n0 + (N + 4)))]) 2 [] w (c_low hw l h0 n0 (n0 + v0) na0 ty0 (.int u0) ini0 pos0 l0 (Pre ++ [o2 (.ref (n0 + (N + 1))) (.int 10) (.ref (n0 + (N + 2))) (.ref (n0 + (N + 3))) (.ref (n0 + (N + 4))) (.ref (n0 + (N + 5))) (.ref (n0 + (N + 6))) (.ref (n0 + (N + 7))) (.int 0) .null, aJ ([]), aI (List.replicate 1024 (.int (-1))), aI ([]), aI ([(.int 0)]), aI ([(.int 0)]), aI ([(.int 0)]), aJ ([(.long 0)])]) (Lk.new (lk_app pV0))) (Lk.new (lk_app pV0)) (t163 hw) (t164 hw) (w.notFace (t166 hw)) (t166 hw) (t165 hw) (t28 hw) (t167 hw) (by decide) pd11 d12_146 (by decide) rfl rfl rfl rfl (Nat.le_of_eq rfl) rfl ?_
  intro T v L' hQ w
  obtain ⟨rfl, hL⟩ := hQ
  replace hL := hL.symm
  subst hL
  dsimp only [oS, oN, cA, nA]
  refine s_iastore (pc' := 150) (k := (N + 4)) w (lk_suf hN rfl) d12_149 (by decide) (leB rfl) rfl ?_
  intro T w
  rw [set_suf hN] at w
  replace w : St p l e _ s m _ below meth c Z _ _ _ _ h0 n0 T (Pre ++ [o2 (.ref (n0 + (N + 1))) (.int 10) (.ref (n0 + (N + 2))) (.ref (n0 + (N + 3))) (.ref (n0 + (N + 4))) (.ref (n0 + (N + 5))) (.ref (n0 + (N + 6))) (.ref (n0 + (N + 7))) (.int 0) .null, aJ ([]), aI (List.replicate 1024 (.int (-1))), aI ([]), aI ([.int l0]), aI ([(.int 0)]), aI ([(.int 0)]), aJ ([(.long 0)])]) 7 1028 := w
  refine s_aloadN (pc' := 151) w d12_150 rfl rfl rfl ?_
  refine s_getL (pc' := 154) (host := "") w (Or.inl (t129 hw)) Via.refl (Lk.new (lk_suf hN rfl)) (j := 5) rfl rfl d12_151 rfl ?_
  intro T w
  refine s_iload (pc' := 156) w d12_154 rfl rfl ?_
  refine s_iloadN (pc' := 157) w d12_156 rfl rfl ?_
  refine s_iastore (pc' := 158) (k := (N + 5)) w (lk_suf hN rfl) d12_157 (by decide) (leB rfl) rfl ?_
  intro T w
  rw [set_suf hN] at w
  replace w : St p l e _ s m _ below meth c Z _ _ _ _ h0 n0 T (Pre ++ [o2 (.ref (n0 + (N + 1))) (.int 10) (.ref (n0 + (N + 2))) (.ref (n0 + (N + 3))) (.ref (n0 + (N + 4))) (.ref (n0 + (N + 5))) (.ref (n0 + (N + 6))) (.ref (n0 + (N + 7))) (.int 0) .null, aJ ([]), aI (List.replicate 1024 (.int (-1))), aI ([]), aI ([.int l0]), aI ([.int 0]), aI ([(.int 0)]), aJ ([(.long 0)])]) 7 1028 := w
  refine s_aloadN (pc' := 159) w d12_158 rfl rfl rfl ?_
  refine s_getL (pc' := 162) (host := "") w (Or.inl (t131 hw)) Via.refl (Lk.new (lk_suf hN rfl)) (j := 6) rfl rfl d12_159 rfl ?_
  intro T w
  refine s_iload (pc' := 164) w d12_162 rfl rfl ?_
  refine s_iload (pc' := 166) w d12_164 rfl rfl ?_
  refine s_iastore (pc' := 167) (k := (N + 6)) w (lk_suf hN rfl) d12_166 (by decide) (leB rfl) rfl ?_
  intro T w
  rw [set_suf hN] at w
  replace w : St p l e _ s m _ below meth c Z _ _ _ _ h0 n0 T (Pre ++ [o2 (.ref (n0 + (N + 1))) (.int 10) (.ref (n0 + (N + 2))) (.ref (n0 + (N + 3))) (.ref (n0 + (N + 4))) (.ref (n0 + (N + 5))) (.ref (n0 + (N + 6))) (.ref (n0 + (N + 7))) (.int 0) .null, aJ ([]), aI (List.replicate 1024 (.int (-1))), aI ([]), aI ([.int l0]), aI ([.int 0]), aI ([.int (Int32.ofNat (0))]), aJ ([(.long 0)])]) 7 1028 := w
  refine s_aloadN (pc' := 168) w d12_167 rfl rfl rfl ?_
  refine s_getL (pc' := 171) (host := "") w (Or.inl (t133 hw)) Via.refl (Lk.new (lk_suf hN rfl)) (j := 7) rfl rfl d12_168 rfl ?_
  intro T w
  refine s_iload (pc' := 173) w d12_171 rfl rfl ?_
  refine s_lconst (pc' := 174) (1 : Int64) w d12_173 (by decide) rfl ?_
  refine s_iload (pc' := 176) w d12_174 rfl rfl ?_
  refine s_lshl (pc' := 177) w d12_176 rfl ?_
  refine s_lconst (pc' := 178) (1 : Int64) w d12_177 (by decide) rfl ?_
  refine s_lsub (pc' := 179) w d12_178 rfl ?_
  refine s_lastore (pc' := 180) (k := (N + 7)) w (lk_suf hN rfl) d12_179 (by decide) (leB rfl) rfl ?_
  intro T w
  rw [set_suf hN] at w
  replace w : St p l e _ s m _ below meth c Z _ _ _ _ h0 n0 T (Pre ++ [o2 (.ref (n0 + (N + 1))) (.int 10) (.ref (n0 + (N + 2))) (.ref (n0 + (N + 3))) (.ref (n0 + (N + 4))) (.ref (n0 + (N + 5))) (.ref (n0 + (N + 6))) (.ref (n0 + (N + 7))) (.int 0) .null, aJ ([]), aI (List.replicate 1024 (.int (-1))), aI ([]), aI ([.int l0]), aI ([.int 0]), aI ([.int (Int32.ofNat (0))]), aJ ([.long (mkM (32))])]) 7 1028 := w
  refine s_iload (pc' := 182) w d12_180 rfl rfl ?_
  refine s_iload (pc' := 184) w d12_182 rfl rfl ?_
  refine s_iadd (pc' := 185) w d12_184 rfl ?_
  rw [b_add]
  refine s_istore (pc' := 187) (ls' := #[vR (n0 + (N + 0)), vR (n0 + kA), vI (1 : Int32), vI (0 : Int32), vI (Int32.ofNat (0 + 32)), vI (0 : Int32), vR (n0 + v0), vJ (u0.toInt64 - l0.toInt64), sc, vI (Int32.ofNat (32))]) w d12_185 rfl rfl ?_
  refine s_iinc (pc' := 190) (ls' := #[vR (n0 + (N + 0)), vR (n0 + kA), vI (1 : Int32), vI (0 : Int32), vI (Int32.ofNat (0 + 32)), vI ((0 : Int32) + (1 : Int32)), vR (n0 + v0), vJ (u0.toInt64 - l0.toInt64), sc, vI (Int32.ofNat (32))]) (1 : Int32) w d12_187 (by decide) rfl rfl rfl ?_
  rw [show (0 : Int32) + 1 = 1 by decide]
  refine s_goto (pc' := 78) w d12_190 (by decide) (by decide) ?_
  change Go p e below _ T (mkF m 78 #[vR (n0 + (N + 0)), vR (n0 + kA), vI (1 : Int32), vI (0 : Int32), vI (Int32.ofNat 32), vI (1 : Int32), vR (n0 + v0), vJ (u0.toInt64 - l0.toInt64), sc, vI (Int32.ofNat (32))] [])
  refine s_iload (pc' := 80) w d12_78 rfl rfl ?_
  refine s_iloadN (pc' := 81) w d12_80 rfl rfl ?_
  refine s_icmpY (pc' := 193) w d12_81 (Jvm.Free.XT.ii_ge_t (by decide)) (by decide) (by decide) ?_
  refine s_aloadN (pc' := 194) w d12_193 rfl rfl rfl ?_
  refine s_iloadN (pc' := 195) w d12_194 rfl rfl ?_
  refine s_iconst (pc' := 196) (1 : Int32) w d12_195 (by decide) rfl ?_
  refine s_iadd (pc' := 197) w d12_196 rfl ?_
  rw [show (0 : Int32) + 1 = 1 by decide]
  refine s_put (pc' := 200) (host := "") (k := (N + 0)) w (Or.inl (t176 hw)) Via.refl (cls2 hw) (lk_suf hN rfl) (j := 8) rfl (leB rfl) (Or.inr ⟨(t177 hw), rfl, rfl⟩) (ty := .int) (by decide +kernel) rfl rfl d12_197 rfl ?_
  intro T w
  rw [set_suf hN] at w
  replace w : St p l e _ s m _ below meth c Z _ _ _ _ h0 n0 T (Pre ++ [o2 (.ref (n0 + (N + 1))) (.int 10) (.ref (n0 + (N + 2))) (.ref (n0 + (N + 3))) (.ref (n0 + (N + 4))) (.ref (n0 + (N + 5))) (.ref (n0 + (N + 6))) (.ref (n0 + (N + 7))) (.int 1) .null, aJ ([]), aI (List.replicate 1024 (.int (-1))), aI ([]), aI ([.int l0]), aI ([.int 0]), aI ([.int (Int32.ofNat (0))]), aJ ([.long (mkM (32))])]) 7 1028 := w
  refine s_aloadN (pc' := 201) w d12_200 rfl rfl rfl ?_
  refine s_aloadN (pc' := 202) w d12_201 rfl rfl rfl ?_
  refine s_getL (pc' := 205) (host := "") w (Or.inl (t176 hw)) Via.refl (Lk.new (lk_suf hN rfl)) (j := 8) rfl rfl d12_202 rfl ?_
  intro T w
  refine s_newarray (pc' := 207) (ty := .long) w (t98 hw) rfl (by intro C h; cases h) d12_205 (by decide) 1 (by decide) (by decide) (by decide) (by decide) (N + 8) (by rw [List.length_append, hN]; rfl) rfl ?_
  intro T w
  rw [List.append_assoc] at w
  replace w : St p l e _ s m _ below meth c Z _ _ _ _ h0 n0 T (Pre ++ [o2 (.ref (n0 + (N + 1))) (.int 10) (.ref (n0 + (N + 2))) (.ref (n0 + (N + 3))) (.ref (n0 + (N + 4))) (.ref (n0 + (N + 5))) (.ref (n0 + (N + 6))) (.ref (n0 + (N + 7))) (.int 1) .null, aJ ([]), aI (List.replicate 1024 (.int (-1))), aI ([]), aI ([.int l0]), aI ([.int 0]), aI ([.int (Int32.ofNat (0))]), aJ ([.long (mkM (32))]), aJ ([(.long 0)])]) 8 1029 := w
  refine s_put (pc' := 210) (host := "") (k := (N + 0)) w (Or.inl (t178 hw)) Via.refl (cls2 hw) (lk_suf hN rfl) (j := 9) rfl (leB rfl) (Or.inr ⟨(t179 hw), rfl, rfl⟩) (ty := (.array .long)) (by decide +kernel) rfl rfl d12_207 rfl ?_
  intro T w
  rw [set_suf hN] at w
  replace w : St p l e _ s m _ below meth c Z _ _ _ _ h0 n0 T (Pre ++ [o2 (.ref (n0 + (N + 1))) (.int 10) (.ref (n0 + (N + 2))) (.ref (n0 + (N + 3))) (.ref (n0 + (N + 4))) (.ref (n0 + (N + 5))) (.ref (n0 + (N + 6))) (.ref (n0 + (N + 7))) (.int 1) (.ref (n0 + (N + 8))), aJ ([]), aI (List.replicate 1024 (.int (-1))), aI ([]), aI ([.int l0]), aI ([.int 0]), aI ([.int (Int32.ofNat (0))]), aJ ([.long (mkM (32))]), aJ ([(.long 0)])]) 8 1029 := w
  exact s_return w d12_210 (by decide) (by decide) ⟨rfl, rfl⟩
set_option maxRecDepth 65536 in
set_option maxHeartbeats 40000000 in
theorem c_storeF3 {Z : State} {a0 : Array Value} (hw : Tw Z a0) (l : Launch) (h0 : Heap) (n0 : Nat) (Pre : List Ob) (N kA kE : Nat) (mc : Value) (es : List Value) (v0 : Nat) (l0 u0 : Int32) (na0 ty0 ini0 pos0 : Value) (v1 : Nat) (l1 u1 : Int32) (na1 ty1 ini1 pos1 : Value) (v2 : Nat) (l2 u2 : Int32) (na2 ty2 ini2 pos2 : Value) (hN : Pre.length = N) (pA : Pre[kA]? = some (o0 mc (.ref (n0 + kE)) (.int 3))) (pE : Pre[kE]? = some (aO (es))) (he0 : es[0]? = some (.ref (n0 + v0))) (pV0 : Pre[v0]? = some (o1 na0 ty0 (.int l0) (.int u0) ini0 pos0)) (hs0 : (u0.toInt64 - l0.toInt64).toBitVec.toNat < 2 ^ 32) (he1 : es[1]? = some (.ref (n0 + v1))) (pV1 : Pre[v1]? = some (o1 na1 ty1 (.int l1) (.int u1) ini1 pos1)) (hs1 : (u1.toInt64 - l1.toInt64).toBitVec.toNat < 2 ^ 32) (he2 : es[2]? = some (.ref (n0 + v2))) (pV2 : Pre[v2]? = some (o1 na2 ty2 (.int l2) (.int u2) ini2 pos2)) (hs2 : (u2.toInt64 - l2.toInt64).toBitVec.toNat < 2 ^ 32) (hf0 : 2 ^ 31 ≤ (u0.toInt64 - l0.toInt64).toBitVec.toNat) (hg0 : ¬ 0 < (u0.toInt64 - l0.toInt64).toInt32 ∧ ¬ (u0.toInt64 - l0.toInt64).toInt32 = 0) (hf1 : 2 ^ 31 ≤ (u1.toInt64 - l1.toInt64).toBitVec.toNat) (hg1 : ¬ 0 < (u1.toInt64 - l1.toInt64).toInt32 ∧ ¬ (u1.toInt64 - l1.toInt64).toInt32 = 0) (hf2 : 2 ^ 31 ≤ (u2.toInt64 - l2.toInt64).toBitVec.toNat) (hg2 : ¬ 0 < (u2.toInt64 - l2.toInt64).toInt32 ∧ ¬ (u2.toInt64 - l2.toInt64).toInt32 = 0) :
    Met1 l Z (⟨"com/example/ryazan/ryazan/statespace/StateStore", "<init>", "(Ljava/util/List;)V"⟩ : MethodName) prog_197_method_1_code 10 none ({ frames := 3, cells := 8, slots := 1038, locals := 40 } : Room) #[(.ref (n0 + (N + 0))), (.ref (n0 + kA))] h0 n0 (Pre ++ [o2 .null (.int 0) .null .null .null .null .null .null (.int 0) .null]) (fun v L => v = none ∧ L = Pre ++ [o2 (.ref (n0 + (N + 1))) (.int 10) (.ref (n0 + (N + 2))) (.ref (n0 + (N + 3))) (.ref (n0 + (N + 4))) (.ref (n0 + (N + 5))) (.ref (n0 + (N + 6))) (.ref (n0 + (N + 7))) (.int 2) (.ref (n0 + (N + 8))), aJ ([]), aI (List.replicate 1024 (.int (-1))), aI ([]), aI ([.int l0, .int l1, .int l2]), aI ([.int 0, .int 0, .int 1]), aI ([.int (Int32.ofNat (0)), .int (Int32.ofNat (32)), .int (Int32.ofNat (0))]), aJ ([.long (mkM (32)), .long (mkM (32)), .long (mkM (32))]), aJ ([.long 0, .long 0])]) [] := by
  refine Met1.of (ls := #[vR (n0 + (N + 0)), vR (n0 + kA), un, un, un, un, un, un, un, un]) (plainFor_of_name pn10) (fun m => by first | (simp [entryFrame, mkF, argsToLocals, Value.category]; done) | rfl) ?_
  intro p e s m below meth c T w
  refine s_aloadN (pc' := 1) w d12_0 rfl rfl rfl ?_
  refine s_initO (pc' := 4) 0 w (t97 hw) (t19 hw) (t20 hw) d12_1 rfl (by decide) (Nat.le_of_eq rfl) (by decide) rfl ?_
  intro T w
  refine s_aloadN (pc' := 5) w d12_4 rfl rfl rfl ?_
  refine s_iconst (pc' := 6) (0 : Int32) w d12_5 (by decide) rfl ?_
  refine s_newarray (pc' := 8) (ty := .long) w (t98 hw) rfl (by intro C h; cases h) d12_6 (by decide) 0 (by decide) (by decide) (by decide) (by decide) (N + 1) (by rw [List.length_append, hN]; rfl) rfl ?_
  intro T w
  rw [List.append_assoc] at w
  replace w : St p l e _ s m _ below meth c Z _ _ _ _ h0 n0 T (Pre ++ [o2 .null (.int 0) .null .null .null .null .null .null (.int 0) .null, aJ ([])]) 1 0 := w
  refine s_put (pc' := 11) (host := "") (k := (N + 0)) w (Or.inl (t99 hw)) Via.refl (cls2 hw) (lk_suf hN rfl) (j := 0) rfl (leB rfl) (Or.inl (t100 hw)) (ty := (.array .long)) (by decide +kernel) rfl rfl d12_8 rfl ?_
  intro T w
  rw [set_suf hN] at w
  replace w : St p l e _ s m _ below meth c Z _ _ _ _ h0 n0 T (Pre ++ [o2 (.ref (n0 + (N + 1))) (.int 0) .null .null .null .null .null .null (.int 0) .null, aJ ([])]) 1 0 := w
  refine s_aloadN (pc' := 12) w d12_11 rfl rfl rfl ?_
  refine s_bipush (pc' := 14) (10 : Int32) w d12_12 (by decide) rfl ?_
  refine s_put (pc' := 17) (host := "") (k := (N + 0)) w (Or.inl (t101 hw)) Via.refl (cls2 hw) (lk_suf hN rfl) (j := 1) rfl (leB rfl) (Or.inl (t102 hw)) (ty := .int) (by decide +kernel) rfl rfl d12_14 rfl ?_
  intro T w
  rw [set_suf hN] at w
  replace w : St p l e _ s m _ below meth c Z _ _ _ _ h0 n0 T (Pre ++ [o2 (.ref (n0 + (N + 1))) (.int 10) .null .null .null .null .null .null (.int 0) .null, aJ ([])]) 1 0 := w
  refine s_aloadN (pc' := 18) w d12_17 rfl rfl rfl ?_
  refine s_aloadN (pc' := 19) w d12_18 rfl rfl rfl ?_
  refine s_getL (pc' := 22) (host := "") w (Or.inl (t101 hw)) Via.refl (Lk.new (lk_suf hN rfl)) (j := 1) rfl rfl d12_19 rfl ?_
  intro T w
  refine s_static (pc' := 25) (rest := [(.ref (n0 + (N + 0)))]) 1 [(.int (10 : Int32))] w (c_empty hw l h0 n0 (Pre ++ [o2 (.ref (n0 + (N + 1))) (.int 10) .null .null .null .null .null .null (.int 0) .null, aJ ([])])) (t103 hw) (t104 hw) (t93 hw) (t105 hw) (by decide) pd10 d12_22 (by decide) rfl rfl rfl rfl (Nat.le_of_eq rfl) rfl ?_
  intro T v L' hQ w
  obtain ⟨rfl, hM⟩ := hQ
  rw [hM, List.append_assoc] at w
  clear hM
  rw [show (Pre ++ [o2 (.ref (n0 + (N + 1))) (.int 10) .null .null .null .null .null .null (.int 0) .null, aJ ([])]).length = N + 2 by rw [List.length_append, hN]; rfl]
  dsimp only [oS, oN, cA, nA]
  replace w : St p l e _ s m _ below meth c Z _ _ _ _ h0 n0 T (Pre ++ [o2 (.ref (n0 + (N + 1))) (.int 10) .null .null .null .null .null .null (.int 0) .null, aJ ([]), aI (List.replicate 1024 (.int (-1)))]) 2 1024 := w
  refine s_put (pc' := 28) (host := "") (k := (N + 0)) w (Or.inl (t114 hw)) Via.refl (cls2 hw) (lk_suf hN rfl) (j := 2) rfl (leB rfl) (Or.inl (t115 hw)) (ty := (.array .int)) (by decide +kernel) rfl rfl d12_25 rfl ?_
  intro T w
  rw [set_suf hN] at w
  replace w : St p l e _ s m _ below meth c Z _ _ _ _ h0 n0 T (Pre ++ [o2 (.ref (n0 + (N + 1))) (.int 10) (.ref (n0 + (N + 2))) .null .null .null .null .null (.int 0) .null, aJ ([]), aI (List.replicate 1024 (.int (-1)))]) 2 1024 := w
  refine s_aloadN (pc' := 29) w d12_28 rfl rfl rfl ?_
  refine s_iconst (pc' := 30) (0 : Int32) w d12_29 (by decide) rfl ?_
  refine s_newarray (pc' := 32) (ty := .int) w (t109 hw) rfl (by intro C h; cases h) d12_30 (by decide) 0 (by decide) (by decide) (by decide) (by decide) (N + 3) (by rw [List.length_append, hN]; rfl) rfl ?_
  intro T w
  rw [List.append_assoc] at w
  replace w : St p l e _ s m _ below meth c Z _ _ _ _ h0 n0 T (Pre ++ [o2 (.ref (n0 + (N + 1))) (.int 10) (.ref (n0 + (N + 2))) .null .null .null .null .null (.int 0) .null, aJ ([]), aI (List.replicate 1024 (.int (-1))), aI ([])]) 3 1024 := w
  refine s_put (pc' := 35) (host := "") (k := (N + 0)) w (Or.inl (t116 hw)) Via.refl (cls2 hw) (lk_suf hN rfl) (j := 3) rfl (leB rfl) (Or.inl (t117 hw)) (ty := (.array .int)) (by decide +kernel) rfl rfl d12_32 rfl ?_
  intro T w
  rw [set_suf hN] at w
  replace w : St p l e _ s m _ below meth c Z _ _ _ _ h0 n0 T (Pre ++ [o2 (.ref (n0 + (N + 1))) (.int 10) (.ref (n0 + (N + 2))) (.ref (n0 + (N + 3))) .null .null .null .null (.int 0) .null, aJ ([]), aI (List.replicate 1024 (.int (-1))), aI ([])]) 3 1024 := w
  refine s_aloadN (pc' := 36) w d12_35 rfl rfl rfl ?_
  refine s_face (pc' := 41) (rest := []) 0 [] w (c_size hw l h0 n0 (n0 + kA) mc (.ref (n0 + kE)) 3 (Pre ++ [o2 (.ref (n0 + (N + 1))) (.int 10) (.ref (n0 + (N + 2))) (.ref (n0 + (N + 3))) .null .null .null .null (.int 0) .null, aJ ([]), aI (List.replicate 1024 (.int (-1))), aI ([])]) (Lk.new (lk_app pA))) (Lk.new (lk_app pA)) (t118 hw) (t119 hw) (t120 hw) (t121 hw) (t122 hw) (t123 hw) (t124 hw) (t125 hw) (t2 hw) (t126 hw) (by decide) pd11 d12_36 (by decide) rfl rfl rfl rfl (Nat.le_of_eq rfl) rfl ?_
  intro T v L' hQ w
  obtain ⟨rfl, hL⟩ := hQ
  replace hL := hL.symm
  subst hL
  dsimp only [oS, oN, cA, nA]
  refine s_istoreN (pc' := 42) (ls' := #[vR (n0 + (N + 0)), vR (n0 + kA), vI (3 : Int32), un, un, un, un, un, un, un]) w d12_41 rfl rfl ?_
  refine s_aloadN (pc' := 43) w d12_42 rfl rfl rfl ?_
  refine s_iloadN (pc' := 44) w d12_43 rfl rfl ?_
  refine s_newarray (pc' := 46) (ty := .int) w (t109 hw) rfl (by intro C h; cases h) d12_44 (by decide) 3 (by decide) (by decide) (by decide) (by decide) (N + 4) (by rw [List.length_append, hN]; rfl) rfl ?_
  intro T w
  rw [List.append_assoc] at w
  replace w : St p l e _ s m _ below meth c Z _ _ _ _ h0 n0 T (Pre ++ [o2 (.ref (n0 + (N + 1))) (.int 10) (.ref (n0 + (N + 2))) (.ref (n0 + (N + 3))) .null .null .null .null (.int 0) .null, aJ ([]), aI (List.replicate 1024 (.int (-1))), aI ([]), aI ([(.int 0), (.int 0), (.int 0)])]) 4 1027 := w
  refine s_put (pc' := 49) (host := "") (k := (N + 0)) w (Or.inl (t127 hw)) Via.refl (cls2 hw) (lk_suf hN rfl) (j := 4) rfl (leB rfl) (Or.inr ⟨(t128 hw), rfl, rfl⟩) (ty := (.array .int)) (by decide +kernel) rfl rfl d12_46 rfl ?_
  intro T w
  rw [set_suf hN] at w
  replace w : St p l e _ s m _ below meth c Z _ _ _ _ h0 n0 T (Pre ++ [o2 (.ref (n0 + (N + 1))) (.int 10) (.ref (n0 + (N + 2))) (.ref (n0 + (N + 3))) (.ref (n0 + (N + 4))) .null .null .null (.int 0) .null, aJ ([]), aI (List.replicate 1024 (.int (-1))), aI ([]), aI ([(.int 0), (.int 0), (.int 0)])]) 4 1027 := w
  refine s_aloadN (pc' := 50) w d12_49 rfl rfl rfl ?_
  refine s_iloadN (pc' := 51) w d12_50 rfl rfl ?_
  refine s_newarray (pc' := 53) (ty := .int) w (t109 hw) rfl (by intro C h; cases h) d12_51 (by decide) 3 (by decide) (by decide) (by decide) (by decide) (N + 5) (by rw [List.length_append, hN]; rfl) rfl ?_
  intro T w
  rw [List.append_assoc] at w
  replace w : St p l e _ s m _ below meth c Z _ _ _ _ h0 n0 T (Pre ++ [o2 (.ref (n0 + (N + 1))) (.int 10) (.ref (n0 + (N + 2))) (.ref (n0 + (N + 3))) (.ref (n0 + (N + 4))) .null .null .null (.int 0) .null, aJ ([]), aI (List.replicate 1024 (.int (-1))), aI ([]), aI ([(.int 0), (.int 0), (.int 0)]), aI ([(.int 0), (.int 0), (.int 0)])]) 5 1030 := w
  refine s_put (pc' := 56) (host := "") (k := (N + 0)) w (Or.inl (t129 hw)) Via.refl (cls2 hw) (lk_suf hN rfl) (j := 5) rfl (leB rfl) (Or.inr ⟨(t130 hw), rfl, rfl⟩) (ty := (.array .int)) (by decide +kernel) rfl rfl d12_53 rfl ?_
  intro T w
  rw [set_suf hN] at w
  replace w : St p l e _ s m _ below meth c Z _ _ _ _ h0 n0 T (Pre ++ [o2 (.ref (n0 + (N + 1))) (.int 10) (.ref (n0 + (N + 2))) (.ref (n0 + (N + 3))) (.ref (n0 + (N + 4))) (.ref (n0 + (N + 5))) .null .null (.int 0) .null, aJ ([]), aI (List.replicate 1024 (.int (-1))), aI ([]), aI ([(.int 0), (.int 0), (.int 0)]), aI ([(.int 0), (.int 0), (.int 0)])]) 5 1030 := w
  refine s_aloadN (pc' := 57) w d12_56 rfl rfl rfl ?_
  refine s_iloadN (pc' := 58) w d12_57 rfl rfl ?_
  refine s_newarray (pc' := 60) (ty := .int) w (t109 hw) rfl (by intro C h; cases h) d12_58 (by decide) 3 (by decide) (by decide) (by decide) (by decide) (N + 6) (by rw [List.length_append, hN]; rfl) rfl ?_
  intro T w
  rw [List.append_assoc] at w
  replace w : St p l e _ s m _ below meth c Z _ _ _ _ h0 n0 T (Pre ++ [o2 (.ref (n0 + (N + 1))) (.int 10) (.ref (n0 + (N + 2))) (.ref (n0 + (N + 3))) (.ref (n0 + (N + 4))) (.ref (n0 + (N + 5))) .null .null (.int 0) .null, aJ ([]), aI (List.replicate 1024 (.int (-1))), aI ([]), aI ([(.int 0), (.int 0), (.int 0)]), aI ([(.int 0), (.int 0), (.int 0)]), aI ([(.int 0), (.int 0), (.int 0)])]) 6 1033 := w
  refine s_put (pc' := 63) (host := "") (k := (N + 0)) w (Or.inl (t131 hw)) Via.refl (cls2 hw) (lk_suf hN rfl) (j := 6) rfl (leB rfl) (Or.inr ⟨(t132 hw), rfl, rfl⟩) (ty := (.array .int)) (by decide +kernel) rfl rfl d12_60 rfl ?_
  intro T w
  rw [set_suf hN] at w
  replace w : St p l e _ s m _ below meth c Z _ _ _ _ h0 n0 T (Pre ++ [o2 (.ref (n0 + (N + 1))) (.int 10) (.ref (n0 + (N + 2))) (.ref (n0 + (N + 3))) (.ref (n0 + (N + 4))) (.ref (n0 + (N + 5))) (.ref (n0 + (N + 6))) .null (.int 0) .null, aJ ([]), aI (List.replicate 1024 (.int (-1))), aI ([]), aI ([(.int 0), (.int 0), (.int 0)]), aI ([(.int 0), (.int 0), (.int 0)]), aI ([(.int 0), (.int 0), (.int 0)])]) 6 1033 := w
  refine s_aloadN (pc' := 64) w d12_63 rfl rfl rfl ?_
  refine s_iloadN (pc' := 65) w d12_64 rfl rfl ?_
  refine s_newarray (pc' := 67) (ty := .long) w (t98 hw) rfl (by intro C h; cases h) d12_65 (by decide) 3 (by decide) (by decide) (by decide) (by decide) (N + 7) (by rw [List.length_append, hN]; rfl) rfl ?_
  intro T w
  rw [List.append_assoc] at w
  replace w : St p l e _ s m _ below meth c Z _ _ _ _ h0 n0 T (Pre ++ [o2 (.ref (n0 + (N + 1))) (.int 10) (.ref (n0 + (N + 2))) (.ref (n0 + (N + 3))) (.ref (n0 + (N + 4))) (.ref (n0 + (N + 5))) (.ref (n0 + (N + 6))) .null (.int 0) .null, aJ ([]), aI (List.replicate 1024 (.int (-1))), aI ([]), aI ([(.int 0), (.int 0), (.int 0)]), aI ([(.int 0), (.int 0), (.int 0)]), aI ([(.int 0), (.int 0), (.int 0)]), aJ ([(.long 0), (.long 0), (.long 0)])]) 7 1036 := w
  refine s_put (pc' := 70) (host := "") (k := (N + 0)) w (Or.inl (t133 hw)) Via.refl (cls2 hw) (lk_suf hN rfl) (j := 7) rfl (leB rfl) (Or.inr ⟨(t134 hw), rfl, rfl⟩) (ty := (.array .long)) (by decide +kernel) rfl rfl d12_67 rfl ?_
  intro T w
  rw [set_suf hN] at w
  replace w : St p l e _ s m _ below meth c Z _ _ _ _ h0 n0 T (Pre ++ [o2 (.ref (n0 + (N + 1))) (.int 10) (.ref (n0 + (N + 2))) (.ref (n0 + (N + 3))) (.ref (n0 + (N + 4))) (.ref (n0 + (N + 5))) (.ref (n0 + (N + 6))) (.ref (n0 + (N + 7))) (.int 0) .null, aJ ([]), aI (List.replicate 1024 (.int (-1))), aI ([]), aI ([(.int 0), (.int 0), (.int 0)]), aI ([(.int 0), (.int 0), (.int 0)]), aI ([(.int 0), (.int 0), (.int 0)]), aJ ([(.long 0), (.long 0), (.long 0)])]) 7 1036 := w
  refine s_iconst (pc' := 71) (0 : Int32) w d12_70 (by decide) rfl ?_
  refine s_istoreN (pc' := 72) (ls' := #[vR (n0 + (N + 0)), vR (n0 + kA), vI (3 : Int32), vI (0 : Int32), un, un, un, un, un, un]) w d12_71 rfl rfl ?_
  refine s_iconst (pc' := 73) (0 : Int32) w d12_72 (by decide) rfl ?_
  refine s_istore (pc' := 75) (ls' := #[vR (n0 + (N + 0)), vR (n0 + kA), vI (3 : Int32), vI (0 : Int32), vI (0 : Int32), un, un, un, un, un]) w d12_73 rfl rfl ?_
  refine s_iconst (pc' := 76) (0 : Int32) w d12_75 (by decide) rfl ?_
  refine s_istore (pc' := 78) (ls' := #[vR (n0 + (N + 0)), vR (n0 + kA), vI (3 : Int32), vI (0 : Int32), vI (0 : Int32), vI (0 : Int32), un, un, un, un]) w d12_76 rfl rfl ?_
  change Go p e below _ T (mkF m 78 #[vR (n0 + (N + 0)), vR (n0 + kA), vI (3 : Int32), vI (0 : Int32), vI (Int32.ofNat 0), vI (0 : Int32), un, un, un, un] [])
  have hfull0 : 2 ^ 31 ≤ (u0.toInt64 - l0.toInt64).toBitVec.toNat := hf0
  have hfull1 : 2 ^ 31 ≤ (u1.toInt64 - l1.toInt64).toBitVec.toNat := hf1
  have hfull2 : 2 ^ 31 ≤ (u2.toInt64 - l2.toInt64).toBitVec.toNat := hf2
  refine s_iload (pc' := 80) w d12_78 rfl rfl ?_
  refine s_iloadN (pc' := 81) w d12_80 rfl rfl ?_
  refine s_icmpN (pc' := 84) w d12_81 (Jvm.Free.XT.ii_ge_f (by decide)) rfl ?_
  refine s_aloadN (pc' := 85) w d12_84 rfl rfl rfl ?_
  refine s_iload (pc' := 87) w d12_85 rfl rfl ?_
  refine s_face (pc' := 92) (rest := []) 0 [(.int (0 : Int32))] w (c_get hw l h0 n0 (n0 + kA) (n0 + kE) mc 3 0 es (n0 + v0) (Pre ++ [o2 (.ref (n0 + (N + 1))) (.int 10) (.ref (n0 + (N + 2))) (.ref (n0 + (N + 3))) (.ref (n0 + (N + 4))) (.ref (n0 + (N + 5))) (.ref (n0 + (N + 6))) (.ref (n0 + (N + 7))) (.int 0) .null, aJ ([]), aI (List.replicate 1024 (.int (-1))), aI ([]), aI ([(.int 0), (.int 0), (.int 0)]), aI ([(.int 0), (.int 0), (.int 0)]), aI ([(.int 0), (.int 0), (.int 0)]), aJ ([(.long 0), (.long 0), (.long 0)])]) (Lk.new (lk_app pA)) (Lk.new (lk_app pE)) (by decide) he0 (by decide)) (Lk.new (lk_app pA)) (t135 hw) (t136 hw) (t137 hw) (t138 hw) (t139 hw) (t140 hw) (t141 hw) (t125 hw) (t2 hw) (t142 hw) (by decide) pd6 d12_87 (by decide) rfl rfl rfl rfl (Nat.le_of_eq rfl) rfl ?_
  intro T v L' hQ w
  obtain ⟨rfl, hL⟩ := hQ
  replace hL := hL.symm
  subst hL
  dsimp only [oS, oN, cA, nA]
  refine s_checkcast (pc' := 95) w (t156 hw) (Lk.new (lk_app pV0)) (Or.inl rfl) d12_92 rfl ?_
  intro T w
  refine s_astore (pc' := 97) (ls' := #[vR (n0 + (N + 0)), vR (n0 + kA), vI (3 : Int32), vI (0 : Int32), vI (Int32.ofNat 0), vI (0 : Int32), vR (n0 + v0), un, un, un]) w d12_95 rfl rfl rfl ?_
  refine s_aload (pc' := 99) w d12_97 rfl rfl rfl ?_
  refine s_virtual (pc' := 102) (rest := []) 0 [] w (c_high hw l h0 n0 (n0 + v0) na0 ty0 (.int l0) ini0 pos0 u0 (Pre ++ [o2 (.ref (n0 + (N + 1))) (.int 10) (.ref (n0 + (N + 2))) (.ref (n0 + (N + 3))) (.ref (n0 + (N + 4))) (.ref (n0 + (N + 5))) (.ref (n0 + (N + 6))) (.ref (n0 + (N + 7))) (.int 0) .null, aJ ([]), aI (List.replicate 1024 (.int (-1))), aI ([]), aI ([(.int 0), (.int 0), (.int 0)]), aI ([(.int 0), (.int 0), (.int 0)]), aI ([(.int 0), (.int 0), (.int 0)]), aJ ([(.long 0), (.long 0), (.long 0)])]) (Lk.new (lk_app pV0))) (Lk.new (lk_app pV0)) (t158 hw) (t159 hw) (w.notFace (t161 hw)) (t161 hw) (t160 hw) (t28 hw) (t162 hw) (by decide) pd11 d12_99 (by decide) rfl rfl rfl rfl (Nat.le_of_eq rfl) rfl ?_
  intro T v L' hQ w
  obtain ⟨rfl, hL⟩ := hQ
  replace hL := hL.symm
  subst hL
  dsimp only [oS, oN, cA, nA]
  refine s_i2l (pc' := 103) w d12_102 rfl ?_
  refine s_aload (pc' := 105) w d12_103 rfl rfl rfl ?_
  refine s_virtual (pc' := 108) (rest := [(.long u0.toInt64)]) 2 [] w (c_low hw l h0 n0 (n0 + v0) na0 ty0 (.int u0) ini0 pos0 l0 (Pre ++ [o2 (.ref (n0 + (N + 1))) (.int 10) (.ref (n0 + (N + 2))) (.ref (n0 + (N + 3))) (.ref (n0 + (N + 4))) (.ref (n0 + (N + 5))) (.ref (n0 + (N + 6))) (.ref (n0 + (N + 7))) (.int 0) .null, aJ ([]), aI (List.replicate 1024 (.int (-1))), aI ([]), aI ([(.int 0), (.int 0), (.int 0)]), aI ([(.int 0), (.int 0), (.int 0)]), aI ([(.int 0), (.int 0), (.int 0)]), aJ ([(.long 0), (.long 0), (.long 0)])]) (Lk.new (lk_app pV0))) (Lk.new (lk_app pV0)) (t163 hw) (t164 hw) (w.notFace (t166 hw)) (t166 hw) (t165 hw) (t28 hw) (t167 hw) (by decide) pd11 d12_105 (by decide) rfl rfl rfl rfl (Nat.le_of_eq rfl) rfl ?_
  intro T v L' hQ w
  obtain ⟨rfl, hL⟩ := hQ
  replace hL := hL.symm
  subst hL
  dsimp only [oS, oN, cA, nA]
  refine s_i2l (pc' := 109) w d12_108 rfl ?_
  refine s_lsub (pc' := 110) w d12_109 rfl ?_
  refine s_lstore (pc' := 112) (ls' := #[vR (n0 + (N + 0)), vR (n0 + kA), vI (3 : Int32), vI (0 : Int32), vI (Int32.ofNat 0), vI (0 : Int32), vR (n0 + v0), vJ (u0.toInt64 - l0.toInt64), sc, un]) w d12_110 rfl rfl ?_
  refine s_bipush (pc' := 114) (64 : Int32) w d12_112 (by decide) rfl ?_
  refine s_lload (pc' := 116) w d12_114 rfl rfl ?_
  refine s_static (pc' := 119) (rest := [(.int (64 : Int32))]) 1 [(.long (u0.toInt64 - l0.toInt64))] w (c_nlz64 hw l h0 n0 (u0.toInt64 - l0.toInt64) (Pre ++ [o2 (.ref (n0 + (N + 1))) (.int 10) (.ref (n0 + (N + 2))) (.ref (n0 + (N + 3))) (.ref (n0 + (N + 4))) (.ref (n0 + (N + 5))) (.ref (n0 + (N + 6))) (.ref (n0 + (N + 7))) (.int 0) .null, aJ ([]), aI (List.replicate 1024 (.int (-1))), aI ([]), aI ([(.int 0), (.int 0), (.int 0)]), aI ([(.int 0), (.int 0), (.int 0)]), aI ([(.int 0), (.int 0), (.int 0)]), aJ ([(.long 0), (.long 0), (.long 0)])]) hs0 hg0) (t168 hw) (t169 hw) (t170 hw) (t171 hw) (by decide) pd8 d12_116 (by decide) rfl rfl rfl rfl (Nat.le_of_eq rfl) rfl ?_
  intro T v L' hQ w
  obtain ⟨b0, rfl, hb0, hx0, hL⟩ := hQ
  replace hL := hL.symm
  subst hL
  dsimp only [oS, oN, cA, nA]
  obtain rfl : b0 = 32 := full32 hfull0 hx0 hb0
  refine s_isub (pc' := 120) w d12_119 rfl ?_
  rw [b_sub (by decide : 32 ≤ 32)]
  refine s_istore (pc' := 122) (ls' := #[vR (n0 + (N + 0)), vR (n0 + kA), vI (3 : Int32), vI (0 : Int32), vI (Int32.ofNat 0), vI (0 : Int32), vR (n0 + v0), vJ (u0.toInt64 - l0.toInt64), sc, vI (Int32.ofNat (32))]) w d12_120 rfl rfl ?_
  refine s_iload (pc' := 124) w d12_122 rfl rfl ?_
  refine s_iload (pc' := 126) w d12_124 rfl rfl ?_
  refine s_iadd (pc' := 127) w d12_126 rfl ?_
  rw [b_add]
  refine s_bipush (pc' := 129) (64 : Int32) w d12_127 (by decide) rfl ?_
  refine s_icmpY (pc' := 138) w d12_129 (Jvm.Free.XT.ii_le_t (by decide)) (by decide) (by decide) ?_
  refine s_aloadN (pc' := 139) w d12_138 rfl rfl rfl ?_
  refine s_getL (pc' := 142) (host := "") w (Or.inl (t127 hw)) Via.refl (Lk.new (lk_suf hN rfl)) (j := 4) rfl rfl d12_139 rfl ?_
  intro T w
  refine s_iload (pc' := 144) w d12_142 rfl rfl ?_
  refine s_aload (pc' := 146) w d12_144 rfl rfl rfl ?_
  refine s_virtual (pc' := 149) (rest := [(.int (0 : Int32)), (.ref (n0 + (N + 4)))]) 2 [] w (c_low hw l h0 n0 (n0 + v0) na0 ty0 (.int u0) ini0 pos0 l0 (Pre ++ [o2 (.ref (n0 + (N + 1))) (.int 10) (.ref (n0 + (N + 2))) (.ref (n0 + (N + 3))) (.ref (n0 + (N + 4))) (.ref (n0 + (N + 5))) (.ref (n0 + (N + 6))) (.ref (n0 + (N + 7))) (.int 0) .null, aJ ([]), aI (List.replicate 1024 (.int (-1))), aI ([]), aI ([(.int 0), (.int 0), (.int 0)]), aI ([(.int 0), (.int 0), (.int 0)]), aI ([(.int 0), (.int 0), (.int 0)]), aJ ([(.long 0), (.long 0), (.long 0)])]) (Lk.new (lk_app pV0))) (Lk.new (lk_app pV0)) (t163 hw) (t164 hw) (w.notFace (t166 hw)) (t166 hw) (t165 hw) (t28 hw) (t167 hw) (by decide) pd11 d12_146 (by decide) rfl rfl rfl rfl (Nat.le_of_eq rfl) rfl ?_
  intro T v L' hQ w
  obtain ⟨rfl, hL⟩ := hQ
  replace hL := hL.symm
  subst hL
  dsimp only [oS, oN, cA, nA]
  refine s_iastore (pc' := 150) (k := (N + 4)) w (lk_suf hN rfl) d12_149 (by decide) (leB rfl) rfl ?_
  intro T w
  rw [set_suf hN] at w
  replace w : St p l e _ s m _ below meth c Z _ _ _ _ h0 n0 T (Pre ++ [o2 (.ref (n0 + (N + 1))) (.int 10) (.ref (n0 + (N + 2))) (.ref (n0 + (N + 3))) (.ref (n0 + (N + 4))) (.ref (n0 + (N + 5))) (.ref (n0 + (N + 6))) (.ref (n0 + (N + 7))) (.int 0) .null, aJ ([]), aI (List.replicate 1024 (.int (-1))), aI ([]), aI ([.int l0, (.int 0), (.int 0)]), aI ([(.int 0), (.int 0), (.int 0)]), aI ([(.int 0), (.int 0), (.int 0)]), aJ ([(.long 0), (.long 0), (.long 0)])]) 7 1036 := w
  refine s_aloadN (pc' := 151) w d12_150 rfl rfl rfl ?_
  refine s_getL (pc' := 154) (host := "") w (Or.inl (t129 hw)) Via.refl (Lk.new (lk_suf hN rfl)) (j := 5) rfl rfl d12_151 rfl ?_
  intro T w
  refine s_iload (pc' := 156) w d12_154 rfl rfl ?_
  refine s_iloadN (pc' := 157) w d12_156 rfl rfl ?_
  refine s_iastore (pc' := 158) (k := (N + 5)) w (lk_suf hN rfl) d12_157 (by decide) (leB rfl) rfl ?_
  intro T w
  rw [set_suf hN] at w
  replace w : St p l e _ s m _ below meth c Z _ _ _ _ h0 n0 T (Pre ++ [o2 (.ref (n0 + (N + 1))) (.int 10) (.ref (n0 + (N + 2))) (.ref (n0 + (N + 3))) (.ref (n0 + (N + 4))) (.ref (n0 + (N + 5))) (.ref (n0 + (N + 6))) (.ref (n0 + (N + 7))) (.int 0) .null, aJ ([]), aI (List.replicate 1024 (.int (-1))), aI ([]), aI ([.int l0, (.int 0), (.int 0)]), aI ([.int 0, (.int 0), (.int 0)]), aI ([(.int 0), (.int 0), (.int 0)]), aJ ([(.long 0), (.long 0), (.long 0)])]) 7 1036 := w
  refine s_aloadN (pc' := 159) w d12_158 rfl rfl rfl ?_
  refine s_getL (pc' := 162) (host := "") w (Or.inl (t131 hw)) Via.refl (Lk.new (lk_suf hN rfl)) (j := 6) rfl rfl d12_159 rfl ?_
  intro T w
  refine s_iload (pc' := 164) w d12_162 rfl rfl ?_
  refine s_iload (pc' := 166) w d12_164 rfl rfl ?_
  refine s_iastore (pc' := 167) (k := (N + 6)) w (lk_suf hN rfl) d12_166 (by decide) (leB rfl) rfl ?_
  intro T w
  rw [set_suf hN] at w
  replace w : St p l e _ s m _ below meth c Z _ _ _ _ h0 n0 T (Pre ++ [o2 (.ref (n0 + (N + 1))) (.int 10) (.ref (n0 + (N + 2))) (.ref (n0 + (N + 3))) (.ref (n0 + (N + 4))) (.ref (n0 + (N + 5))) (.ref (n0 + (N + 6))) (.ref (n0 + (N + 7))) (.int 0) .null, aJ ([]), aI (List.replicate 1024 (.int (-1))), aI ([]), aI ([.int l0, (.int 0), (.int 0)]), aI ([.int 0, (.int 0), (.int 0)]), aI ([.int (Int32.ofNat (0)), (.int 0), (.int 0)]), aJ ([(.long 0), (.long 0), (.long 0)])]) 7 1036 := w
  refine s_aloadN (pc' := 168) w d12_167 rfl rfl rfl ?_
  refine s_getL (pc' := 171) (host := "") w (Or.inl (t133 hw)) Via.refl (Lk.new (lk_suf hN rfl)) (j := 7) rfl rfl d12_168 rfl ?_
  intro T w
  refine s_iload (pc' := 173) w d12_171 rfl rfl ?_
  refine s_lconst (pc' := 174) (1 : Int64) w d12_173 (by decide) rfl ?_
  refine s_iload (pc' := 176) w d12_174 rfl rfl ?_
  refine s_lshl (pc' := 177) w d12_176 rfl ?_
  refine s_lconst (pc' := 178) (1 : Int64) w d12_177 (by decide) rfl ?_
  refine s_lsub (pc' := 179) w d12_178 rfl ?_
  refine s_lastore (pc' := 180) (k := (N + 7)) w (lk_suf hN rfl) d12_179 (by decide) (leB rfl) rfl ?_
  intro T w
  rw [set_suf hN] at w
  replace w : St p l e _ s m _ below meth c Z _ _ _ _ h0 n0 T (Pre ++ [o2 (.ref (n0 + (N + 1))) (.int 10) (.ref (n0 + (N + 2))) (.ref (n0 + (N + 3))) (.ref (n0 + (N + 4))) (.ref (n0 + (N + 5))) (.ref (n0 + (N + 6))) (.ref (n0 + (N + 7))) (.int 0) .null, aJ ([]), aI (List.replicate 1024 (.int (-1))), aI ([]), aI ([.int l0, (.int 0), (.int 0)]), aI ([.int 0, (.int 0), (.int 0)]), aI ([.int (Int32.ofNat (0)), (.int 0), (.int 0)]), aJ ([.long (mkM (32)), (.long 0), (.long 0)])]) 7 1036 := w
  refine s_iload (pc' := 182) w d12_180 rfl rfl ?_
  refine s_iload (pc' := 184) w d12_182 rfl rfl ?_
  refine s_iadd (pc' := 185) w d12_184 rfl ?_
  rw [b_add]
  refine s_istore (pc' := 187) (ls' := #[vR (n0 + (N + 0)), vR (n0 + kA), vI (3 : Int32), vI (0 : Int32), vI (Int32.ofNat (0 + 32)), vI (0 : Int32), vR (n0 + v0), vJ (u0.toInt64 - l0.toInt64), sc, vI (Int32.ofNat (32))]) w d12_185 rfl rfl ?_
  refine s_iinc (pc' := 190) (ls' := #[vR (n0 + (N + 0)), vR (n0 + kA), vI (3 : Int32), vI (0 : Int32), vI (Int32.ofNat (0 + 32)), vI ((0 : Int32) + (1 : Int32)), vR (n0 + v0), vJ (u0.toInt64 - l0.toInt64), sc, vI (Int32.ofNat (32))]) (1 : Int32) w d12_187 (by decide) rfl rfl rfl ?_
  rw [show (0 : Int32) + 1 = 1 by decide]
  refine s_goto (pc' := 78) w d12_190 (by decide) (by decide) ?_
  change Go p e below _ T (mkF m 78 #[vR (n0 + (N + 0)), vR (n0 + kA), vI (3 : Int32), vI (0 : Int32), vI (Int32.ofNat 32), vI (1 : Int32), vR (n0 + v0), vJ (u0.toInt64 - l0.toInt64), sc, vI (Int32.ofNat (32))] [])
  refine s_iload (pc' := 80) w d12_78 rfl rfl ?_
  refine s_iloadN (pc' := 81) w d12_80 rfl rfl ?_
  refine s_icmpN (pc' := 84) w d12_81 (Jvm.Free.XT.ii_ge_f (by decide)) rfl ?_
  refine s_aloadN (pc' := 85) w d12_84 rfl rfl rfl ?_
  refine s_iload (pc' := 87) w d12_85 rfl rfl ?_
  refine s_face (pc' := 92) (rest := []) 0 [(.int (1 : Int32))] w (c_get hw l h0 n0 (n0 + kA) (n0 + kE) mc 3 1 es (n0 + v1) (Pre ++ [o2 (.ref (n0 + (N + 1))) (.int 10) (.ref (n0 + (N + 2))) (.ref (n0 + (N + 3))) (.ref (n0 + (N + 4))) (.ref (n0 + (N + 5))) (.ref (n0 + (N + 6))) (.ref (n0 + (N + 7))) (.int 0) .null, aJ ([]), aI (List.replicate 1024 (.int (-1))), aI ([]), aI ([.int l0, (.int 0), (.int 0)]), aI ([.int 0, (.int 0), (.int 0)]), aI ([.int (Int32.ofNat (0)), (.int 0), (.int 0)]), aJ ([.long (mkM (32)), (.long 0), (.long 0)])]) (Lk.new (lk_app pA)) (Lk.new (lk_app pE)) (by decide) he1 (by decide)) (Lk.new (lk_app pA)) (t135 hw) (t136 hw) (t137 hw) (t138 hw) (t139 hw) (t140 hw) (t141 hw) (t125 hw) (t2 hw) (t142 hw) (by decide) pd6 d12_87 (by decide) rfl rfl rfl rfl (Nat.le_of_eq rfl) rfl ?_
  intro T v L' hQ w
  obtain ⟨rfl, hL⟩ := hQ
  replace hL := hL.symm
  subst hL
  dsimp only [oS, oN, cA, nA]
  refine s_checkcast (pc' := 95) w (t156 hw) (Lk.new (lk_app pV1)) (Or.inl rfl) d12_92 rfl ?_
  intro T w
  refine s_astore (pc' := 97) (ls' := #[vR (n0 + (N + 0)), vR (n0 + kA), vI (3 : Int32), vI (0 : Int32), vI (Int32.ofNat 32), vI (1 : Int32), vR (n0 + v1), vJ (u0.toInt64 - l0.toInt64), sc, vI (Int32.ofNat (32))]) w d12_95 rfl rfl rfl ?_
  refine s_aload (pc' := 99) w d12_97 rfl rfl rfl ?_
  refine s_virtual (pc' := 102) (rest := []) 0 [] w (c_high hw l h0 n0 (n0 + v1) na1 ty1 (.int l1) ini1 pos1 u1 (Pre ++ [o2 (.ref (n0 + (N + 1))) (.int 10) (.ref (n0 + (N + 2))) (.ref (n0 + (N + 3))) (.ref (n0 + (N + 4))) (.ref (n0 + (N + 5))) (.ref (n0 + (N + 6))) (.ref (n0 + (N + 7))) (.int 0) .null, aJ ([]), aI (List.replicate 1024 (.int (-1))), aI ([]), aI ([.int l0, (.int 0), (.int 0)]), aI ([.int 0, (.int 0), (.int 0)]), aI ([.int (Int32.ofNat (0)), (.int 0), (.int 0)]), aJ ([.long (mkM (32)), (.long 0), (.long 0)])]) (Lk.new (lk_app pV1))) (Lk.new (lk_app pV1)) (t158 hw) (t159 hw) (w.notFace (t161 hw)) (t161 hw) (t160 hw) (t28 hw) (t162 hw) (by decide) pd11 d12_99 (by decide) rfl rfl rfl rfl (Nat.le_of_eq rfl) rfl ?_
  intro T v L' hQ w
  obtain ⟨rfl, hL⟩ := hQ
  replace hL := hL.symm
  subst hL
  dsimp only [oS, oN, cA, nA]
  refine s_i2l (pc' := 103) w d12_102 rfl ?_
  refine s_aload (pc' := 105) w d12_103 rfl rfl rfl ?_
  refine s_virtual (pc' := 108) (rest := [(.long u1.toInt64)]) 2 [] w (c_low hw l h0 n0 (n0 + v1) na1 ty1 (.int u1) ini1 pos1 l1 (Pre ++ [o2 (.ref (n0 + (N + 1))) (.int 10) (.ref (n0 + (N + 2))) (.ref (n0 + (N + 3))) (.ref (n0 + (N + 4))) (.ref (n0 + (N + 5))) (.ref (n0 + (N + 6))) (.ref (n0 + (N + 7))) (.int 0) .null, aJ ([]), aI (List.replicate 1024 (.int (-1))), aI ([]), aI ([.int l0, (.int 0), (.int 0)]), aI ([.int 0, (.int 0), (.int 0)]), aI ([.int (Int32.ofNat (0)), (.int 0), (.int 0)]), aJ ([.long (mkM (32)), (.long 0), (.long 0)])]) (Lk.new (lk_app pV1))) (Lk.new (lk_app pV1)) (t163 hw) (t164 hw) (w.notFace (t166 hw)) (t166 hw) (t165 hw) (t28 hw) (t167 hw) (by decide) pd11 d12_105 (by decide) rfl rfl rfl rfl (Nat.le_of_eq rfl) rfl ?_
  intro T v L' hQ w
  obtain ⟨rfl, hL⟩ := hQ
  replace hL := hL.symm
  subst hL
  dsimp only [oS, oN, cA, nA]
  refine s_i2l (pc' := 109) w d12_108 rfl ?_
  refine s_lsub (pc' := 110) w d12_109 rfl ?_
  refine s_lstore (pc' := 112) (ls' := #[vR (n0 + (N + 0)), vR (n0 + kA), vI (3 : Int32), vI (0 : Int32), vI (Int32.ofNat 32), vI (1 : Int32), vR (n0 + v1), vJ (u1.toInt64 - l1.toInt64), sc, vI (Int32.ofNat (32))]) w d12_110 rfl rfl ?_
  refine s_bipush (pc' := 114) (64 : Int32) w d12_112 (by decide) rfl ?_
  refine s_lload (pc' := 116) w d12_114 rfl rfl ?_
  refine s_static (pc' := 119) (rest := [(.int (64 : Int32))]) 1 [(.long (u1.toInt64 - l1.toInt64))] w (c_nlz64 hw l h0 n0 (u1.toInt64 - l1.toInt64) (Pre ++ [o2 (.ref (n0 + (N + 1))) (.int 10) (.ref (n0 + (N + 2))) (.ref (n0 + (N + 3))) (.ref (n0 + (N + 4))) (.ref (n0 + (N + 5))) (.ref (n0 + (N + 6))) (.ref (n0 + (N + 7))) (.int 0) .null, aJ ([]), aI (List.replicate 1024 (.int (-1))), aI ([]), aI ([.int l0, (.int 0), (.int 0)]), aI ([.int 0, (.int 0), (.int 0)]), aI ([.int (Int32.ofNat (0)), (.int 0), (.int 0)]), aJ ([.long (mkM (32)), (.long 0), (.long 0)])]) hs1 hg1) (t168 hw) (t169 hw) (t170 hw) (t171 hw) (by decide) pd8 d12_116 (by decide) rfl rfl rfl rfl (Nat.le_of_eq rfl) rfl ?_
  intro T v L' hQ w
  obtain ⟨b1, rfl, hb1, hx1, hL⟩ := hQ
  replace hL := hL.symm
  subst hL
  dsimp only [oS, oN, cA, nA]
  obtain rfl : b1 = 32 := full32 hfull1 hx1 hb1
  refine s_isub (pc' := 120) w d12_119 rfl ?_
  rw [b_sub (by decide : 32 ≤ 32)]
  refine s_istore (pc' := 122) (ls' := #[vR (n0 + (N + 0)), vR (n0 + kA), vI (3 : Int32), vI (0 : Int32), vI (Int32.ofNat 32), vI (1 : Int32), vR (n0 + v1), vJ (u1.toInt64 - l1.toInt64), sc, vI (Int32.ofNat (32))]) w d12_120 rfl rfl ?_
  refine s_iload (pc' := 124) w d12_122 rfl rfl ?_
  refine s_iload (pc' := 126) w d12_124 rfl rfl ?_
  refine s_iadd (pc' := 127) w d12_126 rfl ?_
  rw [b_add]
  refine s_bipush (pc' := 129) (64 : Int32) w d12_127 (by decide) rfl ?_
  refine s_icmpY (pc' := 138) w d12_129 (Jvm.Free.XT.ii_le_t (by decide)) (by decide) (by decide) ?_
  refine s_aloadN (pc' := 139) w d12_138 rfl rfl rfl ?_
  refine s_getL (pc' := 142) (host := "") w (Or.inl (t127 hw)) Via.refl (Lk.new (lk_suf hN rfl)) (j := 4) rfl rfl d12_139 rfl ?_
  intro T w
  refine s_iload (pc' := 144) w d12_142 rfl rfl ?_
  refine s_aload (pc' := 146) w d12_144 rfl rfl rfl ?_
  refine s_virtual (pc' := 149) (rest := [(.int (1 : Int32)), (.ref (n0 + (N + 4)))]) 2 [] w (c_low hw l h0 n0 (n0 + v1) na1 ty1 (.int u1) ini1 pos1 l1 (Pre ++ [o2 (.ref (n0 + (N + 1))) (.int 10) (.ref (n0 + (N + 2))) (.ref (n0 + (N + 3))) (.ref (n0 + (N + 4))) (.ref (n0 + (N + 5))) (.ref (n0 + (N + 6))) (.ref (n0 + (N + 7))) (.int 0) .null, aJ ([]), aI (List.replicate 1024 (.int (-1))), aI ([]), aI ([.int l0, (.int 0), (.int 0)]), aI ([.int 0, (.int 0), (.int 0)]), aI ([.int (Int32.ofNat (0)), (.int 0), (.int 0)]), aJ ([.long (mkM (32)), (.long 0), (.long 0)])]) (Lk.new (lk_app pV1))) (Lk.new (lk_app pV1)) (t163 hw) (t164 hw) (w.notFace (t166 hw)) (t166 hw) (t165 hw) (t28 hw) (t167 hw) (by decide) pd11 d12_146 (by decide) rfl rfl rfl rfl (Nat.le_of_eq rfl) rfl ?_
  intro T v L' hQ w
  obtain ⟨rfl, hL⟩ := hQ
  replace hL := hL.symm
  subst hL
  dsimp only [oS, oN, cA, nA]
  refine s_iastore (pc' := 150) (k := (N + 4)) w (lk_suf hN rfl) d12_149 (by decide) (leB rfl) rfl ?_
  intro T w
  rw [set_suf hN] at w
  replace w : St p l e _ s m _ below meth c Z _ _ _ _ h0 n0 T (Pre ++ [o2 (.ref (n0 + (N + 1))) (.int 10) (.ref (n0 + (N + 2))) (.ref (n0 + (N + 3))) (.ref (n0 + (N + 4))) (.ref (n0 + (N + 5))) (.ref (n0 + (N + 6))) (.ref (n0 + (N + 7))) (.int 0) .null, aJ ([]), aI (List.replicate 1024 (.int (-1))), aI ([]), aI ([.int l0, .int l1, (.int 0)]), aI ([.int 0, (.int 0), (.int 0)]), aI ([.int (Int32.ofNat (0)), (.int 0), (.int 0)]), aJ ([.long (mkM (32)), (.long 0), (.long 0)])]) 7 1036 := w
  refine s_aloadN (pc' := 151) w d12_150 rfl rfl rfl ?_
  refine s_getL (pc' := 154) (host := "") w (Or.inl (t129 hw)) Via.refl (Lk.new (lk_suf hN rfl)) (j := 5) rfl rfl d12_151 rfl ?_
  intro T w
  refine s_iload (pc' := 156) w d12_154 rfl rfl ?_
  refine s_iloadN (pc' := 157) w d12_156 rfl rfl ?_
  refine s_iastore (pc' := 158) (k := (N + 5)) w (lk_suf hN rfl) d12_157 (by decide) (leB rfl) rfl ?_
  intro T w
  rw [set_suf hN] at w
  replace w : St p l e _ s m _ below meth c Z _ _ _ _ h0 n0 T (Pre ++ [o2 (.ref (n0 + (N + 1))) (.int 10) (.ref (n0 + (N + 2))) (.ref (n0 + (N + 3))) (.ref (n0 + (N + 4))) (.ref (n0 + (N + 5))) (.ref (n0 + (N + 6))) (.ref (n0 + (N + 7))) (.int 0) .null, aJ ([]), aI (List.replicate 1024 (.int (-1))), aI ([]), aI ([.int l0, .int l1, (.int 0)]), aI ([.int 0, .int 0, (.int 0)]), aI ([.int (Int32.ofNat (0)), (.int 0), (.int 0)]), aJ ([.long (mkM (32)), (.long 0), (.long 0)])]) 7 1036 := w
  refine s_aloadN (pc' := 159) w d12_158 rfl rfl rfl ?_
  refine s_getL (pc' := 162) (host := "") w (Or.inl (t131 hw)) Via.refl (Lk.new (lk_suf hN rfl)) (j := 6) rfl rfl d12_159 rfl ?_
  intro T w
  refine s_iload (pc' := 164) w d12_162 rfl rfl ?_
  refine s_iload (pc' := 166) w d12_164 rfl rfl ?_
  refine s_iastore (pc' := 167) (k := (N + 6)) w (lk_suf hN rfl) d12_166 (by decide) (leB rfl) rfl ?_
  intro T w
  rw [set_suf hN] at w
  replace w : St p l e _ s m _ below meth c Z _ _ _ _ h0 n0 T (Pre ++ [o2 (.ref (n0 + (N + 1))) (.int 10) (.ref (n0 + (N + 2))) (.ref (n0 + (N + 3))) (.ref (n0 + (N + 4))) (.ref (n0 + (N + 5))) (.ref (n0 + (N + 6))) (.ref (n0 + (N + 7))) (.int 0) .null, aJ ([]), aI (List.replicate 1024 (.int (-1))), aI ([]), aI ([.int l0, .int l1, (.int 0)]), aI ([.int 0, .int 0, (.int 0)]), aI ([.int (Int32.ofNat (0)), .int (Int32.ofNat (32)), (.int 0)]), aJ ([.long (mkM (32)), (.long 0), (.long 0)])]) 7 1036 := w
  refine s_aloadN (pc' := 168) w d12_167 rfl rfl rfl ?_
  refine s_getL (pc' := 171) (host := "") w (Or.inl (t133 hw)) Via.refl (Lk.new (lk_suf hN rfl)) (j := 7) rfl rfl d12_168 rfl ?_
  intro T w
  refine s_iload (pc' := 173) w d12_171 rfl rfl ?_
  refine s_lconst (pc' := 174) (1 : Int64) w d12_173 (by decide) rfl ?_
  refine s_iload (pc' := 176) w d12_174 rfl rfl ?_
  refine s_lshl (pc' := 177) w d12_176 rfl ?_
  refine s_lconst (pc' := 178) (1 : Int64) w d12_177 (by decide) rfl ?_
  refine s_lsub (pc' := 179) w d12_178 rfl ?_
  refine s_lastore (pc' := 180) (k := (N + 7)) w (lk_suf hN rfl) d12_179 (by decide) (leB rfl) rfl ?_
  intro T w
  rw [set_suf hN] at w
  replace w : St p l e _ s m _ below meth c Z _ _ _ _ h0 n0 T (Pre ++ [o2 (.ref (n0 + (N + 1))) (.int 10) (.ref (n0 + (N + 2))) (.ref (n0 + (N + 3))) (.ref (n0 + (N + 4))) (.ref (n0 + (N + 5))) (.ref (n0 + (N + 6))) (.ref (n0 + (N + 7))) (.int 0) .null, aJ ([]), aI (List.replicate 1024 (.int (-1))), aI ([]), aI ([.int l0, .int l1, (.int 0)]), aI ([.int 0, .int 0, (.int 0)]), aI ([.int (Int32.ofNat (0)), .int (Int32.ofNat (32)), (.int 0)]), aJ ([.long (mkM (32)), .long (mkM (32)), (.long 0)])]) 7 1036 := w
  refine s_iload (pc' := 182) w d12_180 rfl rfl ?_
  refine s_iload (pc' := 184) w d12_182 rfl rfl ?_
  refine s_iadd (pc' := 185) w d12_184 rfl ?_
  rw [b_add]
  refine s_istore (pc' := 187) (ls' := #[vR (n0 + (N + 0)), vR (n0 + kA), vI (3 : Int32), vI (0 : Int32), vI (Int32.ofNat (32 + 32)), vI (1 : Int32), vR (n0 + v1), vJ (u1.toInt64 - l1.toInt64), sc, vI (Int32.ofNat (32))]) w d12_185 rfl rfl ?_
  refine s_iinc (pc' := 190) (ls' := #[vR (n0 + (N + 0)), vR (n0 + kA), vI (3 : Int32), vI (0 : Int32), vI (Int32.ofNat (32 + 32)), vI ((1 : Int32) + (1 : Int32)), vR (n0 + v1), vJ (u1.toInt64 - l1.toInt64), sc, vI (Int32.ofNat (32))]) (1 : Int32) w d12_187 (by decide) rfl rfl rfl ?_
  rw [show (1 : Int32) + 1 = 2 by decide]
  refine s_goto (pc' := 78) w d12_190 (by decide) (by decide) ?_
  change Go p e below _ T (mkF m 78 #[vR (n0 + (N + 0)), vR (n0 + kA), vI (3 : Int32), vI (0 : Int32), vI (Int32.ofNat 64), vI (2 : Int32), vR (n0 + v1), vJ (u1.toInt64 - l1.toInt64), sc, vI (Int32.ofNat (32))] [])
  refine s_iload (pc' := 80) w d12_78 rfl rfl ?_
  refine s_iloadN (pc' := 81) w d12_80 rfl rfl ?_
  refine s_icmpN (pc' := 84) w d12_81 (Jvm.Free.XT.ii_ge_f (by decide)) rfl ?_
  refine s_aloadN (pc' := 85) w d12_84 rfl rfl rfl ?_
  refine s_iload (pc' := 87) w d12_85 rfl rfl ?_
  refine s_face (pc' := 92) (rest := []) 0 [(.int (2 : Int32))] w (c_get hw l h0 n0 (n0 + kA) (n0 + kE) mc 3 2 es (n0 + v2) (Pre ++ [o2 (.ref (n0 + (N + 1))) (.int 10) (.ref (n0 + (N + 2))) (.ref (n0 + (N + 3))) (.ref (n0 + (N + 4))) (.ref (n0 + (N + 5))) (.ref (n0 + (N + 6))) (.ref (n0 + (N + 7))) (.int 0) .null, aJ ([]), aI (List.replicate 1024 (.int (-1))), aI ([]), aI ([.int l0, .int l1, (.int 0)]), aI ([.int 0, .int 0, (.int 0)]), aI ([.int (Int32.ofNat (0)), .int (Int32.ofNat (32)), (.int 0)]), aJ ([.long (mkM (32)), .long (mkM (32)), (.long 0)])]) (Lk.new (lk_app pA)) (Lk.new (lk_app pE)) (by decide) he2 (by decide)) (Lk.new (lk_app pA)) (t135 hw) (t136 hw) (t137 hw) (t138 hw) (t139 hw) (t140 hw) (t141 hw) (t125 hw) (t2 hw) (t142 hw) (by decide) pd6 d12_87 (by decide) rfl rfl rfl rfl (Nat.le_of_eq rfl) rfl ?_
  intro T v L' hQ w
  obtain ⟨rfl, hL⟩ := hQ
  replace hL := hL.symm
  subst hL
  dsimp only [oS, oN, cA, nA]
  refine s_checkcast (pc' := 95) w (t156 hw) (Lk.new (lk_app pV2)) (Or.inl rfl) d12_92 rfl ?_
  intro T w
  refine s_astore (pc' := 97) (ls' := #[vR (n0 + (N + 0)), vR (n0 + kA), vI (3 : Int32), vI (0 : Int32), vI (Int32.ofNat 64), vI (2 : Int32), vR (n0 + v2), vJ (u1.toInt64 - l1.toInt64), sc, vI (Int32.ofNat (32))]) w d12_95 rfl rfl rfl ?_
  refine s_aload (pc' := 99) w d12_97 rfl rfl rfl ?_
  refine s_virtual (pc' := 102) (rest := []) 0 [] w (c_high hw l h0 n0 (n0 + v2) na2 ty2 (.int l2) ini2 pos2 u2 (Pre ++ [o2 (.ref (n0 + (N + 1))) (.int 10) (.ref (n0 + (N + 2))) (.ref (n0 + (N + 3))) (.ref (n0 + (N + 4))) (.ref (n0 + (N + 5))) (.ref (n0 + (N + 6))) (.ref (n0 + (N + 7))) (.int 0) .null, aJ ([]), aI (List.replicate 1024 (.int (-1))), aI ([]), aI ([.int l0, .int l1, (.int 0)]), aI ([.int 0, .int 0, (.int 0)]), aI ([.int (Int32.ofNat (0)), .int (Int32.ofNat (32)), (.int 0)]), aJ ([.long (mkM (32)), .long (mkM (32)), (.long 0)])]) (Lk.new (lk_app pV2))) (Lk.new (lk_app pV2)) (t158 hw) (t159 hw) (w.notFace (t161 hw)) (t161 hw) (t160 hw) (t28 hw) (t162 hw) (by decide) pd11 d12_99 (by decide) rfl rfl rfl rfl (Nat.le_of_eq rfl) rfl ?_
  intro T v L' hQ w
  obtain ⟨rfl, hL⟩ := hQ
  replace hL := hL.symm
  subst hL
  dsimp only [oS, oN, cA, nA]
  refine s_i2l (pc' := 103) w d12_102 rfl ?_
  refine s_aload (pc' := 105) w d12_103 rfl rfl rfl ?_
  refine s_virtual (pc' := 108) (rest := [(.long u2.toInt64)]) 2 [] w (c_low hw l h0 n0 (n0 + v2) na2 ty2 (.int u2) ini2 pos2 l2 (Pre ++ [o2 (.ref (n0 + (N + 1))) (.int 10) (.ref (n0 + (N + 2))) (.ref (n0 + (N + 3))) (.ref (n0 + (N + 4))) (.ref (n0 + (N + 5))) (.ref (n0 + (N + 6))) (.ref (n0 + (N + 7))) (.int 0) .null, aJ ([]), aI (List.replicate 1024 (.int (-1))), aI ([]), aI ([.int l0, .int l1, (.int 0)]), aI ([.int 0, .int 0, (.int 0)]), aI ([.int (Int32.ofNat (0)), .int (Int32.ofNat (32)), (.int 0)]), aJ ([.long (mkM (32)), .long (mkM (32)), (.long 0)])]) (Lk.new (lk_app pV2))) (Lk.new (lk_app pV2)) (t163 hw) (t164 hw) (w.notFace (t166 hw)) (t166 hw) (t165 hw) (t28 hw) (t167 hw) (by decide) pd11 d12_105 (by decide) rfl rfl rfl rfl (Nat.le_of_eq rfl) rfl ?_
  intro T v L' hQ w
  obtain ⟨rfl, hL⟩ := hQ
  replace hL := hL.symm
  subst hL
  dsimp only [oS, oN, cA, nA]
  refine s_i2l (pc' := 109) w d12_108 rfl ?_
  refine s_lsub (pc' := 110) w d12_109 rfl ?_
  refine s_lstore (pc' := 112) (ls' := #[vR (n0 + (N + 0)), vR (n0 + kA), vI (3 : Int32), vI (0 : Int32), vI (Int32.ofNat 64), vI (2 : Int32), vR (n0 + v2), vJ (u2.toInt64 - l2.toInt64), sc, vI (Int32.ofNat (32))]) w d12_110 rfl rfl ?_
  refine s_bipush (pc' := 114) (64 : Int32) w d12_112 (by decide) rfl ?_
  refine s_lload (pc' := 116) w d12_114 rfl rfl ?_
  refine s_static (pc' := 119) (rest := [(.int (64 : Int32))]) 1 [(.long (u2.toInt64 - l2.toInt64))] w (c_nlz64 hw l h0 n0 (u2.toInt64 - l2.toInt64) (Pre ++ [o2 (.ref (n0 + (N + 1))) (.int 10) (.ref (n0 + (N + 2))) (.ref (n0 + (N + 3))) (.ref (n0 + (N + 4))) (.ref (n0 + (N + 5))) (.ref (n0 + (N + 6))) (.ref (n0 + (N + 7))) (.int 0) .null, aJ ([]), aI (List.replicate 1024 (.int (-1))), aI ([]), aI ([.int l0, .int l1, (.int 0)]), aI ([.int 0, .int 0, (.int 0)]), aI ([.int (Int32.ofNat (0)), .int (Int32.ofNat (32)), (.int 0)]), aJ ([.long (mkM (32)), .long (mkM (32)), (.long 0)])]) hs2 hg2) (t168 hw) (t169 hw) (t170 hw) (t171 hw) (by decide) pd8 d12_116 (by decide) rfl rfl rfl rfl (Nat.le_of_eq rfl) rfl ?_
  intro T v L' hQ w
  obtain ⟨b2, rfl, hb2, hx2, hL⟩ := hQ
  replace hL := hL.symm
  subst hL
  dsimp only [oS, oN, cA, nA]
  obtain rfl : b2 = 32 := full32 hfull2 hx2 hb2
  refine s_isub (pc' := 120) w d12_119 rfl ?_
  rw [b_sub (by decide : 32 ≤ 32)]
  refine s_istore (pc' := 122) (ls' := #[vR (n0 + (N + 0)), vR (n0 + kA), vI (3 : Int32), vI (0 : Int32), vI (Int32.ofNat 64), vI (2 : Int32), vR (n0 + v2), vJ (u2.toInt64 - l2.toInt64), sc, vI (Int32.ofNat (32))]) w d12_120 rfl rfl ?_
  refine s_iload (pc' := 124) w d12_122 rfl rfl ?_
  refine s_iload (pc' := 126) w d12_124 rfl rfl ?_
  refine s_iadd (pc' := 127) w d12_126 rfl ?_
  rw [b_add]
  refine s_bipush (pc' := 129) (64 : Int32) w d12_127 (by decide) rfl ?_
  refine s_icmpN (pc' := 132) w d12_129 (Jvm.Free.XT.ii_le_f (by decide)) rfl ?_
  refine s_iinc (pc' := 135) (ls' := #[vR (n0 + (N + 0)), vR (n0 + kA), vI (3 : Int32), vI ((0 : Int32) + (1 : Int32)), vI (Int32.ofNat 64), vI (2 : Int32), vR (n0 + v2), vJ (u2.toInt64 - l2.toInt64), sc, vI (Int32.ofNat (32))]) (1 : Int32) w d12_132 (by decide) rfl rfl rfl ?_
  rw [show (0 : Int32) + 1 = 1 by decide]
  refine s_iconst (pc' := 136) (0 : Int32) w d12_135 (by decide) rfl ?_
  change Go p e below _ T (mkF m 136 #[vR (n0 + (N + 0)), vR (n0 + kA), vI (3 : Int32), vI (1 : Int32), vI (Int32.ofNat 64), vI (2 : Int32), vR (n0 + v2), vJ (u2.toInt64 - l2.toInt64), sc, vI (Int32.ofNat (32))] [(.int (Int32.ofNat 0))])
  refine s_istore (pc' := 138) (ls' := #[vR (n0 + (N + 0)), vR (n0 + kA), vI (3 : Int32), vI (1 : Int32), vI (Int32.ofNat 0), vI (2 : Int32), vR (n0 + v2), vJ (u2.toInt64 - l2.toInt64), sc, vI (Int32.ofNat (32))]) w d12_136 rfl rfl ?_
  refine s_aloadN (pc' := 139) w d12_138 rfl rfl rfl ?_
  refine s_getL (pc' := 142) (host := "") w (Or.inl (t127 hw)) Via.refl (Lk.new (lk_suf hN rfl)) (j := 4) rfl rfl d12_139 rfl ?_
  intro T w
  refine s_iload (pc' := 144) w d12_142 rfl rfl ?_
  refine s_aload (pc' := 146) w d12_144 rfl rfl rfl ?_
  refine s_virtual (pc' := 149) (rest := [(.int (2 : Int32)), (.ref (n0 + (N + 4)))]) 2 [] w (c_low hw l h0 n0 (n0 + v2) na2 ty2 (.int u2) ini2 pos2 l2 (Pre ++ [o2 (.ref (n0 + (N + 1))) (.int 10) (.ref (n0 + (N + 2))) (.ref (n0 + (N + 3))) (.ref (n0 + (N + 4))) (.ref (n0 + (N + 5))) (.ref (n0 + (N + 6))) (.ref (n0 + (N + 7))) (.int 0) .null, aJ ([]), aI (List.replicate 1024 (.int (-1))), aI ([]), aI ([.int l0, .int l1, (.int 0)]), aI ([.int 0, .int 0, (.int 0)]), aI ([.int (Int32.ofNat (0)), .int (Int32.ofNat (32)), (.int 0)]), aJ ([.long (mkM (32)), .long (mkM (32)), (.long 0)])]) (Lk.new (lk_app pV2))) (Lk.new (lk_app pV2)) (t163 hw) (t164 hw) (w.notFace (t166 hw)) (t166 hw) (t165 hw) (t28 hw) (t167 hw) (by decide) pd11 d12_146 (by decide) rfl rfl rfl rfl (Nat.le_of_eq rfl) rfl ?_
  intro T v L' hQ w
  obtain ⟨rfl, hL⟩ := hQ
  replace hL := hL.symm
  subst hL
  dsimp only [oS, oN, cA, nA]
  refine s_iastore (pc' := 150) (k := (N + 4)) w (lk_suf hN rfl) d12_149 (by decide) (leB rfl) rfl ?_
  intro T w
  rw [set_suf hN] at w
  replace w : St p l e _ s m _ below meth c Z _ _ _ _ h0 n0 T (Pre ++ [o2 (.ref (n0 + (N + 1))) (.int 10) (.ref (n0 + (N + 2))) (.ref (n0 + (N + 3))) (.ref (n0 + (N + 4))) (.ref (n0 + (N + 5))) (.ref (n0 + (N + 6))) (.ref (n0 + (N + 7))) (.int 0) .null, aJ ([]), aI (List.replicate 1024 (.int (-1))), aI ([]), aI ([.int l0, .int l1, .int l2]), aI ([.int 0, .int 0, (.int 0)]), aI ([.int (Int32.ofNat (0)), .int (Int32.ofNat (32)), (.int 0)]), aJ ([.long (mkM (32)), .long (mkM (32)), (.long 0)])]) 7 1036 := w
  refine s_aloadN (pc' := 151) w d12_150 rfl rfl rfl ?_
  refine s_getL (pc' := 154) (host := "") w (Or.inl (t129 hw)) Via.refl (Lk.new (lk_suf hN rfl)) (j := 5) rfl rfl d12_151 rfl ?_
  intro T w
  refine s_iload (pc' := 156) w d12_154 rfl rfl ?_
  refine s_iloadN (pc' := 157) w d12_156 rfl rfl ?_
  refine s_iastore (pc' := 158) (k := (N + 5)) w (lk_suf hN rfl) d12_157 (by decide) (leB rfl) rfl ?_
  intro T w
  rw [set_suf hN] at w
  replace w : St p l e _ s m _ below meth c Z _ _ _ _ h0 n0 T (Pre ++ [o2 (.ref (n0 + (N + 1))) (.int 10) (.ref (n0 + (N + 2))) (.ref (n0 + (N + 3))) (.ref (n0 + (N + 4))) (.ref (n0 + (N + 5))) (.ref (n0 + (N + 6))) (.ref (n0 + (N + 7))) (.int 0) .null, aJ ([]), aI (List.replicate 1024 (.int (-1))), aI ([]), aI ([.int l0, .int l1, .int l2]), aI ([.int 0, .int 0, .int 1]), aI ([.int (Int32.ofNat (0)), .int (Int32.ofNat (32)), (.int 0)]), aJ ([.long (mkM (32)), .long (mkM (32)), (.long 0)])]) 7 1036 := w
  refine s_aloadN (pc' := 159) w d12_158 rfl rfl rfl ?_
  refine s_getL (pc' := 162) (host := "") w (Or.inl (t131 hw)) Via.refl (Lk.new (lk_suf hN rfl)) (j := 6) rfl rfl d12_159 rfl ?_
  intro T w
  refine s_iload (pc' := 164) w d12_162 rfl rfl ?_
  refine s_iload (pc' := 166) w d12_164 rfl rfl ?_
  refine s_iastore (pc' := 167) (k := (N + 6)) w (lk_suf hN rfl) d12_166 (by decide) (leB rfl) rfl ?_
  intro T w
  rw [set_suf hN] at w
  replace w : St p l e _ s m _ below meth c Z _ _ _ _ h0 n0 T (Pre ++ [o2 (.ref (n0 + (N + 1))) (.int 10) (.ref (n0 + (N + 2))) (.ref (n0 + (N + 3))) (.ref (n0 + (N + 4))) (.ref (n0 + (N + 5))) (.ref (n0 + (N + 6))) (.ref (n0 + (N + 7))) (.int 0) .null, aJ ([]), aI (List.replicate 1024 (.int (-1))), aI ([]), aI ([.int l0, .int l1, .int l2]), aI ([.int 0, .int 0, .int 1]), aI ([.int (Int32.ofNat (0)), .int (Int32.ofNat (32)), .int (Int32.ofNat (0))]), aJ ([.long (mkM (32)), .long (mkM (32)), (.long 0)])]) 7 1036 := w
  refine s_aloadN (pc' := 168) w d12_167 rfl rfl rfl ?_
  refine s_getL (pc' := 171) (host := "") w (Or.inl (t133 hw)) Via.refl (Lk.new (lk_suf hN rfl)) (j := 7) rfl rfl d12_168 rfl ?_
  intro T w
  refine s_iload (pc' := 173) w d12_171 rfl rfl ?_
  refine s_lconst (pc' := 174) (1 : Int64) w d12_173 (by decide) rfl ?_
  refine s_iload (pc' := 176) w d12_174 rfl rfl ?_
  refine s_lshl (pc' := 177) w d12_176 rfl ?_
  refine s_lconst (pc' := 178) (1 : Int64) w d12_177 (by decide) rfl ?_
  refine s_lsub (pc' := 179) w d12_178 rfl ?_
  refine s_lastore (pc' := 180) (k := (N + 7)) w (lk_suf hN rfl) d12_179 (by decide) (leB rfl) rfl ?_
  intro T w
  rw [set_suf hN] at w
  replace w : St p l e _ s m _ below meth c Z _ _ _ _ h0 n0 T (Pre ++ [o2 (.ref (n0 + (N + 1))) (.int 10) (.ref (n0 + (N + 2))) (.ref (n0 + (N + 3))) (.ref (n0 + (N + 4))) (.ref (n0 + (N + 5))) (.ref (n0 + (N + 6))) (.ref (n0 + (N + 7))) (.int 0) .null, aJ ([]), aI (List.replicate 1024 (.int (-1))), aI ([]), aI ([.int l0, .int l1, .int l2]), aI ([.int 0, .int 0, .int 1]), aI ([.int (Int32.ofNat (0)), .int (Int32.ofNat (32)), .int (Int32.ofNat (0))]), aJ ([.long (mkM (32)), .long (mkM (32)), .long (mkM (32))])]) 7 1036 := w
  refine s_iload (pc' := 182) w d12_180 rfl rfl ?_
  refine s_iload (pc' := 184) w d12_182 rfl rfl ?_
  refine s_iadd (pc' := 185) w d12_184 rfl ?_
  rw [b_add]
  refine s_istore (pc' := 187) (ls' := #[vR (n0 + (N + 0)), vR (n0 + kA), vI (3 : Int32), vI (1 : Int32), vI (Int32.ofNat (0 + 32)), vI (2 : Int32), vR (n0 + v2), vJ (u2.toInt64 - l2.toInt64), sc, vI (Int32.ofNat (32))]) w d12_185 rfl rfl ?_
  refine s_iinc (pc' := 190) (ls' := #[vR (n0 + (N + 0)), vR (n0 + kA), vI (3 : Int32), vI (1 : Int32), vI (Int32.ofNat (0 + 32)), vI ((2 : Int32) + (1 : Int32)), vR (n0 + v2), vJ (u2.toInt64 - l2.toInt64), sc, vI (Int32.ofNat (32))]) (1 : Int32) w d12_187 (by decide) rfl rfl rfl ?_
  rw [show (2 : Int32) + 1 = 3 by decide]
  refine s_goto (pc' := 78) w d12_190 (by decide) (by decide) ?_
  change Go p e below _ T (mkF m 78 #[vR (n0 + (N + 0)), vR (n0 + kA), vI (3 : Int32), vI (1 : Int32), vI (Int32.ofNat 32), vI (3 : Int32), vR (n0 + v2), vJ (u2.toInt64 - l2.toInt64), sc, vI (Int32.ofNat (32))] [])
  refine s_iload (pc' := 80) w d12_78 rfl rfl ?_
  refine s_iloadN (pc' := 81) w d12_80 rfl rfl ?_
  refine s_icmpY (pc' := 193) w d12_81 (Jvm.Free.XT.ii_ge_t (by decide)) (by decide) (by decide) ?_
  refine s_aloadN (pc' := 194) w d12_193 rfl rfl rfl ?_
  refine s_iloadN (pc' := 195) w d12_194 rfl rfl ?_
  refine s_iconst (pc' := 196) (1 : Int32) w d12_195 (by decide) rfl ?_
  refine s_iadd (pc' := 197) w d12_196 rfl ?_
  rw [show (1 : Int32) + 1 = 2 by decide]
  refine s_put (pc' := 200) (host := "") (k := (N + 0)) w (Or.inl (t176 hw)) Via.refl (cls2 hw) (lk_suf hN rfl) (j := 8) rfl (leB rfl) (Or.inr ⟨(t177 hw), rfl, rfl⟩) (ty := .int) (by decide +kernel) rfl rfl d12_197 rfl ?_
  intro T w
  rw [set_suf hN] at w
  replace w : St p l e _ s m _ below meth c Z _ _ _ _ h0 n0 T (Pre ++ [o2 (.ref (n0 + (N + 1))) (.int 10) (.ref (n0 + (N + 2))) (.ref (n0 + (N + 3))) (.ref (n0 + (N + 4))) (.ref (n0 + (N + 5))) (.ref (n0 + (N + 6))) (.ref (n0 + (N + 7))) (.int 2) .null, aJ ([]), aI (List.replicate 1024 (.int (-1))), aI ([]), aI ([.int l0, .int l1, .int l2]), aI ([.int 0, .int 0, .int 1]), aI ([.int (Int32.ofNat (0)), .int (Int32.ofNat (32)), .int (Int32.ofNat (0))]), aJ ([.long (mkM (32)), .long (mkM (32)), .long (mkM (32))])]) 7 1036 := w
  refine s_aloadN (pc' := 201) w d12_200 rfl rfl rfl ?_
  refine s_aloadN (pc' := 202) w d12_201 rfl rfl rfl ?_
  refine s_getL (pc' := 205) (host := "") w (Or.inl (t176 hw)) Via.refl (Lk.new (lk_suf hN rfl)) (j := 8) rfl rfl d12_202 rfl ?_
  intro T w
  refine s_newarray (pc' := 207) (ty := .long) w (t98 hw) rfl (by intro C h; cases h) d12_205 (by decide) 2 (by decide) (by decide) (by decide) (by decide) (N + 8) (by rw [List.length_append, hN]; rfl) rfl ?_
  intro T w
  rw [List.append_assoc] at w
  replace w : St p l e _ s m _ below meth c Z _ _ _ _ h0 n0 T (Pre ++ [o2 (.ref (n0 + (N + 1))) (.int 10) (.ref (n0 + (N + 2))) (.ref (n0 + (N + 3))) (.ref (n0 + (N + 4))) (.ref (n0 + (N + 5))) (.ref (n0 + (N + 6))) (.ref (n0 + (N + 7))) (.int 2) .null, aJ ([]), aI (List.replicate 1024 (.int (-1))), aI ([]), aI ([.int l0, .int l1, .int l2]), aI ([.int 0, .int 0, .int 1]), aI ([.int (Int32.ofNat (0)), .int (Int32.ofNat (32)), .int (Int32.ofNat (0))]), aJ ([.long (mkM (32)), .long (mkM (32)), .long (mkM (32))]), aJ ([(.long 0), (.long 0)])]) 8 1038 := w
  refine s_put (pc' := 210) (host := "") (k := (N + 0)) w (Or.inl (t178 hw)) Via.refl (cls2 hw) (lk_suf hN rfl) (j := 9) rfl (leB rfl) (Or.inr ⟨(t179 hw), rfl, rfl⟩) (ty := (.array .long)) (by decide +kernel) rfl rfl d12_207 rfl ?_
  intro T w
  rw [set_suf hN] at w
  replace w : St p l e _ s m _ below meth c Z _ _ _ _ h0 n0 T (Pre ++ [o2 (.ref (n0 + (N + 1))) (.int 10) (.ref (n0 + (N + 2))) (.ref (n0 + (N + 3))) (.ref (n0 + (N + 4))) (.ref (n0 + (N + 5))) (.ref (n0 + (N + 6))) (.ref (n0 + (N + 7))) (.int 2) (.ref (n0 + (N + 8))), aJ ([]), aI (List.replicate 1024 (.int (-1))), aI ([]), aI ([.int l0, .int l1, .int l2]), aI ([.int 0, .int 0, .int 1]), aI ([.int (Int32.ofNat (0)), .int (Int32.ofNat (32)), .int (Int32.ofNat (0))]), aJ ([.long (mkM (32)), .long (mkM (32)), .long (mkM (32))]), aJ ([(.long 0), (.long 0)])]) 8 1038 := w
  exact s_return w d12_210 (by decide) (by decide) ⟨rfl, rfl⟩
set_option maxRecDepth 65536 in
set_option maxHeartbeats 40000000 in
theorem c_storeF5 {Z : State} {a0 : Array Value} (hw : Tw Z a0) (l : Launch) (h0 : Heap) (n0 : Nat) (Pre : List Ob) (N kA kE : Nat) (mc : Value) (es : List Value) (v0 : Nat) (l0 u0 : Int32) (na0 ty0 ini0 pos0 : Value) (v1 : Nat) (l1 u1 : Int32) (na1 ty1 ini1 pos1 : Value) (v2 : Nat) (l2 u2 : Int32) (na2 ty2 ini2 pos2 : Value) (v3 : Nat) (l3 u3 : Int32) (na3 ty3 ini3 pos3 : Value) (v4 : Nat) (l4 u4 : Int32) (na4 ty4 ini4 pos4 : Value) (hN : Pre.length = N) (pA : Pre[kA]? = some (o0 mc (.ref (n0 + kE)) (.int 5))) (pE : Pre[kE]? = some (aO (es))) (he0 : es[0]? = some (.ref (n0 + v0))) (pV0 : Pre[v0]? = some (o1 na0 ty0 (.int l0) (.int u0) ini0 pos0)) (hs0 : (u0.toInt64 - l0.toInt64).toBitVec.toNat < 2 ^ 32) (he1 : es[1]? = some (.ref (n0 + v1))) (pV1 : Pre[v1]? = some (o1 na1 ty1 (.int l1) (.int u1) ini1 pos1)) (hs1 : (u1.toInt64 - l1.toInt64).toBitVec.toNat < 2 ^ 32) (he2 : es[2]? = some (.ref (n0 + v2))) (pV2 : Pre[v2]? = some (o1 na2 ty2 (.int l2) (.int u2) ini2 pos2)) (hs2 : (u2.toInt64 - l2.toInt64).toBitVec.toNat < 2 ^ 32) (he3 : es[3]? = some (.ref (n0 + v3))) (pV3 : Pre[v3]? = some (o1 na3 ty3 (.int l3) (.int u3) ini3 pos3)) (hs3 : (u3.toInt64 - l3.toInt64).toBitVec.toNat < 2 ^ 32) (he4 : es[4]? = some (.ref (n0 + v4))) (pV4 : Pre[v4]? = some (o1 na4 ty4 (.int l4) (.int u4) ini4 pos4)) (hs4 : (u4.toInt64 - l4.toInt64).toBitVec.toNat < 2 ^ 32) (hf0 : 2 ^ 31 ≤ (u0.toInt64 - l0.toInt64).toBitVec.toNat) (hg0 : ¬ 0 < (u0.toInt64 - l0.toInt64).toInt32 ∧ ¬ (u0.toInt64 - l0.toInt64).toInt32 = 0) (hf1 : 2 ^ 31 ≤ (u1.toInt64 - l1.toInt64).toBitVec.toNat) (hg1 : ¬ 0 < (u1.toInt64 - l1.toInt64).toInt32 ∧ ¬ (u1.toInt64 - l1.toInt64).toInt32 = 0) (hf2 : 2 ^ 31 ≤ (u2.toInt64 - l2.toInt64).toBitVec.toNat) (hg2 : ¬ 0 < (u2.toInt64 - l2.toInt64).toInt32 ∧ ¬ (u2.toInt64 - l2.toInt64).toInt32 = 0) (hf3 : 2 ^ 31 ≤ (u3.toInt64 - l3.toInt64).toBitVec.toNat) (hg3 : ¬ 0 < (u3.toInt64 - l3.toInt64).toInt32 ∧ ¬ (u3.toInt64 - l3.toInt64).toInt32 = 0) (hf4 : 2 ^ 31 ≤ (u4.toInt64 - l4.toInt64).toBitVec.toNat) (hg4 : ¬ 0 < (u4.toInt64 - l4.toInt64).toInt32 ∧ ¬ (u4.toInt64 - l4.toInt64).toInt32 = 0) :
    Met1 l Z (⟨"com/example/ryazan/ryazan/statespace/StateStore", "<init>", "(Ljava/util/List;)V"⟩ : MethodName) prog_197_method_1_code 10 none ({ frames := 3, cells := 8, slots := 1047, locals := 40 } : Room) #[(.ref (n0 + (N + 0))), (.ref (n0 + kA))] h0 n0 (Pre ++ [o2 .null (.int 0) .null .null .null .null .null .null (.int 0) .null]) (fun v L => v = none ∧ L = Pre ++ [o2 (.ref (n0 + (N + 1))) (.int 10) (.ref (n0 + (N + 2))) (.ref (n0 + (N + 3))) (.ref (n0 + (N + 4))) (.ref (n0 + (N + 5))) (.ref (n0 + (N + 6))) (.ref (n0 + (N + 7))) (.int 3) (.ref (n0 + (N + 8))), aJ ([]), aI (List.replicate 1024 (.int (-1))), aI ([]), aI ([.int l0, .int l1, .int l2, .int l3, .int l4]), aI ([.int 0, .int 0, .int 1, .int 1, .int 2]), aI ([.int (Int32.ofNat (0)), .int (Int32.ofNat (32)), .int (Int32.ofNat (0)), .int (Int32.ofNat (32)), .int (Int32.ofNat (0))]), aJ ([.long (mkM (32)), .long (mkM (32)), .long (mkM (32)), .long (mkM (32)), .long (mkM (32))]), aJ ([.long 0, .long 0, .long 0])]) [] := by
  refine Met1.of (ls := #[vR (n0 + (N + 0)), vR (n0 + kA), un, un, un, un, un, un, un, un]) (plainFor_of_name pn10) (fun m => by first | (simp [entryFrame, mkF, argsToLocals, Value.category]; done) | rfl) ?_
  intro p e s m below meth c T w
  refine s_aloadN (pc' := 1) w d12_0 rfl rfl rfl ?_
  refine s_initO (pc' := 4) 0 w (t97 hw) (t19 hw) (t20 hw) d12_1 rfl (by decide) (Nat.le_of_eq rfl) (by decide) rfl ?_
  intro T w
  refine s_aloadN (pc' := 5) w d12_4 rfl rfl rfl ?_
  refine s_iconst (pc' := 6) (0 : Int32) w d12_5 (by decide) rfl ?_
  refine s_newarray (pc' := 8) (ty := .long) w (t98 hw) rfl (by intro C h; cases h) d12_6 (by decide) 0 (by decide) (by decide) (by decide) (by decide) (N + 1) (by rw [List.length_append, hN]; rfl) rfl ?_
  intro T w
  rw [List.append_assoc] at w
  replace w : St p l e _ s m _ below meth c Z _ _ _ _ h0 n0 T (Pre ++ [o2 .null (.int 0) .null .null .null .null .null .null (.int 0) .null, aJ ([])]) 1 0 := w
  refine s_put (pc' := 11) (host := "") (k := (N + 0)) w (Or.inl (t99 hw)) Via.refl (cls2 hw) (lk_suf hN rfl) (j := 0) rfl (leB rfl) (Or.inl (t100 hw)) (ty := (.array .long)) (by decide +kernel) rfl rfl d12_8 rfl ?_
  intro T w
  rw [set_suf hN] at w
  replace w : St p l e _ s m _ below meth c Z _ _ _ _ h0 n0 T (Pre ++ [o2 (.ref (n0 + (N + 1))) (.int 0) .null .null .null .null .null .null (.int 0) .null, aJ ([])]) 1 0 := w
  refine s_aloadN (pc' := 12) w d12_11 rfl rfl rfl ?_
  refine s_bipush (pc' := 14) (10 : Int32) w d12_12 (by decide) rfl ?_
  refine s_put (pc' := 17) (host := "") (k := (N + 0)) w (Or.inl (t101 hw)) Via.refl (cls2 hw) (lk_suf hN rfl) (j := 1) rfl (leB rfl) (Or.inl (t102 hw)) (ty := .int) (by decide +kernel) rfl rfl d12_14 rfl ?_
  intro T w
  rw [set_suf hN] at w
  replace w : St p l e _ s m _ below meth c Z _ _ _ _ h0 n0 T (Pre ++ [o2 (.ref (n0 + (N + 1))) (.int 10) .null .null .null .null .null .null (.int 0) .null, aJ ([])]) 1 0 := w
  refine s_aloadN (pc' := 18) w d12_17 rfl rfl rfl ?_
  refine s_aloadN (pc' := 19) w d12_18 rfl rfl rfl ?_
  refine s_getL (pc' := 22) (host := "") w (Or.inl (t101 hw)) Via.refl (Lk.new (lk_suf hN rfl)) (j := 1) rfl rfl d12_19 rfl ?_
  intro T w
  refine s_static (pc' := 25) (rest := [(.ref (n0 + (N + 0)))]) 1 [(.int (10 : Int32))] w (c_empty hw l h0 n0 (Pre ++ [o2 (.ref (n0 + (N + 1))) (.int 10) .null .null .null .null .null .null (.int 0) .null, aJ ([])])) (t103 hw) (t104 hw) (t93 hw) (t105 hw) (by decide) pd10 d12_22 (by decide) rfl rfl rfl rfl (Nat.le_of_eq rfl) rfl ?_
  intro T v L' hQ w
  obtain ⟨rfl, hM⟩ := hQ
  rw [hM, List.append_assoc] at w
  clear hM
  rw [show (Pre ++ [o2 (.ref (n0 + (N + 1))) (.int 10) .null .null .null .null .null .null (.int 0) .null, aJ ([])]).length = N + 2 by rw [List.length_append, hN]; rfl]
  dsimp only [oS, oN, cA, nA]
  replace w : St p l e _ s m _ below meth c Z _ _ _ _ h0 n0 T (Pre ++ [o2 (.ref (n0 + (N + 1))) (.int 10) .null .null .null .null .null .null (.int 0) .null, aJ ([]), aI (List.replicate 1024 (.int (-1)))]) 2 1024 := w
  refine s_put (pc' := 28) (host := "") (k := (N + 0)) w (Or.inl (t114 hw)) Via.refl (cls2 hw) (lk_suf hN rfl) (j := 2) rfl (leB rfl) (Or.inl (t115 hw)) (ty := (.array .int)) (by decide +kernel) rfl rfl d12_25 rfl ?_
  intro T w
  rw [set_suf hN] at w
  replace w : St p l e _ s m _ below meth c Z _ _ _ _ h0 n0 T (Pre ++ [o2 (.ref (n0 + (N + 1))) (.int 10) (.ref (n0 + (N + 2))) .null .null .null .null .null (.int 0) .null, aJ ([]), aI (List.replicate 1024 (.int (-1)))]) 2 1024 := w
  refine s_aloadN (pc' := 29) w d12_28 rfl rfl rfl ?_
  refine s_iconst (pc' := 30) (0 : Int32) w d12_29 (by decide) rfl ?_
  refine s_newarray (pc' := 32) (ty := .int) w (t109 hw) rfl (by intro C h; cases h) d12_30 (by decide) 0 (by decide) (by decide) (by decide) (by decide) (N + 3) (by rw [List.length_append, hN]; rfl) rfl ?_
  intro T w
  rw [List.append_assoc] at w
  replace w : St p l e _ s m _ below meth c Z _ _ _ _ h0 n0 T (Pre ++ [o2 (.ref (n0 + (N + 1))) (.int 10) (.ref (n0 + (N + 2))) .null .null .null .null .null (.int 0) .null, aJ ([]), aI (List.replicate 1024 (.int (-1))), aI ([])]) 3 1024 := w
  refine s_put (pc' := 35) (host := "") (k := (N + 0)) w (Or.inl (t116 hw)) Via.refl (cls2 hw) (lk_suf hN rfl) (j := 3) rfl (leB rfl) (Or.inl (t117 hw)) (ty := (.array .int)) (by decide +kernel) rfl rfl d12_32 rfl ?_
  intro T w
  rw [set_suf hN] at w
  replace w : St p l e _ s m _ below meth c Z _ _ _ _ h0 n0 T (Pre ++ [o2 (.ref (n0 + (N + 1))) (.int 10) (.ref (n0 + (N + 2))) (.ref (n0 + (N + 3))) .null .null .null .null (.int 0) .null, aJ ([]), aI (List.replicate 1024 (.int (-1))), aI ([])]) 3 1024 := w
  refine s_aloadN (pc' := 36) w d12_35 rfl rfl rfl ?_
  refine s_face (pc' := 41) (rest := []) 0 [] w (c_size hw l h0 n0 (n0 + kA) mc (.ref (n0 + kE)) 5 (Pre ++ [o2 (.ref (n0 + (N + 1))) (.int 10) (.ref (n0 + (N + 2))) (.ref (n0 + (N + 3))) .null .null .null .null (.int 0) .null, aJ ([]), aI (List.replicate 1024 (.int (-1))), aI ([])]) (Lk.new (lk_app pA))) (Lk.new (lk_app pA)) (t118 hw) (t119 hw) (t120 hw) (t121 hw) (t122 hw) (t123 hw) (t124 hw) (t125 hw) (t2 hw) (t126 hw) (by decide) pd11 d12_36 (by decide) rfl rfl rfl rfl (Nat.le_of_eq rfl) rfl ?_
  intro T v L' hQ w
  obtain ⟨rfl, hL⟩ := hQ
  replace hL := hL.symm
  subst hL
  dsimp only [oS, oN, cA, nA]
  refine s_istoreN (pc' := 42) (ls' := #[vR (n0 + (N + 0)), vR (n0 + kA), vI (5 : Int32), un, un, un, un, un, un, un]) w d12_41 rfl rfl ?_
  refine s_aloadN (pc' := 43) w d12_42 rfl rfl rfl ?_
  refine s_iloadN (pc' := 44) w d12_43 rfl rfl ?_
  refine s_newarray (pc' := 46) (ty := .int) w (t109 hw) rfl (by intro C h; cases h) d12_44 (by decide) 5 (by decide) (by decide) (by decide) (by decide) (N + 4) (by rw [List.length_append, hN]; rfl) rfl ?_
  intro T w
  rw [List.append_assoc] at w
  replace w : St p l e _ s m _ below meth c Z _ _ _ _ h0 n0 T (Pre ++ [o2 (.ref (n0 + (N + 1))) (.int 10) (.ref (n0 + (N + 2))) (.ref (n0 + (N + 3))) .null .null .null .null (.int 0) .null, aJ ([]), aI (List.replicate 1024 (.int (-1))), aI ([]), aI ([(.int 0), (.int 0), (.int 0), (.int 0), (.int 0)])]) 4 1029 := w
  refine s_put (pc' := 49) (host := "") (k := (N + 0)) w (Or.inl (t127 hw)) Via.refl (cls2 hw) (lk_suf hN rfl) (j := 4) rfl (leB rfl) (Or.inr ⟨(t128 hw), rfl, rfl⟩) (ty := (.array .int)) (by decide +kernel) rfl rfl d12_46 rfl ?_
  intro T w
  rw [set_suf hN] at w
  replace w : St p l e _ s m _ below meth c Z _ _ _ _ h0 n0 T (Pre ++ [o2 (.ref (n0 + (N + 1))) (.int 10) (.ref (n0 + (N + 2))) (.ref (n0 + (N + 3))) (.ref (n0 + (N + 4))) .null .null .null (.int 0) .null, aJ ([]), aI (List.replicate 1024 (.int (-1))), aI ([]), aI ([(.int 0), (.int 0), (.int 0), (.int 0), (.int 0)])]) 4 1029 := w
  refine s_aloadN (pc' := 50) w d12_49 rfl rfl rfl ?_
  refine s_iloadN (pc' := 51) w d12_50 rfl rfl ?_
  refine s_newarray (pc' := 53) (ty := .int) w (t109 hw) rfl (by intro C h; cases h) d12_51 (by decide) 5 (by decide) (by decide) (by decide) (by decide) (N + 5) (by rw [List.length_append, hN]; rfl) rfl ?_
  intro T w
  rw [List.append_assoc] at w
  replace w : St p l e _ s m _ below meth c Z _ _ _ _ h0 n0 T (Pre ++ [o2 (.ref (n0 + (N + 1))) (.int 10) (.ref (n0 + (N + 2))) (.ref (n0 + (N + 3))) (.ref (n0 + (N + 4))) .null .null .null (.int 0) .null, aJ ([]), aI (List.replicate 1024 (.int (-1))), aI ([]), aI ([(.int 0), (.int 0), (.int 0), (.int 0), (.int 0)]), aI ([(.int 0), (.int 0), (.int 0), (.int 0), (.int 0)])]) 5 1034 := w
  refine s_put (pc' := 56) (host := "") (k := (N + 0)) w (Or.inl (t129 hw)) Via.refl (cls2 hw) (lk_suf hN rfl) (j := 5) rfl (leB rfl) (Or.inr ⟨(t130 hw), rfl, rfl⟩) (ty := (.array .int)) (by decide +kernel) rfl rfl d12_53 rfl ?_
  intro T w
  rw [set_suf hN] at w
  replace w : St p l e _ s m _ below meth c Z _ _ _ _ h0 n0 T (Pre ++ [o2 (.ref (n0 + (N + 1))) (.int 10) (.ref (n0 + (N + 2))) (.ref (n0 + (N + 3))) (.ref (n0 + (N + 4))) (.ref (n0 + (N + 5))) .null .null (.int 0) .null, aJ ([]), aI (List.replicate 1024 (.int (-1))), aI ([]), aI ([(.int 0), (.int 0), (.int 0), (.int 0), (.int 0)]), aI ([(.int 0), (.int 0), (.int 0), (.int 0), (.int 0)])]) 5 1034 := w
  refine s_aloadN (pc' := 57) w d12_56 rfl rfl rfl ?_
  refine s_iloadN (pc' := 58) w d12_57 rfl rfl ?_
  refine s_newarray (pc' := 60) (ty := .int) w (t109 hw) rfl (by intro C h; cases h) d12_58 (by decide) 5 (by decide) (by decide) (by decide) (by decide) (N + 6) (by rw [List.length_append, hN]; rfl) rfl ?_
  intro T w
  rw [List.append_assoc] at w
  replace w : St p l e _ s m _ below meth c Z _ _ _ _ h0 n0 T (Pre ++ [o2 (.ref (n0 + (N + 1))) (.int 10) (.ref (n0 + (N + 2))) (.ref (n0 + (N + 3))) (.ref (n0 + (N + 4))) (.ref (n0 + (N + 5))) .null .null (.int 0) .null, aJ ([]), aI (List.replicate 1024 (.int (-1))), aI ([]), aI ([(.int 0), (.int 0), (.int 0), (.int 0), (.int 0)]), aI ([(.int 0), (.int 0), (.int 0), (.int 0), (.int 0)]), aI ([(.int 0), (.int 0), (.int 0), (.int 0), (.int 0)])]) 6 1039 := w
  refine s_put (pc' := 63) (host := "") (k := (N + 0)) w (Or.inl (t131 hw)) Via.refl (cls2 hw) (lk_suf hN rfl) (j := 6) rfl (leB rfl) (Or.inr ⟨(t132 hw), rfl, rfl⟩) (ty := (.array .int)) (by decide +kernel) rfl rfl d12_60 rfl ?_
  intro T w
  rw [set_suf hN] at w
  replace w : St p l e _ s m _ below meth c Z _ _ _ _ h0 n0 T (Pre ++ [o2 (.ref (n0 + (N + 1))) (.int 10) (.ref (n0 + (N + 2))) (.ref (n0 + (N + 3))) (.ref (n0 + (N + 4))) (.ref (n0 + (N + 5))) (.ref (n0 + (N + 6))) .null (.int 0) .null, aJ ([]), aI (List.replicate 1024 (.int (-1))), aI ([]), aI ([(.int 0), (.int 0), (.int 0), (.int 0), (.int 0)]), aI ([(.int 0), (.int 0), (.int 0), (.int 0), (.int 0)]), aI ([(.int 0), (.int 0), (.int 0), (.int 0), (.int 0)])]) 6 1039 := w
  refine s_aloadN (pc' := 64) w d12_63 rfl rfl rfl ?_
  refine s_iloadN (pc' := 65) w d12_64 rfl rfl ?_
  refine s_newarray (pc' := 67) (ty := .long) w (t98 hw) rfl (by intro C h; cases h) d12_65 (by decide) 5 (by decide) (by decide) (by decide) (by decide) (N + 7) (by rw [List.length_append, hN]; rfl) rfl ?_
  intro T w
  rw [List.append_assoc] at w
  replace w : St p l e _ s m _ below meth c Z _ _ _ _ h0 n0 T (Pre ++ [o2 (.ref (n0 + (N + 1))) (.int 10) (.ref (n0 + (N + 2))) (.ref (n0 + (N + 3))) (.ref (n0 + (N + 4))) (.ref (n0 + (N + 5))) (.ref (n0 + (N + 6))) .null (.int 0) .null, aJ ([]), aI (List.replicate 1024 (.int (-1))), aI ([]), aI ([(.int 0), (.int 0), (.int 0), (.int 0), (.int 0)]), aI ([(.int 0), (.int 0), (.int 0), (.int 0), (.int 0)]), aI ([(.int 0), (.int 0), (.int 0), (.int 0), (.int 0)]), aJ ([(.long 0), (.long 0), (.long 0), (.long 0), (.long 0)])]) 7 1044 := w
  refine s_put (pc' := 70) (host := "") (k := (N + 0)) w (Or.inl (t133 hw)) Via.refl (cls2 hw) (lk_suf hN rfl) (j := 7) rfl (leB rfl) (Or.inr ⟨(t134 hw), rfl, rfl⟩) (ty := (.array .long)) (by decide +kernel) rfl rfl d12_67 rfl ?_
  intro T w
  rw [set_suf hN] at w
  replace w : St p l e _ s m _ below meth c Z _ _ _ _ h0 n0 T (Pre ++ [o2 (.ref (n0 + (N + 1))) (.int 10) (.ref (n0 + (N + 2))) (.ref (n0 + (N + 3))) (.ref (n0 + (N + 4))) (.ref (n0 + (N + 5))) (.ref (n0 + (N + 6))) (.ref (n0 + (N + 7))) (.int 0) .null, aJ ([]), aI (List.replicate 1024 (.int (-1))), aI ([]), aI ([(.int 0), (.int 0), (.int 0), (.int 0), (.int 0)]), aI ([(.int 0), (.int 0), (.int 0), (.int 0), (.int 0)]), aI ([(.int 0), (.int 0), (.int 0), (.int 0), (.int 0)]), aJ ([(.long 0), (.long 0), (.long 0), (.long 0), (.long 0)])]) 7 1044 := w
  refine s_iconst (pc' := 71) (0 : Int32) w d12_70 (by decide) rfl ?_
  refine s_istoreN (pc' := 72) (ls' := #[vR (n0 + (N + 0)), vR (n0 + kA), vI (5 : Int32), vI (0 : Int32), un, un, un, un, un, un]) w d12_71 rfl rfl ?_
  refine s_iconst (pc' := 73) (0 : Int32) w d12_72 (by decide) rfl ?_
  refine s_istore (pc' := 75) (ls' := #[vR (n0 + (N + 0)), vR (n0 + kA), vI (5 : Int32), vI (0 : Int32), vI (0 : Int32), un, un, un, un, un]) w d12_73 rfl rfl ?_
  refine s_iconst (pc' := 76) (0 : Int32) w d12_75 (by decide) rfl ?_
  refine s_istore (pc' := 78) (ls' := #[vR (n0 + (N + 0)), vR (n0 + kA), vI (5 : Int32), vI (0 : Int32), vI (0 : Int32), vI (0 : Int32), un, un, un, un]) w d12_76 rfl rfl ?_
  change Go p e below _ T (mkF m 78 #[vR (n0 + (N + 0)), vR (n0 + kA), vI (5 : Int32), vI (0 : Int32), vI (Int32.ofNat 0), vI (0 : Int32), un, un, un, un] [])
  have hfull0 : 2 ^ 31 ≤ (u0.toInt64 - l0.toInt64).toBitVec.toNat := hf0
  have hfull1 : 2 ^ 31 ≤ (u1.toInt64 - l1.toInt64).toBitVec.toNat := hf1
  have hfull2 : 2 ^ 31 ≤ (u2.toInt64 - l2.toInt64).toBitVec.toNat := hf2
  have hfull3 : 2 ^ 31 ≤ (u3.toInt64 - l3.toInt64).toBitVec.toNat := hf3
  have hfull4 : 2 ^ 31 ≤ (u4.toInt64 - l4.toInt64).toBitVec.toNat := hf4
  refine s_iload (pc' := 80) w d12_78 rfl rfl ?_
  refine s_iloadN (pc' := 81) w d12_80 rfl rfl ?_
  refine s_icmpN (pc' := 84) w d12_81 (Jvm.Free.XT.ii_ge_f (by decide)) rfl ?_
  refine s_aloadN (pc' := 85) w d12_84 rfl rfl rfl ?_
  refine s_iload (pc' := 87) w d12_85 rfl rfl ?_
  refine s_face (pc' := 92) (rest := []) 0 [(.int (0 : Int32))] w (c_get hw l h0 n0 (n0 + kA) (n0 + kE) mc 5 0 es (n0 + v0) (Pre ++ [o2 (.ref (n0 + (N + 1))) (.int 10) (.ref (n0 + (N + 2))) (.ref (n0 + (N + 3))) (.ref (n0 + (N + 4))) (.ref (n0 + (N + 5))) (.ref (n0 + (N + 6))) (.ref (n0 + (N + 7))) (.int 0) .null, aJ ([]), aI (List.replicate 1024 (.int (-1))), aI ([]), aI ([(.int 0), (.int 0), (.int 0), (.int 0), (.int 0)]), aI ([(.int 0), (.int 0), (.int 0), (.int 0), (.int 0)]), aI ([(.int 0), (.int 0), (.int 0), (.int 0), (.int 0)]), aJ ([(.long 0), (.long 0), (.long 0), (.long 0), (.long 0)])]) (Lk.new (lk_app pA)) (Lk.new (lk_app pE)) (by decide) he0 (by decide)) (Lk.new (lk_app pA)) (t135 hw) (t136 hw) (t137 hw) (t138 hw) (t139 hw) (t140 hw) (t141 hw) (t125 hw) (t2 hw) (t142 hw) (by decide) pd6 d12_87 (by decide) rfl rfl rfl rfl (Nat.le_of_eq rfl) rfl ?_
  intro T v L' hQ w
  obtain ⟨rfl, hL⟩ := hQ
  replace hL := hL.symm
  subst hL
  dsimp only [oS, oN, cA, nA]
  refine s_checkcast (pc' := 95) w (t156 hw) (Lk.new (lk_app pV0)) (Or.inl rfl) d12_92 rfl ?_
  intro T w
  refine s_astore (pc' := 97) (ls' := #[vR (n0 + (N + 0)), vR (n0 + kA), vI (5 : Int32), vI (0 : Int32), vI (Int32.ofNat 0), vI (0 : Int32), vR (n0 + v0), un, un, un]) w d12_95 rfl rfl rfl ?_
  refine s_aload (pc' := 99) w d12_97 rfl rfl rfl ?_
  refine s_virtual (pc' := 102) (rest := []) 0 [] w (c_high hw l h0 n0 (n0 + v0) na0 ty0 (.int l0) ini0 pos0 u0 (Pre ++ [o2 (.ref (n0 + (N + 1))) (.int 10) (.ref (n0 + (N + 2))) (.ref (n0 + (N + 3))) (.ref (n0 + (N + 4))) (.ref (n0 + (N + 5))) (.ref (n0 + (N + 6))) (.ref (n0 + (N + 7))) (.int 0) .null, aJ ([]), aI (List.replicate 1024 (.int (-1))), aI ([]), aI ([(.int 0), (.int 0), (.int 0), (.int 0), (.int 0)]), aI ([(.int 0), (.int 0), (.int 0), (.int 0), (.int 0)]), aI ([(.int 0), (.int 0), (.int 0), (.int 0), (.int 0)]), aJ ([(.long 0), (.long 0), (.long 0), (.long 0), (.long 0)])]) (Lk.new (lk_app pV0))) (Lk.new (lk_app pV0)) (t158 hw) (t159 hw) (w.notFace (t161 hw)) (t161 hw) (t160 hw) (t28 hw) (t162 hw) (by decide) pd11 d12_99 (by decide) rfl rfl rfl rfl (Nat.le_of_eq rfl) rfl ?_
  intro T v L' hQ w
  obtain ⟨rfl, hL⟩ := hQ
  replace hL := hL.symm
  subst hL
  dsimp only [oS, oN, cA, nA]
  refine s_i2l (pc' := 103) w d12_102 rfl ?_
  refine s_aload (pc' := 105) w d12_103 rfl rfl rfl ?_
  refine s_virtual (pc' := 108) (rest := [(.long u0.toInt64)]) 2 [] w (c_low hw l h0 n0 (n0 + v0) na0 ty0 (.int u0) ini0 pos0 l0 (Pre ++ [o2 (.ref (n0 + (N + 1))) (.int 10) (.ref (n0 + (N + 2))) (.ref (n0 + (N + 3))) (.ref (n0 + (N + 4))) (.ref (n0 + (N + 5))) (.ref (n0 + (N + 6))) (.ref (n0 + (N + 7))) (.int 0) .null, aJ ([]), aI (List.replicate 1024 (.int (-1))), aI ([]), aI ([(.int 0), (.int 0), (.int 0), (.int 0), (.int 0)]), aI ([(.int 0), (.int 0), (.int 0), (.int 0), (.int 0)]), aI ([(.int 0), (.int 0), (.int 0), (.int 0), (.int 0)]), aJ ([(.long 0), (.long 0), (.long 0), (.long 0), (.long 0)])]) (Lk.new (lk_app pV0))) (Lk.new (lk_app pV0)) (t163 hw) (t164 hw) (w.notFace (t166 hw)) (t166 hw) (t165 hw) (t28 hw) (t167 hw) (by decide) pd11 d12_105 (by decide) rfl rfl rfl rfl (Nat.le_of_eq rfl) rfl ?_
  intro T v L' hQ w
  obtain ⟨rfl, hL⟩ := hQ
  replace hL := hL.symm
  subst hL
  dsimp only [oS, oN, cA, nA]
  refine s_i2l (pc' := 109) w d12_108 rfl ?_
  refine s_lsub (pc' := 110) w d12_109 rfl ?_
  refine s_lstore (pc' := 112) (ls' := #[vR (n0 + (N + 0)), vR (n0 + kA), vI (5 : Int32), vI (0 : Int32), vI (Int32.ofNat 0), vI (0 : Int32), vR (n0 + v0), vJ (u0.toInt64 - l0.toInt64), sc, un]) w d12_110 rfl rfl ?_
  refine s_bipush (pc' := 114) (64 : Int32) w d12_112 (by decide) rfl ?_
  refine s_lload (pc' := 116) w d12_114 rfl rfl ?_
  refine s_static (pc' := 119) (rest := [(.int (64 : Int32))]) 1 [(.long (u0.toInt64 - l0.toInt64))] w (c_nlz64 hw l h0 n0 (u0.toInt64 - l0.toInt64) (Pre ++ [o2 (.ref (n0 + (N + 1))) (.int 10) (.ref (n0 + (N + 2))) (.ref (n0 + (N + 3))) (.ref (n0 + (N + 4))) (.ref (n0 + (N + 5))) (.ref (n0 + (N + 6))) (.ref (n0 + (N + 7))) (.int 0) .null, aJ ([]), aI (List.replicate 1024 (.int (-1))), aI ([]), aI ([(.int 0), (.int 0), (.int 0), (.int 0), (.int 0)]), aI ([(.int 0), (.int 0), (.int 0), (.int 0), (.int 0)]), aI ([(.int 0), (.int 0), (.int 0), (.int 0), (.int 0)]), aJ ([(.long 0), (.long 0), (.long 0), (.long 0), (.long 0)])]) hs0 hg0) (t168 hw) (t169 hw) (t170 hw) (t171 hw) (by decide) pd8 d12_116 (by decide) rfl rfl rfl rfl (Nat.le_of_eq rfl) rfl ?_
  intro T v L' hQ w
  obtain ⟨b0, rfl, hb0, hx0, hL⟩ := hQ
  replace hL := hL.symm
  subst hL
  dsimp only [oS, oN, cA, nA]
  obtain rfl : b0 = 32 := full32 hfull0 hx0 hb0
  refine s_isub (pc' := 120) w d12_119 rfl ?_
  rw [b_sub (by decide : 32 ≤ 32)]
  refine s_istore (pc' := 122) (ls' := #[vR (n0 + (N + 0)), vR (n0 + kA), vI (5 : Int32), vI (0 : Int32), vI (Int32.ofNat 0), vI (0 : Int32), vR (n0 + v0), vJ (u0.toInt64 - l0.toInt64), sc, vI (Int32.ofNat (32))]) w d12_120 rfl rfl ?_
  refine s_iload (pc' := 124) w d12_122 rfl rfl ?_
  refine s_iload (pc' := 126) w d12_124 rfl rfl ?_
  refine s_iadd (pc' := 127) w d12_126 rfl ?_
  rw [b_add]
  refine s_bipush (pc' := 129) (64 : Int32) w d12_127 (by decide) rfl ?_
  refine s_icmpY (pc' := 138) w d12_129 (Jvm.Free.XT.ii_le_t (by decide)) (by decide) (by decide) ?_
  refine s_aloadN (pc' := 139) w d12_138 rfl rfl rfl ?_
  refine s_getL (pc' := 142) (host := "") w (Or.inl (t127 hw)) Via.refl (Lk.new (lk_suf hN rfl)) (j := 4) rfl rfl d12_139 rfl ?_
  intro T w
  refine s_iload (pc' := 144) w d12_142 rfl rfl ?_
  refine s_aload (pc' := 146) w d12_144 rfl rfl rfl ?_
  refine s_virtual (pc' := 149) (rest := [(.int (0 : Int32)), (.ref (n0 + (N + 4)))]) 2 [] w (c_low hw l h0 n0 (n0 + v0) na0 ty0 (.int u0) ini0 pos0 l0 (Pre ++ [o2 (.ref (n0 + (N + 1))) (.int 10) (.ref (n0 + (N + 2))) (.ref (n0 + (N + 3))) (.ref (n0 + (N + 4))) (.ref (n0 + (N + 5))) (.ref (n0 + (N + 6))) (.ref (n0 + (N + 7))) (.int 0) .null, aJ ([]), aI (List.replicate 1024 (.int (-1))), aI ([]), aI ([(.int 0), (.int 0), (.int 0), (.int 0), (.int 0)]), aI ([(.int 0), (.int 0), (.int 0), (.int 0), (.int 0)]), aI ([(.int 0), (.int 0), (.int 0), (.int 0), (.int 0)]), aJ ([(.long 0), (.long 0), (.long 0), (.long 0), (.long 0)])]) (Lk.new (lk_app pV0))) (Lk.new (lk_app pV0)) (t163 hw) (t164 hw) (w.notFace (t166 hw)) (t166 hw) (t165 hw) (t28 hw) (t167 hw) (by decide) pd11 d12_146 (by decide) rfl rfl rfl rfl (Nat.le_of_eq rfl) rfl ?_
  intro T v L' hQ w
  obtain ⟨rfl, hL⟩ := hQ
  replace hL := hL.symm
  subst hL
  dsimp only [oS, oN, cA, nA]
  refine s_iastore (pc' := 150) (k := (N + 4)) w (lk_suf hN rfl) d12_149 (by decide) (leB rfl) rfl ?_
  intro T w
  rw [set_suf hN] at w
  replace w : St p l e _ s m _ below meth c Z _ _ _ _ h0 n0 T (Pre ++ [o2 (.ref (n0 + (N + 1))) (.int 10) (.ref (n0 + (N + 2))) (.ref (n0 + (N + 3))) (.ref (n0 + (N + 4))) (.ref (n0 + (N + 5))) (.ref (n0 + (N + 6))) (.ref (n0 + (N + 7))) (.int 0) .null, aJ ([]), aI (List.replicate 1024 (.int (-1))), aI ([]), aI ([.int l0, (.int 0), (.int 0), (.int 0), (.int 0)]), aI ([(.int 0), (.int 0), (.int 0), (.int 0), (.int 0)]), aI ([(.int 0), (.int 0), (.int 0), (.int 0), (.int 0)]), aJ ([(.long 0), (.long 0), (.long 0), (.long 0), (.long 0)])]) 7 1044 := w
  refine s_aloadN (pc' := 151) w d12_150 rfl rfl rfl ?_
  refine s_getL (pc' := 154) (host := "") w (Or.inl (t129 hw)) Via.refl (Lk.new (lk_suf hN rfl)) (j := 5) rfl rfl d12_151 rfl ?_
  intro T w
  refine s_iload (pc' := 156) w d12_154 rfl rfl ?_
  refine s_iloadN (pc' := 157) w d12_156 rfl rfl ?_
  refine s_iastore (pc' := 158) (k := (N + 5)) w (lk_suf hN rfl) d12_157 (by decide) (leB rfl) rfl ?_
  intro T w
  rw [set_suf hN] at w
  replace w : St p l e _ s m _ below meth c Z _ _ _ _ h0 n0 T (Pre ++ [o2 (.ref (n0 + (N + 1))) (.int 10) (.ref (n0 + (N + 2))) (.ref (n0 + (N + 3))) (.ref (n0 + (N + 4))) (.ref (n0 + (N + 5))) (.ref (n0 + (N + 6))) (.ref (n0 + (N + 7))) (.int 0) .null, aJ ([]), aI (List.replicate 1024 (.int (-1))), aI ([]), aI ([.int l0, (.int 0), (.int 0), (.int 0), (.int 0)]), aI ([.int 0, (.int 0), (.int 0), (.int 0), (.int 0)]), aI ([(.int 0), (.int 0), (.int 0), (.int 0), (.int 0)]), aJ ([(.long 0), (.long 0), (.long 0), (.long 0), (.long 0)])]) 7 1044 := w
  refine s_aloadN (pc' := 159) w d12_158 rfl rfl rfl ?_
  refine s_getL (pc' := 162) (host := "") w (Or.inl (t131 hw)) Via.refl (Lk.new (lk_suf hN rfl)) (j := 6) rfl rfl d12_159 rfl ?_
  intro T w
  refine s_iload (pc' := 164) w d12_162 rfl rfl ?_
  refine s_iload (pc' := 166) w d12_164 rfl rfl ?_
  refine s_iastore (pc' := 167) (k := (N + 6)) w (lk_suf hN rfl) d12_166 (by decide) (leB rfl) rfl ?_
  intro T w
  rw [set_suf hN] at w
  replace w : St p l e _ s m _ below meth c Z _ _ _ _ h0 n0 T (Pre ++ [o2 (.ref (n0 + (N + 1))) (.int 10) (.ref (n0 + (N + 2))) (.ref (n0 + (N + 3))) (.ref (n0 + (N + 4))) (.ref (n0 + (N + 5))) (.ref (n0 + (N + 6))) (.ref (n0 + (N + 7))) (.int 0) .null, aJ ([]), aI (List.replicate 1024 (.int (-1))), aI ([]), aI ([.int l0, (.int 0), (.int 0), (.int 0), (.int 0)]), aI ([.int 0, (.int 0), (.int 0), (.int 0), (.int 0)]), aI ([.int (Int32.ofNat (0)), (.int 0), (.int 0), (.int 0), (.int 0)]), aJ ([(.long 0), (.long 0), (.long 0), (.long 0), (.long 0)])]) 7 1044 := w
  refine s_aloadN (pc' := 168) w d12_167 rfl rfl rfl ?_
  refine s_getL (pc' := 171) (host := "") w (Or.inl (t133 hw)) Via.refl (Lk.new (lk_suf hN rfl)) (j := 7) rfl rfl d12_168 rfl ?_
  intro T w
  refine s_iload (pc' := 173) w d12_171 rfl rfl ?_
  refine s_lconst (pc' := 174) (1 : Int64) w d12_173 (by decide) rfl ?_
  refine s_iload (pc' := 176) w d12_174 rfl rfl ?_
  refine s_lshl (pc' := 177) w d12_176 rfl ?_
  refine s_lconst (pc' := 178) (1 : Int64) w d12_177 (by decide) rfl ?_
  refine s_lsub (pc' := 179) w d12_178 rfl ?_
  refine s_lastore (pc' := 180) (k := (N + 7)) w (lk_suf hN rfl) d12_179 (by decide) (leB rfl) rfl ?_
  intro T w
  rw [set_suf hN] at w
  replace w : St p l e _ s m _ below meth c Z _ _ _ _ h0 n0 T (Pre ++ [o2 (.ref (n0 + (N + 1))) (.int 10) (.ref (n0 + (N + 2))) (.ref (n0 + (N + 3))) (.ref (n0 + (N + 4))) (.ref (n0 + (N + 5))) (.ref (n0 + (N + 6))) (.ref (n0 + (N + 7))) (.int 0) .null, aJ ([]), aI (List.replicate 1024 (.int (-1))), aI ([]), aI ([.int l0, (.int 0), (.int 0), (.int 0), (.int 0)]), aI ([.int 0, (.int 0), (.int 0), (.int 0), (.int 0)]), aI ([.int (Int32.ofNat (0)), (.int 0), (.int 0), (.int 0), (.int 0)]), aJ ([.long (mkM (32)), (.long 0), (.long 0), (.long 0), (.long 0)])]) 7 1044 := w
  refine s_iload (pc' := 182) w d12_180 rfl rfl ?_
  refine s_iload (pc' := 184) w d12_182 rfl rfl ?_
  refine s_iadd (pc' := 185) w d12_184 rfl ?_
  rw [b_add]
  refine s_istore (pc' := 187) (ls' := #[vR (n0 + (N + 0)), vR (n0 + kA), vI (5 : Int32), vI (0 : Int32), vI (Int32.ofNat (0 + 32)), vI (0 : Int32), vR (n0 + v0), vJ (u0.toInt64 - l0.toInt64), sc, vI (Int32.ofNat (32))]) w d12_185 rfl rfl ?_
  refine s_iinc (pc' := 190) (ls' := #[vR (n0 + (N + 0)), vR (n0 + kA), vI (5 : Int32), vI (0 : Int32), vI (Int32.ofNat (0 + 32)), vI ((0 : Int32) + (1 : Int32)), vR (n0 + v0), vJ (u0.toInt64 - l0.toInt64), sc, vI (Int32.ofNat (32))]) (1 : Int32) w d12_187 (by decide) rfl rfl rfl ?_
  rw [show (0 : Int32) + 1 = 1 by decide]
  refine s_goto (pc' := 78) w d12_190 (by decide) (by decide) ?_
  change Go p e below _ T (mkF m 78 #[vR (n0 + (N + 0)), vR (n0 + kA), vI (5 : Int32), vI (0 : Int32), vI (Int32.ofNat 32), vI (1 : Int32), vR (n0 + v0), vJ (u0.toInt64 - l0.toInt64), sc, vI (Int32.ofNat (32))] [])
  refine s_iload (pc' := 80) w d12_78 rfl rfl ?_
  refine s_iloadN (pc' := 81) w d12_80 rfl rfl ?_
  refine s_icmpN (pc' := 84) w d12_81 (Jvm.Free.XT.ii_ge_f (by decide)) rfl ?_
  refine s_aloadN (pc' := 85) w d12_84 rfl rfl rfl ?_
  refine s_iload (pc' := 87) w d12_85 rfl rfl ?_
  refine s_face (pc' := 92) (rest := []) 0 [(.int (1 : Int32))] w (c_get hw l h0 n0 (n0 + kA) (n0 + kE) mc 5 1 es (n0 + v1) (Pre ++ [o2 (.ref (n0 + (N + 1))) (.int 10) (.ref (n0 + (N + 2))) (.ref (n0 + (N + 3))) (.ref (n0 + (N + 4))) (.ref (n0 + (N + 5))) (.ref (n0 + (N + 6))) (.ref (n0 + (N + 7))) (.int 0) .null, aJ ([]), aI (List.replicate 1024 (.int (-1))), aI ([]), aI ([.int l0, (.int 0), (.int 0), (.int 0), (.int 0)]), aI ([.int 0, (.int 0), (.int 0), (.int 0), (.int 0)]), aI ([.int (Int32.ofNat (0)), (.int 0), (.int 0), (.int 0), (.int 0)]), aJ ([.long (mkM (32)), (.long 0), (.long 0), (.long 0), (.long 0)])]) (Lk.new (lk_app pA)) (Lk.new (lk_app pE)) (by decide) he1 (by decide)) (Lk.new (lk_app pA)) (t135 hw) (t136 hw) (t137 hw) (t138 hw) (t139 hw) (t140 hw) (t141 hw) (t125 hw) (t2 hw) (t142 hw) (by decide) pd6 d12_87 (by decide) rfl rfl rfl rfl (Nat.le_of_eq rfl) rfl ?_
  intro T v L' hQ w
  obtain ⟨rfl, hL⟩ := hQ
  replace hL := hL.symm
  subst hL
  dsimp only [oS, oN, cA, nA]
  refine s_checkcast (pc' := 95) w (t156 hw) (Lk.new (lk_app pV1)) (Or.inl rfl) d12_92 rfl ?_
  intro T w
  refine s_astore (pc' := 97) (ls' := #[vR (n0 + (N + 0)), vR (n0 + kA), vI (5 : Int32), vI (0 : Int32), vI (Int32.ofNat 32), vI (1 : Int32), vR (n0 + v1), vJ (u0.toInt64 - l0.toInt64), sc, vI (Int32.ofNat (32))]) w d12_95 rfl rfl rfl ?_
  refine s_aload (pc' := 99) w d12_97 rfl rfl rfl ?_
  refine s_virtual (pc' := 102) (rest := []) 0 [] w (c_high hw l h0 n0 (n0 + v1) na1 ty1 (.int l1) ini1 pos1 u1 (Pre ++ [o2 (.ref (n0 + (N + 1))) (.int 10) (.ref (n0 + (N + 2))) (.ref (n0 + (N + 3))) (.ref (n0 + (N + 4))) (.ref (n0 + (N + 5))) (.ref (n0 + (N + 6))) (.ref (n0 + (N + 7))) (.int 0) .null, aJ ([]), aI (List.replicate 1024 (.int (-1))), aI ([]), aI ([.int l0, (.int 0), (.int 0), (.int 0), (.int 0)]), aI ([.int 0, (.int 0), (.int 0), (.int 0), (.int 0)]), aI ([.int (Int32.ofNat (0)), (.int 0), (.int 0), (.int 0), (.int 0)]), aJ ([.long (mkM (32)), (.long 0), (.long 0), (.long 0), (.long 0)])]) (Lk.new (lk_app pV1))) (Lk.new (lk_app pV1)) (t158 hw) (t159 hw) (w.notFace (t161 hw)) (t161 hw) (t160 hw) (t28 hw) (t162 hw) (by decide) pd11 d12_99 (by decide) rfl rfl rfl rfl (Nat.le_of_eq rfl) rfl ?_
  intro T v L' hQ w
  obtain ⟨rfl, hL⟩ := hQ
  replace hL := hL.symm
  subst hL
  dsimp only [oS, oN, cA, nA]
  refine s_i2l (pc' := 103) w d12_102 rfl ?_
  refine s_aload (pc' := 105) w d12_103 rfl rfl rfl ?_
  refine s_virtual (pc' := 108) (rest := [(.long u1.toInt64)]) 2 [] w (c_low hw l h0 n0 (n0 + v1) na1 ty1 (.int u1) ini1 pos1 l1 (Pre ++ [o2 (.ref (n0 + (N + 1))) (.int 10) (.ref (n0 + (N + 2))) (.ref (n0 + (N + 3))) (.ref (n0 + (N + 4))) (.ref (n0 + (N + 5))) (.ref (n0 + (N + 6))) (.ref (n0 + (N + 7))) (.int 0) .null, aJ ([]), aI (List.replicate 1024 (.int (-1))), aI ([]), aI ([.int l0, (.int 0), (.int 0), (.int 0), (.int 0)]), aI ([.int 0, (.int 0), (.int 0), (.int 0), (.int 0)]), aI ([.int (Int32.ofNat (0)), (.int 0), (.int 0), (.int 0), (.int 0)]), aJ ([.long (mkM (32)), (.long 0), (.long 0), (.long 0), (.long 0)])]) (Lk.new (lk_app pV1))) (Lk.new (lk_app pV1)) (t163 hw) (t164 hw) (w.notFace (t166 hw)) (t166 hw) (t165 hw) (t28 hw) (t167 hw) (by decide) pd11 d12_105 (by decide) rfl rfl rfl rfl (Nat.le_of_eq rfl) rfl ?_
  intro T v L' hQ w
  obtain ⟨rfl, hL⟩ := hQ
  replace hL := hL.symm
  subst hL
  dsimp only [oS, oN, cA, nA]
  refine s_i2l (pc' := 109) w d12_108 rfl ?_
  refine s_lsub (pc' := 110) w d12_109 rfl ?_
  refine s_lstore (pc' := 112) (ls' := #[vR (n0 + (N + 0)), vR (n0 + kA), vI (5 : Int32), vI (0 : Int32), vI (Int32.ofNat 32), vI (1 : Int32), vR (n0 + v1), vJ (u1.toInt64 - l1.toInt64), sc, vI (Int32.ofNat (32))]) w d12_110 rfl rfl ?_
  refine s_bipush (pc' := 114) (64 : Int32) w d12_112 (by decide) rfl ?_
  refine s_lload (pc' := 116) w d12_114 rfl rfl ?_
  refine s_static (pc' := 119) (rest := [(.int (64 : Int32))]) 1 [(.long (u1.toInt64 - l1.toInt64))] w (c_nlz64 hw l h0 n0 (u1.toInt64 - l1.toInt64) (Pre ++ [o2 (.ref (n0 + (N + 1))) (.int 10) (.ref (n0 + (N + 2))) (.ref (n0 + (N + 3))) (.ref (n0 + (N + 4))) (.ref (n0 + (N + 5))) (.ref (n0 + (N + 6))) (.ref (n0 + (N + 7))) (.int 0) .null, aJ ([]), aI (List.replicate 1024 (.int (-1))), aI ([]), aI ([.int l0, (.int 0), (.int 0), (.int 0), (.int 0)]), aI ([.int 0, (.int 0), (.int 0), (.int 0), (.int 0)]), aI ([.int (Int32.ofNat (0)), (.int 0), (.int 0), (.int 0), (.int 0)]), aJ ([.long (mkM (32)), (.long 0), (.long 0), (.long 0), (.long 0)])]) hs1 hg1) (t168 hw) (t169 hw) (t170 hw) (t171 hw) (by decide) pd8 d12_116 (by decide) rfl rfl rfl rfl (Nat.le_of_eq rfl) rfl ?_
  intro T v L' hQ w
  obtain ⟨b1, rfl, hb1, hx1, hL⟩ := hQ
  replace hL := hL.symm
  subst hL
  dsimp only [oS, oN, cA, nA]
  obtain rfl : b1 = 32 := full32 hfull1 hx1 hb1
  refine s_isub (pc' := 120) w d12_119 rfl ?_
  rw [b_sub (by decide : 32 ≤ 32)]
  refine s_istore (pc' := 122) (ls' := #[vR (n0 + (N + 0)), vR (n0 + kA), vI (5 : Int32), vI (0 : Int32), vI (Int32.ofNat 32), vI (1 : Int32), vR (n0 + v1), vJ (u1.toInt64 - l1.toInt64), sc, vI (Int32.ofNat (32))]) w d12_120 rfl rfl ?_
  refine s_iload (pc' := 124) w d12_122 rfl rfl ?_
  refine s_iload (pc' := 126) w d12_124 rfl rfl ?_
  refine s_iadd (pc' := 127) w d12_126 rfl ?_
  rw [b_add]
  refine s_bipush (pc' := 129) (64 : Int32) w d12_127 (by decide) rfl ?_
  refine s_icmpY (pc' := 138) w d12_129 (Jvm.Free.XT.ii_le_t (by decide)) (by decide) (by decide) ?_
  refine s_aloadN (pc' := 139) w d12_138 rfl rfl rfl ?_
  refine s_getL (pc' := 142) (host := "") w (Or.inl (t127 hw)) Via.refl (Lk.new (lk_suf hN rfl)) (j := 4) rfl rfl d12_139 rfl ?_
  intro T w
  refine s_iload (pc' := 144) w d12_142 rfl rfl ?_
  refine s_aload (pc' := 146) w d12_144 rfl rfl rfl ?_
  refine s_virtual (pc' := 149) (rest := [(.int (1 : Int32)), (.ref (n0 + (N + 4)))]) 2 [] w (c_low hw l h0 n0 (n0 + v1) na1 ty1 (.int u1) ini1 pos1 l1 (Pre ++ [o2 (.ref (n0 + (N + 1))) (.int 10) (.ref (n0 + (N + 2))) (.ref (n0 + (N + 3))) (.ref (n0 + (N + 4))) (.ref (n0 + (N + 5))) (.ref (n0 + (N + 6))) (.ref (n0 + (N + 7))) (.int 0) .null, aJ ([]), aI (List.replicate 1024 (.int (-1))), aI ([]), aI ([.int l0, (.int 0), (.int 0), (.int 0), (.int 0)]), aI ([.int 0, (.int 0), (.int 0), (.int 0), (.int 0)]), aI ([.int (Int32.ofNat (0)), (.int 0), (.int 0), (.int 0), (.int 0)]), aJ ([.long (mkM (32)), (.long 0), (.long 0), (.long 0), (.long 0)])]) (Lk.new (lk_app pV1))) (Lk.new (lk_app pV1)) (t163 hw) (t164 hw) (w.notFace (t166 hw)) (t166 hw) (t165 hw) (t28 hw) (t167 hw) (by decide) pd11 d12_146 (by decide) rfl rfl rfl rfl (Nat.le_of_eq rfl) rfl ?_
  intro T v L' hQ w
  obtain ⟨rfl, hL⟩ := hQ
  replace hL := hL.symm
  subst hL
  dsimp only [oS, oN, cA, nA]
  refine s_iastore (pc' := 150) (k := (N + 4)) w (lk_suf hN rfl) d12_149 (by decide) (leB rfl) rfl ?_
  intro T w
  rw [set_suf hN] at w
  replace w : St p l e _ s m _ below meth c Z _ _ _ _ h0 n0 T (Pre ++ [o2 (.ref (n0 + (N + 1))) (.int 10) (.ref (n0 + (N + 2))) (.ref (n0 + (N + 3))) (.ref (n0 + (N + 4))) (.ref (n0 + (N + 5))) (.ref (n0 + (N + 6))) (.ref (n0 + (N + 7))) (.int 0) .null, aJ ([]), aI (List.replicate 1024 (.int (-1))), aI ([]), aI ([.int l0, .int l1, (.int 0), (.int 0), (.int 0)]), aI ([.int 0, (.int 0), (.int 0), (.int 0), (.int 0)]), aI ([.int (Int32.ofNat (0)), (.int 0), (.int 0), (.int 0), (.int 0)]), aJ ([.long (mkM (32)), (.long 0), (.long 0), (.long 0), (.long 0)])]) 7 1044 := w
  refine s_aloadN (pc' := 151) w d12_150 rfl rfl rfl ?_
  refine s_getL (pc' := 154) (host := "") w (Or.inl (t129 hw)) Via.refl (Lk.new (lk_suf hN rfl)) (j := 5) rfl rfl d12_151 rfl ?_
  intro T w
  refine s_iload (pc' := 156) w d12_154 rfl rfl ?_
  refine s_iloadN (pc' := 157) w d12_156 rfl rfl ?_
  refine s_iastore (pc' := 158) (k := (N + 5)) w (lk_suf hN rfl) d12_157 (by decide) (leB rfl) rfl ?_
  intro T w
  rw [set_suf hN] at w
  replace w : St p l e _ s m _ below meth c Z _ _ _ _ h0 n0 T (Pre ++ [o2 (.ref (n0 + (N + 1))) (.int 10) (.ref (n0 + (N + 2))) (.ref (n0 + (N + 3))) (.ref (n0 + (N + 4))) (.ref (n0 + (N + 5))) (.ref (n0 + (N + 6))) (.ref (n0 + (N + 7))) (.int 0) .null, aJ ([]), aI (List.replicate 1024 (.int (-1))), aI ([]), aI ([.int l0, .int l1, (.int 0), (.int 0), (.int 0)]), aI ([.int 0, .int 0, (.int 0), (.int 0), (.int 0)]), aI ([.int (Int32.ofNat (0)), (.int 0), (.int 0), (.int 0), (.int 0)]), aJ ([.long (mkM (32)), (.long 0), (.long 0), (.long 0), (.long 0)])]) 7 1044 := w
  refine s_aloadN (pc' := 159) w d12_158 rfl rfl rfl ?_
  refine s_getL (pc' := 162) (host := "") w (Or.inl (t131 hw)) Via.refl (Lk.new (lk_suf hN rfl)) (j := 6) rfl rfl d12_159 rfl ?_
  intro T w
  refine s_iload (pc' := 164) w d12_162 rfl rfl ?_
  refine s_iload (pc' := 166) w d12_164 rfl rfl ?_
  refine s_iastore (pc' := 167) (k := (N + 6)) w (lk_suf hN rfl) d12_166 (by decide) (leB rfl) rfl ?_
  intro T w
  rw [set_suf hN] at w
  replace w : St p l e _ s m _ below meth c Z _ _ _ _ h0 n0 T (Pre ++ [o2 (.ref (n0 + (N + 1))) (.int 10) (.ref (n0 + (N + 2))) (.ref (n0 + (N + 3))) (.ref (n0 + (N + 4))) (.ref (n0 + (N + 5))) (.ref (n0 + (N + 6))) (.ref (n0 + (N + 7))) (.int 0) .null, aJ ([]), aI (List.replicate 1024 (.int (-1))), aI ([]), aI ([.int l0, .int l1, (.int 0), (.int 0), (.int 0)]), aI ([.int 0, .int 0, (.int 0), (.int 0), (.int 0)]), aI ([.int (Int32.ofNat (0)), .int (Int32.ofNat (32)), (.int 0), (.int 0), (.int 0)]), aJ ([.long (mkM (32)), (.long 0), (.long 0), (.long 0), (.long 0)])]) 7 1044 := w
  refine s_aloadN (pc' := 168) w d12_167 rfl rfl rfl ?_
  refine s_getL (pc' := 171) (host := "") w (Or.inl (t133 hw)) Via.refl (Lk.new (lk_suf hN rfl)) (j := 7) rfl rfl d12_168 rfl ?_
  intro T w
  refine s_iload (pc' := 173) w d12_171 rfl rfl ?_
  refine s_lconst (pc' := 174) (1 : Int64) w d12_173 (by decide) rfl ?_
  refine s_iload (pc' := 176) w d12_174 rfl rfl ?_
  refine s_lshl (pc' := 177) w d12_176 rfl ?_
  refine s_lconst (pc' := 178) (1 : Int64) w d12_177 (by decide) rfl ?_
  refine s_lsub (pc' := 179) w d12_178 rfl ?_
  refine s_lastore (pc' := 180) (k := (N + 7)) w (lk_suf hN rfl) d12_179 (by decide) (leB rfl) rfl ?_
  intro T w
  rw [set_suf hN] at w
  replace w : St p l e _ s m _ below meth c Z _ _ _ _ h0 n0 T (Pre ++ [o2 (.ref (n0 + (N + 1))) (.int 10) (.ref (n0 + (N + 2))) (.ref (n0 + (N + 3))) (.ref (n0 + (N + 4))) (.ref (n0 + (N + 5))) (.ref (n0 + (N + 6))) (.ref (n0 + (N + 7))) (.int 0) .null, aJ ([]), aI (List.replicate 1024 (.int (-1))), aI ([]), aI ([.int l0, .int l1, (.int 0), (.int 0), (.int 0)]), aI ([.int 0, .int 0, (.int 0), (.int 0), (.int 0)]), aI ([.int (Int32.ofNat (0)), .int (Int32.ofNat (32)), (.int 0), (.int 0), (.int 0)]), aJ ([.long (mkM (32)), .long (mkM (32)), (.long 0), (.long 0), (.long 0)])]) 7 1044 := w
  refine s_iload (pc' := 182) w d12_180 rfl rfl ?_
  refine s_iload (pc' := 184) w d12_182 rfl rfl ?_
  refine s_iadd (pc' := 185) w d12_184 rfl ?_
  rw [b_add]
  refine s_istore (pc' := 187) (ls' := #[vR (n0 + (N + 0)), vR (n0 + kA), vI (5 : Int32), vI (0 : Int32), vI (Int32.ofNat (32 + 32)), vI (1 : Int32), vR (n0 + v1), vJ (u1.toInt64 - l1.toInt64), sc, vI (Int32.ofNat (32))]) w d12_185 rfl rfl ?_
  refine s_iinc (pc' := 190) (ls' := #[vR (n0 + (N + 0)), vR (n0 + kA), vI (5 : Int32), vI (0 : Int32), vI (Int32.ofNat (32 + 32)), vI ((1 : Int32) + (1 : Int32)), vR (n0 + v1), vJ (u1.toInt64 - l1.toInt64), sc, vI (Int32.ofNat (32))]) (1 : Int32) w d12_187 (by decide) rfl rfl rfl ?_
  rw [show (1 : Int32) + 1 = 2 by decide]
  refine s_goto (pc' := 78) w d12_190 (by decide) (by decide) ?_
  change Go p e below _ T (mkF m 78 #[vR (n0 + (N + 0)), vR (n0 + kA), vI (5 : Int32), vI (0 : Int32), vI (Int32.ofNat 64), vI (2 : Int32), vR (n0 + v1), vJ (u1.toInt64 - l1.toInt64), sc, vI (Int32.ofNat (32))] [])
  refine s_iload (pc' := 80) w d12_78 rfl rfl ?_
  refine s_iloadN (pc' := 81) w d12_80 rfl rfl ?_
  refine s_icmpN (pc' := 84) w d12_81 (Jvm.Free.XT.ii_ge_f (by decide)) rfl ?_
  refine s_aloadN (pc' := 85) w d12_84 rfl rfl rfl ?_
  refine s_iload (pc' := 87) w d12_85 rfl rfl ?_
  refine s_face (pc' := 92) (rest := []) 0 [(.int (2 : Int32))] w (c_get hw l h0 n0 (n0 + kA) (n0 + kE) mc 5 2 es (n0 + v2) (Pre ++ [o2 (.ref (n0 + (N + 1))) (.int 10) (.ref (n0 + (N + 2))) (.ref (n0 + (N + 3))) (.ref (n0 + (N + 4))) (.ref (n0 + (N + 5))) (.ref (n0 + (N + 6))) (.ref (n0 + (N + 7))) (.int 0) .null, aJ ([]), aI (List.replicate 1024 (.int (-1))), aI ([]), aI ([.int l0, .int l1, (.int 0), (.int 0), (.int 0)]), aI ([.int 0, .int 0, (.int 0), (.int 0), (.int 0)]), aI ([.int (Int32.ofNat (0)), .int (Int32.ofNat (32)), (.int 0), (.int 0), (.int 0)]), aJ ([.long (mkM (32)), .long (mkM (32)), (.long 0), (.long 0), (.long 0)])]) (Lk.new (lk_app pA)) (Lk.new (lk_app pE)) (by decide) he2 (by decide)) (Lk.new (lk_app pA)) (t135 hw) (t136 hw) (t137 hw) (t138 hw) (t139 hw) (t140 hw) (t141 hw) (t125 hw) (t2 hw) (t142 hw) (by decide) pd6 d12_87 (by decide) rfl rfl rfl rfl (Nat.le_of_eq rfl) rfl ?_
  intro T v L' hQ w
  obtain ⟨rfl, hL⟩ := hQ
  replace hL := hL.symm
  subst hL
  dsimp only [oS, oN, cA, nA]
  refine s_checkcast (pc' := 95) w (t156 hw) (Lk.new (lk_app pV2)) (Or.inl rfl) d12_92 rfl ?_
  intro T w
  refine s_astore (pc' := 97) (ls' := #[vR (n0 + (N + 0)), vR (n0 + kA), vI (5 : Int32), vI (0 : Int32), vI (Int32.ofNat 64), vI (2 : Int32), vR (n0 + v2), vJ (u1.toInt64 - l1.toInt64), sc, vI (Int32.ofNat (32))]) w d12_95 rfl rfl rfl ?_
  refine s_aload (pc' := 99) w d12_97 rfl rfl rfl ?_
  refine s_virtual (pc' := 102) (rest := []) 0 [] w (c_high hw l h0 n0 (n0 + v2) na2 ty2 (.int l2) ini2 pos2 u2 (Pre ++ [o2 (.ref (n0 + (N + 1))) (.int 10) (.ref (n0 + (N + 2))) (.ref (n0 + (N + 3))) (.ref (n0 + (N + 4))) (.ref (n0 + (N + 5))) (.ref (n0 + (N + 6))) (.ref (n0 + (N + 7))) (.int 0) .null, aJ ([]), aI (List.replicate 1024 (.int (-1))), aI ([]), aI ([.int l0, .int l1, (.int 0), (.int 0), (.int 0)]), aI ([.int 0, .int 0, (.int 0), (.int 0), (.int 0)]), aI ([.int (Int32.ofNat (0)), .int (Int32.ofNat (32)), (.int 0), (.int 0), (.int 0)]), aJ ([.long (mkM (32)), .long (mkM (32)), (.long 0), (.long 0), (.long 0)])]) (Lk.new (lk_app pV2))) (Lk.new (lk_app pV2)) (t158 hw) (t159 hw) (w.notFace (t161 hw)) (t161 hw) (t160 hw) (t28 hw) (t162 hw) (by decide) pd11 d12_99 (by decide) rfl rfl rfl rfl (Nat.le_of_eq rfl) rfl ?_
  intro T v L' hQ w
  obtain ⟨rfl, hL⟩ := hQ
  replace hL := hL.symm
  subst hL
  dsimp only [oS, oN, cA, nA]
  refine s_i2l (pc' := 103) w d12_102 rfl ?_
  refine s_aload (pc' := 105) w d12_103 rfl rfl rfl ?_
  refine s_virtual (pc' := 108) (rest := [(.long u2.toInt64)]) 2 [] w (c_low hw l h0 n0 (n0 + v2) na2 ty2 (.int u2) ini2 pos2 l2 (Pre ++ [o2 (.ref (n0 + (N + 1))) (.int 10) (.ref (n0 + (N + 2))) (.ref (n0 + (N + 3))) (.ref (n0 + (N + 4))) (.ref (n0 + (N + 5))) (.ref (n0 + (N + 6))) (.ref (n0 + (N + 7))) (.int 0) .null, aJ ([]), aI (List.replicate 1024 (.int (-1))), aI ([]), aI ([.int l0, .int l1, (.int 0), (.int 0), (.int 0)]), aI ([.int 0, .int 0, (.int 0), (.int 0), (.int 0)]), aI ([.int (Int32.ofNat (0)), .int (Int32.ofNat (32)), (.int 0), (.int 0), (.int 0)]), aJ ([.long (mkM (32)), .long (mkM (32)), (.long 0), (.long 0), (.long 0)])]) (Lk.new (lk_app pV2))) (Lk.new (lk_app pV2)) (t163 hw) (t164 hw) (w.notFace (t166 hw)) (t166 hw) (t165 hw) (t28 hw) (t167 hw) (by decide) pd11 d12_105 (by decide) rfl rfl rfl rfl (Nat.le_of_eq rfl) rfl ?_
  intro T v L' hQ w
  obtain ⟨rfl, hL⟩ := hQ
  replace hL := hL.symm
  subst hL
  dsimp only [oS, oN, cA, nA]
  refine s_i2l (pc' := 109) w d12_108 rfl ?_
  refine s_lsub (pc' := 110) w d12_109 rfl ?_
  refine s_lstore (pc' := 112) (ls' := #[vR (n0 + (N + 0)), vR (n0 + kA), vI (5 : Int32), vI (0 : Int32), vI (Int32.ofNat 64), vI (2 : Int32), vR (n0 + v2), vJ (u2.toInt64 - l2.toInt64), sc, vI (Int32.ofNat (32))]) w d12_110 rfl rfl ?_
  refine s_bipush (pc' := 114) (64 : Int32) w d12_112 (by decide) rfl ?_
  refine s_lload (pc' := 116) w d12_114 rfl rfl ?_
  refine s_static (pc' := 119) (rest := [(.int (64 : Int32))]) 1 [(.long (u2.toInt64 - l2.toInt64))] w (c_nlz64 hw l h0 n0 (u2.toInt64 - l2.toInt64) (Pre ++ [o2 (.ref (n0 + (N + 1))) (.int 10) (.ref (n0 + (N + 2))) (.ref (n0 + (N + 3))) (.ref (n0 + (N + 4))) (.ref (n0 + (N + 5))) (.ref (n0 + (N + 6))) (.ref (n0 + (N + 7))) (.int 0) .null, aJ ([]), aI (List.replicate 1024 (.int (-1))), aI ([]), aI ([.int l0, .int l1, (.int 0), (.int 0), (.int 0)]), aI ([.int 0, .int 0, (.int 0), (.int 0), (.int 0)]), aI ([.int (Int32.ofNat (0)), .int (Int32.ofNat (32)), (.int 0), (.int 0), (.int 0)]), aJ ([.long (mkM (32)), .long (mkM (32)), (.long 0), (.long 0), (.long 0)])]) hs2 hg2) (t168 hw) (t169 hw) (t170 hw) (t171 hw) (by decide) pd8 d12_116 (by decide) rfl rfl rfl rfl (Nat.le_of_eq rfl) rfl ?_
  intro T v L' hQ w
  obtain ⟨b2, rfl, hb2, hx2, hL⟩ := hQ
  replace hL := hL.symm
  subst hL
  dsimp only [oS, oN, cA, nA]
  obtain rfl : b2 = 32 := full32 hfull2 hx2 hb2
  refine s_isub (pc' := 120) w d12_119 rfl ?_
  rw [b_sub (by decide : 32 ≤ 32)]
  refine s_istore (pc' := 122) (ls' := #[vR (n0 + (N + 0)), vR (n0 + kA), vI (5 : Int32), vI (0 : Int32), vI (Int32.ofNat 64), vI (2 : Int32), vR (n0 + v2), vJ (u2.toInt64 - l2.toInt64), sc, vI (Int32.ofNat (32))]) w d12_120 rfl rfl ?_
  refine s_iload (pc' := 124) w d12_122 rfl rfl ?_
  refine s_iload (pc' := 126) w d12_124 rfl rfl ?_
  refine s_iadd (pc' := 127) w d12_126 rfl ?_
  rw [b_add]
  refine s_bipush (pc' := 129) (64 : Int32) w d12_127 (by decide) rfl ?_
  refine s_icmpN (pc' := 132) w d12_129 (Jvm.Free.XT.ii_le_f (by decide)) rfl ?_
  refine s_iinc (pc' := 135) (ls' := #[vR (n0 + (N + 0)), vR (n0 + kA), vI (5 : Int32), vI ((0 : Int32) + (1 : Int32)), vI (Int32.ofNat 64), vI (2 : Int32), vR (n0 + v2), vJ (u2.toInt64 - l2.toInt64), sc, vI (Int32.ofNat (32))]) (1 : Int32) w d12_132 (by decide) rfl rfl rfl ?_
  rw [show (0 : Int32) + 1 = 1 by decide]
  refine s_iconst (pc' := 136) (0 : Int32) w d12_135 (by decide) rfl ?_
  change Go p e below _ T (mkF m 136 #[vR (n0 + (N + 0)), vR (n0 + kA), vI (5 : Int32), vI (1 : Int32), vI (Int32.ofNat 64), vI (2 : Int32), vR (n0 + v2), vJ (u2.toInt64 - l2.toInt64), sc, vI (Int32.ofNat (32))] [(.int (Int32.ofNat 0))])
  refine s_istore (pc' := 138) (ls' := #[vR (n0 + (N + 0)), vR (n0 + kA), vI (5 : Int32), vI (1 : Int32), vI (Int32.ofNat 0), vI (2 : Int32), vR (n0 + v2), vJ (u2.toInt64 - l2.toInt64), sc, vI (Int32.ofNat (32))]) w d12_136 rfl rfl ?_
  refine s_aloadN (pc' := 139) w d12_138 rfl rfl rfl ?_
  refine s_getL (pc' := 142) (host := "") w (Or.inl (t127 hw)) Via.refl (Lk.new (lk_suf hN rfl)) (j := 4) rfl rfl d12_139 rfl ?_
  intro T w
  refine s_iload (pc' := 144) w d12_142 rfl rfl ?_
  refine s_aload (pc' := 146) w d12_144 rfl rfl rfl ?_
  refine s_virtual (pc' := 149) (rest := [(.int (2 : Int32)), (.ref (n0 + (N + 4)))]) 2 [] w (c_low hw l h0 n0 (n0 + v2) na2 ty2 (.int u2) ini2 pos2 l2 (Pre ++ [o2 (.ref (n0 + (N + 1))) (.int 10) (.ref (n0 + (N + 2))) (.ref (n0 + (N + 3))) (.ref (n0 + (N + 4))) (.ref (n0 + (N + 5))) (.ref (n0 + (N + 6))) (.ref (n0 + (N + 7))) (.int 0) .null, aJ ([]), aI (List.replicate 1024 (.int (-1))), aI ([]), aI ([.int l0, .int l1, (.int 0), (.int 0), (.int 0)]), aI ([.int 0, .int 0, (.int 0), (.int 0), (.int 0)]), aI ([.int (Int32.ofNat (0)), .int (Int32.ofNat (32)), (.int 0), (.int 0), (.int 0)]), aJ ([.long (mkM (32)), .long (mkM (32)), (.long 0), (.long 0), (.long 0)])]) (Lk.new (lk_app pV2))) (Lk.new (lk_app pV2)) (t163 hw) (t164 hw) (w.notFace (t166 hw)) (t166 hw) (t165 hw) (t28 hw) (t167 hw) (by decide) pd11 d12_146 (by decide) rfl rfl rfl rfl (Nat.le_of_eq rfl) rfl ?_
  intro T v L' hQ w
  obtain ⟨rfl, hL⟩ := hQ
  replace hL := hL.symm
  subst hL
  dsimp only [oS, oN, cA, nA]
  refine s_iastore (pc' := 150) (k := (N + 4)) w (lk_suf hN rfl) d12_149 (by decide) (leB rfl) rfl ?_
  intro T w
  rw [set_suf hN] at w
  replace w : St p l e _ s m _ below meth c Z _ _ _ _ h0 n0 T (Pre ++ [o2 (.ref (n0 + (N + 1))) (.int 10) (.ref (n0 + (N + 2))) (.ref (n0 + (N + 3))) (.ref (n0 + (N + 4))) (.ref (n0 + (N + 5))) (.ref (n0 + (N + 6))) (.ref (n0 + (N + 7))) (.int 0) .null, aJ ([]), aI (List.replicate 1024 (.int (-1))), aI ([]), aI ([.int l0, .int l1, .int l2, (.int 0), (.int 0)]), aI ([.int 0, .int 0, (.int 0), (.int 0), (.int 0)]), aI ([.int (Int32.ofNat (0)), .int (Int32.ofNat (32)), (.int 0), (.int 0), (.int 0)]), aJ ([.long (mkM (32)), .long (mkM (32)), (.long 0), (.long 0), (.long 0)])]) 7 1044 := w
  refine s_aloadN (pc' := 151) w d12_150 rfl rfl rfl ?_
  refine s_getL (pc' := 154) (host := "") w (Or.inl (t129 hw)) Via.refl (Lk.new (lk_suf hN rfl)) (j := 5) rfl rfl d12_151 rfl ?_
  intro T w
  refine s_iload (pc' := 156) w d12_154 rfl rfl ?_
  refine s_iloadN (pc' := 157) w d12_156 rfl rfl ?_
  refine s_iastore (pc' := 158) (k := (N + 5)) w (lk_suf hN rfl) d12_157 (by decide) (leB rfl) rfl ?_
  intro T w
  rw [set_suf hN] at w
  replace w : St p l e _ s m _ below meth c Z _ _ _ _ h0 n0 T (Pre ++ [o2 (.ref (n0 + (N + 1))) (.int 10) (.ref (n0 + (N + 2))) (.ref (n0 + (N + 3))) (.ref (n0 + (N + 4))) (.ref (n0 + (N + 5))) (.ref (n0 + (N + 6))) (.ref (n0 + (N + 7))) (.int 0) .null, aJ ([]), aI (List.replicate 1024 (.int (-1))), aI ([]), aI ([.int l0, .int l1, .int l2, (.int 0), (.int 0)]), aI ([.int 0, .int 0, .int 1, (.int 0), (.int 0)]), aI ([.int (Int32.ofNat (0)), .int (Int32.ofNat (32)), (.int 0), (.int 0), (.int 0)]), aJ ([.long (mkM (32)), .long (mkM (32)), (.long 0), (.long 0), (.long 0)])]) 7 1044 := w
  refine s_aloadN (pc' := 159) w d12_158 rfl rfl rfl ?_
  refine s_getL (pc' := 162) (host := "") w (Or.inl (t131 hw)) Via.refl (Lk.new (lk_suf hN rfl)) (j := 6) rfl rfl d12_159 rfl ?_
  intro T w
  refine s_iload (pc' := 164) w d12_162 rfl rfl ?_
  refine s_iload (pc' := 166) w d12_164 rfl rfl ?_
  refine s_iastore (pc' := 167) (k := (N + 6)) w (lk_suf hN rfl) d12_166 (by decide) (leB rfl) rfl ?_
  intro T w
  rw [set_suf hN] at w
  replace w : St p l e _ s m _ below meth c Z _ _ _ _ h0 n0 T (Pre ++ [o2 (.ref (n0 + (N + 1))) (.int 10) (.ref (n0 + (N + 2))) (.ref (n0 + (N + 3))) (.ref (n0 + (N + 4))) (.ref (n0 + (N + 5))) (.ref (n0 + (N + 6))) (.ref (n0 + (N + 7))) (.int 0) .null, aJ ([]), aI (List.replicate 1024 (.int (-1))), aI ([]), aI ([.int l0, .int l1, .int l2, (.int 0), (.int 0)]), aI ([.int 0, .int 0, .int 1, (.int 0), (.int 0)]), aI ([.int (Int32.ofNat (0)), .int (Int32.ofNat (32)), .int (Int32.ofNat (0)), (.int 0), (.int 0)]), aJ ([.long (mkM (32)), .long (mkM (32)), (.long 0), (.long 0), (.long 0)])]) 7 1044 := w
  refine s_aloadN (pc' := 168) w d12_167 rfl rfl rfl ?_
  refine s_getL (pc' := 171) (host := "") w (Or.inl (t133 hw)) Via.refl (Lk.new (lk_suf hN rfl)) (j := 7) rfl rfl d12_168 rfl ?_
  intro T w
  refine s_iload (pc' := 173) w d12_171 rfl rfl ?_
  refine s_lconst (pc' := 174) (1 : Int64) w d12_173 (by decide) rfl ?_
  refine s_iload (pc' := 176) w d12_174 rfl rfl ?_
  refine s_lshl (pc' := 177) w d12_176 rfl ?_
  refine s_lconst (pc' := 178) (1 : Int64) w d12_177 (by decide) rfl ?_
  refine s_lsub (pc' := 179) w d12_178 rfl ?_
  refine s_lastore (pc' := 180) (k := (N + 7)) w (lk_suf hN rfl) d12_179 (by decide) (leB rfl) rfl ?_
  intro T w
  rw [set_suf hN] at w
  replace w : St p l e _ s m _ below meth c Z _ _ _ _ h0 n0 T (Pre ++ [o2 (.ref (n0 + (N + 1))) (.int 10) (.ref (n0 + (N + 2))) (.ref (n0 + (N + 3))) (.ref (n0 + (N + 4))) (.ref (n0 + (N + 5))) (.ref (n0 + (N + 6))) (.ref (n0 + (N + 7))) (.int 0) .null, aJ ([]), aI (List.replicate 1024 (.int (-1))), aI ([]), aI ([.int l0, .int l1, .int l2, (.int 0), (.int 0)]), aI ([.int 0, .int 0, .int 1, (.int 0), (.int 0)]), aI ([.int (Int32.ofNat (0)), .int (Int32.ofNat (32)), .int (Int32.ofNat (0)), (.int 0), (.int 0)]), aJ ([.long (mkM (32)), .long (mkM (32)), .long (mkM (32)), (.long 0), (.long 0)])]) 7 1044 := w
  refine s_iload (pc' := 182) w d12_180 rfl rfl ?_
  refine s_iload (pc' := 184) w d12_182 rfl rfl ?_
  refine s_iadd (pc' := 185) w d12_184 rfl ?_
  rw [b_add]
  refine s_istore (pc' := 187) (ls' := #[vR (n0 + (N + 0)), vR (n0 + kA), vI (5 : Int32), vI (1 : Int32), vI (Int32.ofNat (0 + 32)), vI (2 : Int32), vR (n0 + v2), vJ (u2.toInt64 - l2.toInt64), sc, vI (Int32.ofNat (32))]) w d12_185 rfl rfl ?_
  refine s_iinc (pc' := 190) (ls' := #[vR (n0 + (N + 0)), vR (n0 + kA), vI (5 : Int32), vI (1 : Int32), vI (Int32.ofNat (0 + 32)), vI ((2 : Int32) + (1 : Int32)), vR (n0 + v2), vJ (u2.toInt64 - l2.toInt64), sc, vI (Int32.ofNat (32))]) (1 : Int32) w d12_187 (by decide) rfl rfl rfl ?_
  rw [show (2 : Int32) + 1 = 3 by decide]
  refine s_goto (pc' := 78) w d12_190 (by decide) (by decide) ?_
  change Go p e below _ T (mkF m 78 #[vR (n0 + (N + 0)), vR (n0 + kA), vI (5 : Int32), vI (1 : Int32), vI (Int32.ofNat 32), vI (3 : Int32), vR (n0 + v2), vJ (u2.toInt64 - l2.toInt64), sc, vI (Int32.ofNat (32))] [])
  refine s_iload (pc' := 80) w d12_78 rfl rfl ?_
  refine s_iloadN (pc' := 81) w d12_80 rfl rfl ?_
  refine s_icmpN (pc' := 84) w d12_81 (Jvm.Free.XT.ii_ge_f (by decide)) rfl ?_
  refine s_aloadN (pc' := 85) w d12_84 rfl rfl rfl ?_
  refine s_iload (pc' := 87) w d12_85 rfl rfl ?_
  refine s_face (pc' := 92) (rest := []) 0 [(.int (3 : Int32))] w (c_get hw l h0 n0 (n0 + kA) (n0 + kE) mc 5 3 es (n0 + v3) (Pre ++ [o2 (.ref (n0 + (N + 1))) (.int 10) (.ref (n0 + (N + 2))) (.ref (n0 + (N + 3))) (.ref (n0 + (N + 4))) (.ref (n0 + (N + 5))) (.ref (n0 + (N + 6))) (.ref (n0 + (N + 7))) (.int 0) .null, aJ ([]), aI (List.replicate 1024 (.int (-1))), aI ([]), aI ([.int l0, .int l1, .int l2, (.int 0), (.int 0)]), aI ([.int 0, .int 0, .int 1, (.int 0), (.int 0)]), aI ([.int (Int32.ofNat (0)), .int (Int32.ofNat (32)), .int (Int32.ofNat (0)), (.int 0), (.int 0)]), aJ ([.long (mkM (32)), .long (mkM (32)), .long (mkM (32)), (.long 0), (.long 0)])]) (Lk.new (lk_app pA)) (Lk.new (lk_app pE)) (by decide) he3 (by decide)) (Lk.new (lk_app pA)) (t135 hw) (t136 hw) (t137 hw) (t138 hw) (t139 hw) (t140 hw) (t141 hw) (t125 hw) (t2 hw) (t142 hw) (by decide) pd6 d12_87 (by decide) rfl rfl rfl rfl (Nat.le_of_eq rfl) rfl ?_
  intro T v L' hQ w
  obtain ⟨rfl, hL⟩ := hQ
  replace hL := hL.symm
  subst hL
  dsimp only [oS, oN, cA, nA]
  refine s_checkcast (pc' := 95) w (t156 hw) (Lk.new (lk_app pV3)) (Or.inl rfl) d12_92 rfl ?_
  intro T w
  refine s_astore (pc' := 97) (ls' := #[vR (n0 + (N + 0)), vR (n0 + kA), vI (5 : Int32), vI (1 : Int32), vI (Int32.ofNat 32), vI (3 : Int32), vR (n0 + v3), vJ (u2.toInt64 - l2.toInt64), sc, vI (Int32.ofNat (32))]) w d12_95 rfl rfl rfl ?_
  refine s_aload (pc' := 99) w d12_97 rfl rfl rfl ?_
  refine s_virtual (pc' := 102) (rest := []) 0 [] w (c_high hw l h0 n0 (n0 + v3) na3 ty3 (.int l3) ini3 pos3 u3 (Pre ++ [o2 (.ref (n0 + (N + 1))) (.int 10) (.ref (n0 + (N + 2))) (.ref (n0 + (N + 3))) (.ref (n0 + (N + 4))) (.ref (n0 + (N + 5))) (.ref (n0 + (N + 6))) (.ref (n0 + (N + 7))) (.int 0) .null, aJ ([]), aI (List.replicate 1024 (.int (-1))), aI ([]), aI ([.int l0, .int l1, .int l2, (.int 0), (.int 0)]), aI ([.int 0, .int 0, .int 1, (.int 0), (.int 0)]), aI ([.int (Int32.ofNat (0)), .int (Int32.ofNat (32)), .int (Int32.ofNat (0)), (.int 0), (.int 0)]), aJ ([.long (mkM (32)), .long (mkM (32)), .long (mkM (32)), (.long 0), (.long 0)])]) (Lk.new (lk_app pV3))) (Lk.new (lk_app pV3)) (t158 hw) (t159 hw) (w.notFace (t161 hw)) (t161 hw) (t160 hw) (t28 hw) (t162 hw) (by decide) pd11 d12_99 (by decide) rfl rfl rfl rfl (Nat.le_of_eq rfl) rfl ?_
  intro T v L' hQ w
  obtain ⟨rfl, hL⟩ := hQ
  replace hL := hL.symm
  subst hL
  dsimp only [oS, oN, cA, nA]
  refine s_i2l (pc' := 103) w d12_102 rfl ?_
  refine s_aload (pc' := 105) w d12_103 rfl rfl rfl ?_
  refine s_virtual (pc' := 108) (rest := [(.long u3.toInt64)]) 2 [] w (c_low hw l h0 n0 (n0 + v3) na3 ty3 (.int u3) ini3 pos3 l3 (Pre ++ [o2 (.ref (n0 + (N + 1))) (.int 10) (.ref (n0 + (N + 2))) (.ref (n0 + (N + 3))) (.ref (n0 + (N + 4))) (.ref (n0 + (N + 5))) (.ref (n0 + (N + 6))) (.ref (n0 + (N + 7))) (.int 0) .null, aJ ([]), aI (List.replicate 1024 (.int (-1))), aI ([]), aI ([.int l0, .int l1, .int l2, (.int 0), (.int 0)]), aI ([.int 0, .int 0, .int 1, (.int 0), (.int 0)]), aI ([.int (Int32.ofNat (0)), .int (Int32.ofNat (32)), .int (Int32.ofNat (0)), (.int 0), (.int 0)]), aJ ([.long (mkM (32)), .long (mkM (32)), .long (mkM (32)), (.long 0), (.long 0)])]) (Lk.new (lk_app pV3))) (Lk.new (lk_app pV3)) (t163 hw) (t164 hw) (w.notFace (t166 hw)) (t166 hw) (t165 hw) (t28 hw) (t167 hw) (by decide) pd11 d12_105 (by decide) rfl rfl rfl rfl (Nat.le_of_eq rfl) rfl ?_
  intro T v L' hQ w
  obtain ⟨rfl, hL⟩ := hQ
  replace hL := hL.symm
  subst hL
  dsimp only [oS, oN, cA, nA]
  refine s_i2l (pc' := 109) w d12_108 rfl ?_
  refine s_lsub (pc' := 110) w d12_109 rfl ?_
  refine s_lstore (pc' := 112) (ls' := #[vR (n0 + (N + 0)), vR (n0 + kA), vI (5 : Int32), vI (1 : Int32), vI (Int32.ofNat 32), vI (3 : Int32), vR (n0 + v3), vJ (u3.toInt64 - l3.toInt64), sc, vI (Int32.ofNat (32))]) w d12_110 rfl rfl ?_
  refine s_bipush (pc' := 114) (64 : Int32) w d12_112 (by decide) rfl ?_
  refine s_lload (pc' := 116) w d12_114 rfl rfl ?_
  refine s_static (pc' := 119) (rest := [(.int (64 : Int32))]) 1 [(.long (u3.toInt64 - l3.toInt64))] w (c_nlz64 hw l h0 n0 (u3.toInt64 - l3.toInt64) (Pre ++ [o2 (.ref (n0 + (N + 1))) (.int 10) (.ref (n0 + (N + 2))) (.ref (n0 + (N + 3))) (.ref (n0 + (N + 4))) (.ref (n0 + (N + 5))) (.ref (n0 + (N + 6))) (.ref (n0 + (N + 7))) (.int 0) .null, aJ ([]), aI (List.replicate 1024 (.int (-1))), aI ([]), aI ([.int l0, .int l1, .int l2, (.int 0), (.int 0)]), aI ([.int 0, .int 0, .int 1, (.int 0), (.int 0)]), aI ([.int (Int32.ofNat (0)), .int (Int32.ofNat (32)), .int (Int32.ofNat (0)), (.int 0), (.int 0)]), aJ ([.long (mkM (32)), .long (mkM (32)), .long (mkM (32)), (.long 0), (.long 0)])]) hs3 hg3) (t168 hw) (t169 hw) (t170 hw) (t171 hw) (by decide) pd8 d12_116 (by decide) rfl rfl rfl rfl (Nat.le_of_eq rfl) rfl ?_
  intro T v L' hQ w
  obtain ⟨b3, rfl, hb3, hx3, hL⟩ := hQ
  replace hL := hL.symm
  subst hL
  dsimp only [oS, oN, cA, nA]
  obtain rfl : b3 = 32 := full32 hfull3 hx3 hb3
  refine s_isub (pc' := 120) w d12_119 rfl ?_
  rw [b_sub (by decide : 32 ≤ 32)]
  refine s_istore (pc' := 122) (ls' := #[vR (n0 + (N + 0)), vR (n0 + kA), vI (5 : Int32), vI (1 : Int32), vI (Int32.ofNat 32), vI (3 : Int32), vR (n0 + v3), vJ (u3.toInt64 - l3.toInt64), sc, vI (Int32.ofNat (32))]) w d12_120 rfl rfl ?_
  refine s_iload (pc' := 124) w d12_122 rfl rfl ?_
  refine s_iload (pc' := 126) w d12_124 rfl rfl ?_
  refine s_iadd (pc' := 127) w d12_126 rfl ?_
  rw [b_add]
  refine s_bipush (pc' := 129) (64 : Int32) w d12_127 (by decide) rfl ?_
  refine s_icmpY (pc' := 138) w d12_129 (Jvm.Free.XT.ii_le_t (by decide)) (by decide) (by decide) ?_
  refine s_aloadN (pc' := 139) w d12_138 rfl rfl rfl ?_
  refine s_getL (pc' := 142) (host := "") w (Or.inl (t127 hw)) Via.refl (Lk.new (lk_suf hN rfl)) (j := 4) rfl rfl d12_139 rfl ?_
  intro T w
  refine s_iload (pc' := 144) w d12_142 rfl rfl ?_
  refine s_aload (pc' := 146) w d12_144 rfl rfl rfl ?_
  refine s_virtual (pc' := 149) (rest := [(.int (3 : Int32)), (.ref (n0 + (N + 4)))]) 2 [] w (c_low hw l h0 n0 (n0 + v3) na3 ty3 (.int u3) ini3 pos3 l3 (Pre ++ [o2 (.ref (n0 + (N + 1))) (.int 10) (.ref (n0 + (N + 2))) (.ref (n0 + (N + 3))) (.ref (n0 + (N + 4))) (.ref (n0 + (N + 5))) (.ref (n0 + (N + 6))) (.ref (n0 + (N + 7))) (.int 0) .null, aJ ([]), aI (List.replicate 1024 (.int (-1))), aI ([]), aI ([.int l0, .int l1, .int l2, (.int 0), (.int 0)]), aI ([.int 0, .int 0, .int 1, (.int 0), (.int 0)]), aI ([.int (Int32.ofNat (0)), .int (Int32.ofNat (32)), .int (Int32.ofNat (0)), (.int 0), (.int 0)]), aJ ([.long (mkM (32)), .long (mkM (32)), .long (mkM (32)), (.long 0), (.long 0)])]) (Lk.new (lk_app pV3))) (Lk.new (lk_app pV3)) (t163 hw) (t164 hw) (w.notFace (t166 hw)) (t166 hw) (t165 hw) (t28 hw) (t167 hw) (by decide) pd11 d12_146 (by decide) rfl rfl rfl rfl (Nat.le_of_eq rfl) rfl ?_
  intro T v L' hQ w
  obtain ⟨rfl, hL⟩ := hQ
  replace hL := hL.symm
  subst hL
  dsimp only [oS, oN, cA, nA]
  refine s_iastore (pc' := 150) (k := (N + 4)) w (lk_suf hN rfl) d12_149 (by decide) (leB rfl) rfl ?_
  intro T w
  rw [set_suf hN] at w
  replace w : St p l e _ s m _ below meth c Z _ _ _ _ h0 n0 T (Pre ++ [o2 (.ref (n0 + (N + 1))) (.int 10) (.ref (n0 + (N + 2))) (.ref (n0 + (N + 3))) (.ref (n0 + (N + 4))) (.ref (n0 + (N + 5))) (.ref (n0 + (N + 6))) (.ref (n0 + (N + 7))) (.int 0) .null, aJ ([]), aI (List.replicate 1024 (.int (-1))), aI ([]), aI ([.int l0, .int l1, .int l2, .int l3, (.int 0)]), aI ([.int 0, .int 0, .int 1, (.int 0), (.int 0)]), aI ([.int (Int32.ofNat (0)), .int (Int32.ofNat (32)), .int (Int32.ofNat (0)), (.int 0), (.int 0)]), aJ ([.long (mkM (32)), .long (mkM (32)), .long (mkM (32)), (.long 0), (.long 0)])]) 7 1044 := w
  refine s_aloadN (pc' := 151) w d12_150 rfl rfl rfl ?_
  refine s_getL (pc' := 154) (host := "") w (Or.inl (t129 hw)) Via.refl (Lk.new (lk_suf hN rfl)) (j := 5) rfl rfl d12_151 rfl ?_
  intro T w
  refine s_iload (pc' := 156) w d12_154 rfl rfl ?_
  refine s_iloadN (pc' := 157) w d12_156 rfl rfl ?_
  refine s_iastore (pc' := 158) (k := (N + 5)) w (lk_suf hN rfl) d12_157 (by decide) (leB rfl) rfl ?_
  intro T w
  rw [set_suf hN] at w
  replace w : St p l e _ s m _ below meth c Z _ _ _ _ h0 n0 T (Pre ++ [o2 (.ref (n0 + (N + 1))) (.int 10) (.ref (n0 + (N + 2))) (.ref (n0 + (N + 3))) (.ref (n0 + (N + 4))) (.ref (n0 + (N + 5))) (.ref (n0 + (N + 6))) (.ref (n0 + (N + 7))) (.int 0) .null, aJ ([]), aI (List.replicate 1024 (.int (-1))), aI ([]), aI ([.int l0, .int l1, .int l2, .int l3, (.int 0)]), aI ([.int 0, .int 0, .int 1, .int 1, (.int 0)]), aI ([.int (Int32.ofNat (0)), .int (Int32.ofNat (32)), .int (Int32.ofNat (0)), (.int 0), (.int 0)]), aJ ([.long (mkM (32)), .long (mkM (32)), .long (mkM (32)), (.long 0), (.long 0)])]) 7 1044 := w
  refine s_aloadN (pc' := 159) w d12_158 rfl rfl rfl ?_
  refine s_getL (pc' := 162) (host := "") w (Or.inl (t131 hw)) Via.refl (Lk.new (lk_suf hN rfl)) (j := 6) rfl rfl d12_159 rfl ?_
  intro T w
  refine s_iload (pc' := 164) w d12_162 rfl rfl ?_
  refine s_iload (pc' := 166) w d12_164 rfl rfl ?_
  refine s_iastore (pc' := 167) (k := (N + 6)) w (lk_suf hN rfl) d12_166 (by decide) (leB rfl) rfl ?_
  intro T w
  rw [set_suf hN] at w
  replace w : St p l e _ s m _ below meth c Z _ _ _ _ h0 n0 T (Pre ++ [o2 (.ref (n0 + (N + 1))) (.int 10) (.ref (n0 + (N + 2))) (.ref (n0 + (N + 3))) (.ref (n0 + (N + 4))) (.ref (n0 + (N + 5))) (.ref (n0 + (N + 6))) (.ref (n0 + (N + 7))) (.int 0) .null, aJ ([]), aI (List.replicate 1024 (.int (-1))), aI ([]), aI ([.int l0, .int l1, .int l2, .int l3, (.int 0)]), aI ([.int 0, .int 0, .int 1, .int 1, (.int 0)]), aI ([.int (Int32.ofNat (0)), .int (Int32.ofNat (32)), .int (Int32.ofNat (0)), .int (Int32.ofNat (32)), (.int 0)]), aJ ([.long (mkM (32)), .long (mkM (32)), .long (mkM (32)), (.long 0), (.long 0)])]) 7 1044 := w
  refine s_aloadN (pc' := 168) w d12_167 rfl rfl rfl ?_
  refine s_getL (pc' := 171) (host := "") w (Or.inl (t133 hw)) Via.refl (Lk.new (lk_suf hN rfl)) (j := 7) rfl rfl d12_168 rfl ?_
  intro T w
  refine s_iload (pc' := 173) w d12_171 rfl rfl ?_
  refine s_lconst (pc' := 174) (1 : Int64) w d12_173 (by decide) rfl ?_
  refine s_iload (pc' := 176) w d12_174 rfl rfl ?_
  refine s_lshl (pc' := 177) w d12_176 rfl ?_
  refine s_lconst (pc' := 178) (1 : Int64) w d12_177 (by decide) rfl ?_
  refine s_lsub (pc' := 179) w d12_178 rfl ?_
  refine s_lastore (pc' := 180) (k := (N + 7)) w (lk_suf hN rfl) d12_179 (by decide) (leB rfl) rfl ?_
  intro T w
  rw [set_suf hN] at w
  replace w : St p l e _ s m _ below meth c Z _ _ _ _ h0 n0 T (Pre ++ [o2 (.ref (n0 + (N + 1))) (.int 10) (.ref (n0 + (N + 2))) (.ref (n0 + (N + 3))) (.ref (n0 + (N + 4))) (.ref (n0 + (N + 5))) (.ref (n0 + (N + 6))) (.ref (n0 + (N + 7))) (.int 0) .null, aJ ([]), aI (List.replicate 1024 (.int (-1))), aI ([]), aI ([.int l0, .int l1, .int l2, .int l3, (.int 0)]), aI ([.int 0, .int 0, .int 1, .int 1, (.int 0)]), aI ([.int (Int32.ofNat (0)), .int (Int32.ofNat (32)), .int (Int32.ofNat (0)), .int (Int32.ofNat (32)), (.int 0)]), aJ ([.long (mkM (32)), .long (mkM (32)), .long (mkM (32)), .long (mkM (32)), (.long 0)])]) 7 1044 := w
  refine s_iload (pc' := 182) w d12_180 rfl rfl ?_
  refine s_iload (pc' := 184) w d12_182 rfl rfl ?_
  refine s_iadd (pc' := 185) w d12_184 rfl ?_
  rw [b_add]
  refine s_istore (pc' := 187) (ls' := #[vR (n0 + (N + 0)), vR (n0 + kA), vI (5 : Int32), vI (1 : Int32), vI (Int32.ofNat (32 + 32)), vI (3 : Int32), vR (n0 + v3), vJ (u3.toInt64 - l3.toInt64), sc, vI (Int32.ofNat (32))]) w d12_185 rfl rfl ?_
  refine s_iinc (pc' := 190) (ls' := #[vR (n0 + (N + 0)), vR (n0 + kA), vI (5 : Int32), vI (1 : Int32), vI (Int32.ofNat (32 + 32)), vI ((3 : Int32) + (1 : Int32)), vR (n0 + v3), vJ (u3.toInt64 - l3.toInt64), sc, vI (Int32.ofNat (32))]) (1 : Int32) w d12_187 (by decide) rfl rfl rfl ?_
  rw [show (3 : Int32) + 1 = 4 by decide]
  refine s_goto (pc' := 78) w d12_190 (by decide) (by decide) ?_
  change Go p e below _ T (mkF m 78 #[vR (n0 + (N + 0)), vR (n0 + kA), vI (5 : Int32), vI (1 : Int32), vI (Int32.ofNat 64), vI (4 : Int32), vR (n0 + v3), vJ (u3.toInt64 - l3.toInt64), sc, vI (Int32.ofNat (32))] [])
  refine s_iload (pc' := 80) w d12_78 rfl rfl ?_
  refine s_iloadN (pc' := 81) w d12_80 rfl rfl ?_
  refine s_icmpN (pc' := 84) w d12_81 (Jvm.Free.XT.ii_ge_f (by decide)) rfl ?_
  refine s_aloadN (pc' := 85) w d12_84 rfl rfl rfl ?_
  refine s_iload (pc' := 87) w d12_85 rfl rfl ?_
  refine s_face (pc' := 92) (rest := []) 0 [(.int (4 : Int32))] w (c_get hw l h0 n0 (n0 + kA) (n0 + kE) mc 5 4 es (n0 + v4) (Pre ++ [o2 (.ref (n0 + (N + 1))) (.int 10) (.ref (n0 + (N + 2))) (.ref (n0 + (N + 3))) (.ref (n0 + (N + 4))) (.ref (n0 + (N + 5))) (.ref (n0 + (N + 6))) (.ref (n0 + (N + 7))) (.int 0) .null, aJ ([]), aI (List.replicate 1024 (.int (-1))), aI ([]), aI ([.int l0, .int l1, .int l2, .int l3, (.int 0)]), aI ([.int 0, .int 0, .int 1, .int 1, (.int 0)]), aI ([.int (Int32.ofNat (0)), .int (Int32.ofNat (32)), .int (Int32.ofNat (0)), .int (Int32.ofNat (32)), (.int 0)]), aJ ([.long (mkM (32)), .long (mkM (32)), .long (mkM (32)), .long (mkM (32)), (.long 0)])]) (Lk.new (lk_app pA)) (Lk.new (lk_app pE)) (by decide) he4 (by decide)) (Lk.new (lk_app pA)) (t135 hw) (t136 hw) (t137 hw) (t138 hw) (t139 hw) (t140 hw) (t141 hw) (t125 hw) (t2 hw) (t142 hw) (by decide) pd6 d12_87 (by decide) rfl rfl rfl rfl (Nat.le_of_eq rfl) rfl ?_
  intro T v L' hQ w
  obtain ⟨rfl, hL⟩ := hQ
  replace hL := hL.symm
  subst hL
  dsimp only [oS, oN, cA, nA]
  refine s_checkcast (pc' := 95) w (t156 hw) (Lk.new (lk_app pV4)) (Or.inl rfl) d12_92 rfl ?_
  intro T w
  refine s_astore (pc' := 97) (ls' := #[vR (n0 + (N + 0)), vR (n0 + kA), vI (5 : Int32), vI (1 : Int32), vI (Int32.ofNat 64), vI (4 : Int32), vR (n0 + v4), vJ (u3.toInt64 - l3.toInt64), sc, vI (Int32.ofNat (32))]) w d12_95 rfl rfl rfl ?_
  refine s_aload (pc' := 99) w d12_97 rfl rfl rfl ?_
  refine s_virtual (pc' := 102) (rest := []) 0 [] w (c_high hw l h0 n0 (n0 + v4) na4 ty4 (.int l4) ini4 pos4 u4 (Pre ++ [o2 (.ref (n0 + (N + 1))) (.int 10) (.ref (n0 + (N + 2))) (.ref (n0 + (N + 3))) (.ref (n0 + (N + 4))) (.ref (n0 + (N + 5))) (.ref (n0 + (N + 6))) (.ref (n0 + (N + 7))) (.int 0) .null, aJ ([]), aI (List.replicate 1024 (.int (-1))), aI ([]), aI ([.int l0, .int l1, .int l2, .int l3, (.int 0)]), aI ([.int 0, .int 0, .int 1, .int 1, (.int 0)]), aI ([.int (Int32.ofNat (0)), .int (Int32.ofNat (32)), .int (Int32.ofNat (0)), .int (Int32.ofNat (32)), (.int 0)]), aJ ([.long (mkM (32)), .long (mkM (32)), .long (mkM (32)), .long (mkM (32)), (.long 0)])]) (Lk.new (lk_app pV4))) (Lk.new (lk_app pV4)) (t158 hw) (t159 hw) (w.notFace (t161 hw)) (t161 hw) (t160 hw) (t28 hw) (t162 hw) (by decide) pd11 d12_99 (by decide) rfl rfl rfl rfl (Nat.le_of_eq rfl) rfl ?_
  intro T v L' hQ w
  obtain ⟨rfl, hL⟩ := hQ
  replace hL := hL.symm
  subst hL
  dsimp only [oS, oN, cA, nA]
  refine s_i2l (pc' := 103) w d12_102 rfl ?_
  refine s_aload (pc' := 105) w d12_103 rfl rfl rfl ?_
  refine s_virtual (pc' := 108) (rest := [(.long u4.toInt64)]) 2 [] w (c_low hw l h0 n0 (n0 + v4) na4 ty4 (.int u4) ini4 pos4 l4 (Pre ++ [o2 (.ref (n0 + (N + 1))) (.int 10) (.ref (n0 + (N + 2))) (.ref (n0 + (N + 3))) (.ref (n0 + (N + 4))) (.ref (n0 + (N + 5))) (.ref (n0 + (N + 6))) (.ref (n0 + (N + 7))) (.int 0) .null, aJ ([]), aI (List.replicate 1024 (.int (-1))), aI ([]), aI ([.int l0, .int l1, .int l2, .int l3, (.int 0)]), aI ([.int 0, .int 0, .int 1, .int 1, (.int 0)]), aI ([.int (Int32.ofNat (0)), .int (Int32.ofNat (32)), .int (Int32.ofNat (0)), .int (Int32.ofNat (32)), (.int 0)]), aJ ([.long (mkM (32)), .long (mkM (32)), .long (mkM (32)), .long (mkM (32)), (.long 0)])]) (Lk.new (lk_app pV4))) (Lk.new (lk_app pV4)) (t163 hw) (t164 hw) (w.notFace (t166 hw)) (t166 hw) (t165 hw) (t28 hw) (t167 hw) (by decide) pd11 d12_105 (by decide) rfl rfl rfl rfl (Nat.le_of_eq rfl) rfl ?_
  intro T v L' hQ w
  obtain ⟨rfl, hL⟩ := hQ
  replace hL := hL.symm
  subst hL
  dsimp only [oS, oN, cA, nA]
  refine s_i2l (pc' := 109) w d12_108 rfl ?_
  refine s_lsub (pc' := 110) w d12_109 rfl ?_
  refine s_lstore (pc' := 112) (ls' := #[vR (n0 + (N + 0)), vR (n0 + kA), vI (5 : Int32), vI (1 : Int32), vI (Int32.ofNat 64), vI (4 : Int32), vR (n0 + v4), vJ (u4.toInt64 - l4.toInt64), sc, vI (Int32.ofNat (32))]) w d12_110 rfl rfl ?_
  refine s_bipush (pc' := 114) (64 : Int32) w d12_112 (by decide) rfl ?_
  refine s_lload (pc' := 116) w d12_114 rfl rfl ?_
  refine s_static (pc' := 119) (rest := [(.int (64 : Int32))]) 1 [(.long (u4.toInt64 - l4.toInt64))] w (c_nlz64 hw l h0 n0 (u4.toInt64 - l4.toInt64) (Pre ++ [o2 (.ref (n0 + (N + 1))) (.int 10) (.ref (n0 + (N + 2))) (.ref (n0 + (N + 3))) (.ref (n0 + (N + 4))) (.ref (n0 + (N + 5))) (.ref (n0 + (N + 6))) (.ref (n0 + (N + 7))) (.int 0) .null, aJ ([]), aI (List.replicate 1024 (.int (-1))), aI ([]), aI ([.int l0, .int l1, .int l2, .int l3, (.int 0)]), aI ([.int 0, .int 0, .int 1, .int 1, (.int 0)]), aI ([.int (Int32.ofNat (0)), .int (Int32.ofNat (32)), .int (Int32.ofNat (0)), .int (Int32.ofNat (32)), (.int 0)]), aJ ([.long (mkM (32)), .long (mkM (32)), .long (mkM (32)), .long (mkM (32)), (.long 0)])]) hs4 hg4) (t168 hw) (t169 hw) (t170 hw) (t171 hw) (by decide) pd8 d12_116 (by decide) rfl rfl rfl rfl (Nat.le_of_eq rfl) rfl ?_
  intro T v L' hQ w
  obtain ⟨b4, rfl, hb4, hx4, hL⟩ := hQ
  replace hL := hL.symm
  subst hL
  dsimp only [oS, oN, cA, nA]
  obtain rfl : b4 = 32 := full32 hfull4 hx4 hb4
  refine s_isub (pc' := 120) w d12_119 rfl ?_
  rw [b_sub (by decide : 32 ≤ 32)]
  refine s_istore (pc' := 122) (ls' := #[vR (n0 + (N + 0)), vR (n0 + kA), vI (5 : Int32), vI (1 : Int32), vI (Int32.ofNat 64), vI (4 : Int32), vR (n0 + v4), vJ (u4.toInt64 - l4.toInt64), sc, vI (Int32.ofNat (32))]) w d12_120 rfl rfl ?_
  refine s_iload (pc' := 124) w d12_122 rfl rfl ?_
  refine s_iload (pc' := 126) w d12_124 rfl rfl ?_
  refine s_iadd (pc' := 127) w d12_126 rfl ?_
  rw [b_add]
  refine s_bipush (pc' := 129) (64 : Int32) w d12_127 (by decide) rfl ?_
  refine s_icmpN (pc' := 132) w d12_129 (Jvm.Free.XT.ii_le_f (by decide)) rfl ?_
  refine s_iinc (pc' := 135) (ls' := #[vR (n0 + (N + 0)), vR (n0 + kA), vI (5 : Int32), vI ((1 : Int32) + (1 : Int32)), vI (Int32.ofNat 64), vI (4 : Int32), vR (n0 + v4), vJ (u4.toInt64 - l4.toInt64), sc, vI (Int32.ofNat (32))]) (1 : Int32) w d12_132 (by decide) rfl rfl rfl ?_
  rw [show (1 : Int32) + 1 = 2 by decide]
  refine s_iconst (pc' := 136) (0 : Int32) w d12_135 (by decide) rfl ?_
  change Go p e below _ T (mkF m 136 #[vR (n0 + (N + 0)), vR (n0 + kA), vI (5 : Int32), vI (2 : Int32), vI (Int32.ofNat 64), vI (4 : Int32), vR (n0 + v4), vJ (u4.toInt64 - l4.toInt64), sc, vI (Int32.ofNat (32))] [(.int (Int32.ofNat 0))])
  refine s_istore (pc' := 138) (ls' := #[vR (n0 + (N + 0)), vR (n0 + kA), vI (5 : Int32), vI (2 : Int32), vI (Int32.ofNat 0), vI (4 : Int32), vR (n0 + v4), vJ (u4.toInt64 - l4.toInt64), sc, vI (Int32.ofNat (32))]) w d12_136 rfl rfl ?_
  refine s_aloadN (pc' := 139) w d12_138 rfl rfl rfl ?_
  refine s_getL (pc' := 142) (host := "") w (Or.inl (t127 hw)) Via.refl (Lk.new (lk_suf hN rfl)) (j := 4) rfl rfl d12_139 rfl ?_
  intro T w
  refine s_iload (pc' := 144) w d12_142 rfl rfl ?_
  refine s_aload (pc' := 146) w d12_144 rfl rfl rfl ?_
  refine s_virtual (pc' := 149) (rest := [(.int (4 : Int32)), (.ref (n0 + (N + 4)))]) 2 [] w (c_low hw l h0 n0 (n0 + v4) na4 ty4 (.int u4) ini4 pos4 l4 (Pre ++ [o2 (.ref (n0 + (N + 1))) (.int 10) (.ref (n0 + (N + 2))) (.ref (n0 + (N + 3))) (.ref (n0 + (N + 4))) (.ref (n0 + (N + 5))) (.ref (n0 + (N + 6))) (.ref (n0 + (N + 7))) (.int 0) .null, aJ ([]), aI (List.replicate 1024 (.int (-1))), aI ([]), aI ([.int l0, .int l1, .int l2, .int l3, (.int 0)]), aI ([.int 0, .int 0, .int 1, .int 1, (.int 0)]), aI ([.int (Int32.ofNat (0)), .int (Int32.ofNat (32)), .int (Int32.ofNat (0)), .int (Int32.ofNat (32)), (.int 0)]), aJ ([.long (mkM (32)), .long (mkM (32)), .long (mkM (32)), .long (mkM (32)), (.long 0)])]) (Lk.new (lk_app pV4))) (Lk.new (lk_app pV4)) (t163 hw) (t164 hw) (w.notFace (t166 hw)) (t166 hw) (t165 hw) (t28 hw) (t167 hw) (by decide) pd11 d12_146 (by decide) rfl rfl rfl rfl (Nat.le_of_eq rfl) rfl ?_
  intro T v L' hQ w
  obtain ⟨rfl, hL⟩ := hQ
  replace hL := hL.symm
  subst hL
  dsimp only [oS, oN, cA, nA]
  refine s_iastore (pc' := 150) (k := (N + 4)) w (lk_suf hN rfl) d12_149 (by decide) (leB rfl) rfl ?_
  intro T w
  rw [set_suf hN] at w
  replace w : St p l e _ s m _ below meth c Z _ _ _ _ h0 n0 T (Pre ++ [o2 (.ref (n0 + (N + 1))) (.int 10) (.ref (n0 + (N + 2))) (.ref (n0 + (N + 3))) (.ref (n0 + (N + 4))) (.ref (n0 + (N + 5))) (.ref (n0 + (N + 6))) (.ref (n0 + (N + 7))) (.int 0) .null, aJ ([]), aI (List.replicate 1024 (.int (-1))), aI ([]), aI ([.int l0, .int l1, .int l2, .int l3, .int l4]), aI ([.int 0, .int 0, .int 1, .int 1, (.int 0)]), aI ([.int (Int32.ofNat (0)), .int (Int32.ofNat (32)), .int (Int32.ofNat (0)), .int (Int32.ofNat (32)), (.int 0)]), aJ ([.long (mkM (32)), .long (mkM (32)), .long (mkM (32)), .long (mkM (32)), (.long 0)])]) 7 1044 := w
  refine s_aloadN (pc' := 151) w d12_150 rfl rfl rfl ?_
  refine s_getL (pc' := 154) (host := "") w (Or.inl (t129 hw)) Via.refl (Lk.new (lk_suf hN rfl)) (j := 5) rfl rfl d12_151 rfl ?_
  intro T w
  refine s_iload (pc' := 156) w d12_154 rfl rfl ?_
  refine s_iloadN (pc' := 157) w d12_156 rfl rfl ?_
  refine s_iastore (pc' := 158) (k := (N + 5)) w (lk_suf hN rfl) d12_157 (by decide) (leB rfl) rfl ?_
  intro T w
  rw [set_suf hN] at w
  replace w : St p l e _ s m _ below meth c Z _ _ _ _ h0 n0 T (Pre ++ [o2 (.ref (n0 + (N + 1))) (.int 10) (.ref (n0 + (N + 2))) (.ref (n0 + (N + 3))) (.ref (n0 + (N + 4))) (.ref (n0 + (N + 5))) (.ref (n0 + (N + 6))) (.ref (n0 + (N + 7))) (.int 0) .null, aJ ([]), aI (List.replicate 1024 (.int (-1))), aI ([]), aI ([.int l0, .int l1, .int l2, .int l3, .int l4]), aI ([.int 0, .int 0, .int 1, .int 1, .int 2]), aI ([.int (Int32.ofNat (0)), .int (Int32.ofNat (32)), .int (Int32.ofNat (0)), .int (Int32.ofNat (32)), (.int 0)]), aJ ([.long (mkM (32)), .long (mkM (32)), .long (mkM (32)), .long (mkM (32)), (.long 0)])]) 7 1044 := w
  refine s_aloadN (pc' := 159) w d12_158 rfl rfl rfl ?_
  refine s_getL (pc' := 162) (host := "") w (Or.inl (t131 hw)) Via.refl (Lk.new (lk_suf hN rfl)) (j := 6) rfl rfl d12_159 rfl ?_
  intro T w
  refine s_iload (pc' := 164) w d12_162 rfl rfl ?_
  refine s_iload (pc' := 166) w d12_164 rfl rfl ?_
  refine s_iastore (pc' := 167) (k := (N + 6)) w (lk_suf hN rfl) d12_166 (by decide) (leB rfl) rfl ?_
  intro T w
  rw [set_suf hN] at w
  replace w : St p l e _ s m _ below meth c Z _ _ _ _ h0 n0 T (Pre ++ [o2 (.ref (n0 + (N + 1))) (.int 10) (.ref (n0 + (N + 2))) (.ref (n0 + (N + 3))) (.ref (n0 + (N + 4))) (.ref (n0 + (N + 5))) (.ref (n0 + (N + 6))) (.ref (n0 + (N + 7))) (.int 0) .null, aJ ([]), aI (List.replicate 1024 (.int (-1))), aI ([]), aI ([.int l0, .int l1, .int l2, .int l3, .int l4]), aI ([.int 0, .int 0, .int 1, .int 1, .int 2]), aI ([.int (Int32.ofNat (0)), .int (Int32.ofNat (32)), .int (Int32.ofNat (0)), .int (Int32.ofNat (32)), .int (Int32.ofNat (0))]), aJ ([.long (mkM (32)), .long (mkM (32)), .long (mkM (32)), .long (mkM (32)), (.long 0)])]) 7 1044 := w
  refine s_aloadN (pc' := 168) w d12_167 rfl rfl rfl ?_
  refine s_getL (pc' := 171) (host := "") w (Or.inl (t133 hw)) Via.refl (Lk.new (lk_suf hN rfl)) (j := 7) rfl rfl d12_168 rfl ?_
  intro T w
  refine s_iload (pc' := 173) w d12_171 rfl rfl ?_
  refine s_lconst (pc' := 174) (1 : Int64) w d12_173 (by decide) rfl ?_
  refine s_iload (pc' := 176) w d12_174 rfl rfl ?_
  refine s_lshl (pc' := 177) w d12_176 rfl ?_
  refine s_lconst (pc' := 178) (1 : Int64) w d12_177 (by decide) rfl ?_
  refine s_lsub (pc' := 179) w d12_178 rfl ?_
  refine s_lastore (pc' := 180) (k := (N + 7)) w (lk_suf hN rfl) d12_179 (by decide) (leB rfl) rfl ?_
  intro T w
  rw [set_suf hN] at w
  replace w : St p l e _ s m _ below meth c Z _ _ _ _ h0 n0 T (Pre ++ [o2 (.ref (n0 + (N + 1))) (.int 10) (.ref (n0 + (N + 2))) (.ref (n0 + (N + 3))) (.ref (n0 + (N + 4))) (.ref (n0 + (N + 5))) (.ref (n0 + (N + 6))) (.ref (n0 + (N + 7))) (.int 0) .null, aJ ([]), aI (List.replicate 1024 (.int (-1))), aI ([]), aI ([.int l0, .int l1, .int l2, .int l3, .int l4]), aI ([.int 0, .int 0, .int 1, .int 1, .int 2]), aI ([.int (Int32.ofNat (0)), .int (Int32.ofNat (32)), .int (Int32.ofNat (0)), .int (Int32.ofNat (32)), .int (Int32.ofNat (0))]), aJ ([.long (mkM (32)), .long (mkM (32)), .long (mkM (32)), .long (mkM (32)), .long (mkM (32))])]) 7 1044 := w
  refine s_iload (pc' := 182) w d12_180 rfl rfl ?_
  refine s_iload (pc' := 184) w d12_182 rfl rfl ?_
  refine s_iadd (pc' := 185) w d12_184 rfl ?_
  rw [b_add]
  refine s_istore (pc' := 187) (ls' := #[vR (n0 + (N + 0)), vR (n0 + kA), vI (5 : Int32), vI (2 : Int32), vI (Int32.ofNat (0 + 32)), vI (4 : Int32), vR (n0 + v4), vJ (u4.toInt64 - l4.toInt64), sc, vI (Int32.ofNat (32))]) w d12_185 rfl rfl ?_
  refine s_iinc (pc' := 190) (ls' := #[vR (n0 + (N + 0)), vR (n0 + kA), vI (5 : Int32), vI (2 : Int32), vI (Int32.ofNat (0 + 32)), vI ((4 : Int32) + (1 : Int32)), vR (n0 + v4), vJ (u4.toInt64 - l4.toInt64), sc, vI (Int32.ofNat (32))]) (1 : Int32) w d12_187 (by decide) rfl rfl rfl ?_
  rw [show (4 : Int32) + 1 = 5 by decide]
  refine s_goto (pc' := 78) w d12_190 (by decide) (by decide) ?_
  change Go p e below _ T (mkF m 78 #[vR (n0 + (N + 0)), vR (n0 + kA), vI (5 : Int32), vI (2 : Int32), vI (Int32.ofNat 32), vI (5 : Int32), vR (n0 + v4), vJ (u4.toInt64 - l4.toInt64), sc, vI (Int32.ofNat (32))] [])
  refine s_iload (pc' := 80) w d12_78 rfl rfl ?_
  refine s_iloadN (pc' := 81) w d12_80 rfl rfl ?_
  refine s_icmpY (pc' := 193) w d12_81 (Jvm.Free.XT.ii_ge_t (by decide)) (by decide) (by decide) ?_
  refine s_aloadN (pc' := 194) w d12_193 rfl rfl rfl ?_
  refine s_iloadN (pc' := 195) w d12_194 rfl rfl ?_
  refine s_iconst (pc' := 196) (1 : Int32) w d12_195 (by decide) rfl ?_
  refine s_iadd (pc' := 197) w d12_196 rfl ?_
  rw [show (2 : Int32) + 1 = 3 by decide]
  refine s_put (pc' := 200) (host := "") (k := (N + 0)) w (Or.inl (t176 hw)) Via.refl (cls2 hw) (lk_suf hN rfl) (j := 8) rfl (leB rfl) (Or.inr ⟨(t177 hw), rfl, rfl⟩) (ty := .int) (by decide +kernel) rfl rfl d12_197 rfl ?_
  intro T w
  rw [set_suf hN] at w
  replace w : St p l e _ s m _ below meth c Z _ _ _ _ h0 n0 T (Pre ++ [o2 (.ref (n0 + (N + 1))) (.int 10) (.ref (n0 + (N + 2))) (.ref (n0 + (N + 3))) (.ref (n0 + (N + 4))) (.ref (n0 + (N + 5))) (.ref (n0 + (N + 6))) (.ref (n0 + (N + 7))) (.int 3) .null, aJ ([]), aI (List.replicate 1024 (.int (-1))), aI ([]), aI ([.int l0, .int l1, .int l2, .int l3, .int l4]), aI ([.int 0, .int 0, .int 1, .int 1, .int 2]), aI ([.int (Int32.ofNat (0)), .int (Int32.ofNat (32)), .int (Int32.ofNat (0)), .int (Int32.ofNat (32)), .int (Int32.ofNat (0))]), aJ ([.long (mkM (32)), .long (mkM (32)), .long (mkM (32)), .long (mkM (32)), .long (mkM (32))])]) 7 1044 := w
  refine s_aloadN (pc' := 201) w d12_200 rfl rfl rfl ?_
  refine s_aloadN (pc' := 202) w d12_201 rfl rfl rfl ?_
  refine s_getL (pc' := 205) (host := "") w (Or.inl (t176 hw)) Via.refl (Lk.new (lk_suf hN rfl)) (j := 8) rfl rfl d12_202 rfl ?_
  intro T w
  refine s_newarray (pc' := 207) (ty := .long) w (t98 hw) rfl (by intro C h; cases h) d12_205 (by decide) 3 (by decide) (by decide) (by decide) (by decide) (N + 8) (by rw [List.length_append, hN]; rfl) rfl ?_
  intro T w
  rw [List.append_assoc] at w
  replace w : St p l e _ s m _ below meth c Z _ _ _ _ h0 n0 T (Pre ++ [o2 (.ref (n0 + (N + 1))) (.int 10) (.ref (n0 + (N + 2))) (.ref (n0 + (N + 3))) (.ref (n0 + (N + 4))) (.ref (n0 + (N + 5))) (.ref (n0 + (N + 6))) (.ref (n0 + (N + 7))) (.int 3) .null, aJ ([]), aI (List.replicate 1024 (.int (-1))), aI ([]), aI ([.int l0, .int l1, .int l2, .int l3, .int l4]), aI ([.int 0, .int 0, .int 1, .int 1, .int 2]), aI ([.int (Int32.ofNat (0)), .int (Int32.ofNat (32)), .int (Int32.ofNat (0)), .int (Int32.ofNat (32)), .int (Int32.ofNat (0))]), aJ ([.long (mkM (32)), .long (mkM (32)), .long (mkM (32)), .long (mkM (32)), .long (mkM (32))]), aJ ([(.long 0), (.long 0), (.long 0)])]) 8 1047 := w
  refine s_put (pc' := 210) (host := "") (k := (N + 0)) w (Or.inl (t178 hw)) Via.refl (cls2 hw) (lk_suf hN rfl) (j := 9) rfl (leB rfl) (Or.inr ⟨(t179 hw), rfl, rfl⟩) (ty := (.array .long)) (by decide +kernel) rfl rfl d12_207 rfl ?_
  intro T w
  rw [set_suf hN] at w
  replace w : St p l e _ s m _ below meth c Z _ _ _ _ h0 n0 T (Pre ++ [o2 (.ref (n0 + (N + 1))) (.int 10) (.ref (n0 + (N + 2))) (.ref (n0 + (N + 3))) (.ref (n0 + (N + 4))) (.ref (n0 + (N + 5))) (.ref (n0 + (N + 6))) (.ref (n0 + (N + 7))) (.int 3) (.ref (n0 + (N + 8))), aJ ([]), aI (List.replicate 1024 (.int (-1))), aI ([]), aI ([.int l0, .int l1, .int l2, .int l3, .int l4]), aI ([.int 0, .int 0, .int 1, .int 1, .int 2]), aI ([.int (Int32.ofNat (0)), .int (Int32.ofNat (32)), .int (Int32.ofNat (0)), .int (Int32.ofNat (32)), .int (Int32.ofNat (0))]), aJ ([.long (mkM (32)), .long (mkM (32)), .long (mkM (32)), .long (mkM (32)), .long (mkM (32))]), aJ ([(.long 0), (.long 0), (.long 0)])]) 8 1047 := w
  exact s_return w d12_210 (by decide) (by decide) ⟨rfl, rfl⟩
set_option maxRecDepth 65536 in
set_option maxHeartbeats 40000000 in
theorem c_hash1 {Z : State} {a0 : Array Value} (hw : Tw Z a0) (l : Launch) (h0 : Heap) (n0 : Nat) (a b : Addr) (n : Nat) (vs : List Value) (x0 : Int64) (Ls : List Ob) (fv : List Value) (q : Lk Z h0 n0 Ls a (.inl ("com/example/ryazan/ryazan/statespace/StateStore", fs2, fv))) (hwp : fv[8]? = some (.int 1)) (qf : Lk Z h0 n0 Ls b (aJ (vs))) (hn : n < 1000) (hv0 : vs[n + 0]? = some (.long x0)) :
    Met1 l Z (⟨"com/example/ryazan/ryazan/statespace/StateStore", "hash", "([JI)I"⟩ : MethodName) prog_197_method_25_code 6 (some .int) ({ frames := 0, cells := 0, slots := 0, locals := 0 } : Room) #[(.ref a), (.ref b), (.int (Int32.ofNat n))] h0 n0 Ls (fun v L => v = some (.int (hfin (hfold [x0]))) ∧ L = Ls) [] := by
  refine Met1.of (ls := #[vR a, vR b, vI (Int32.ofNat n), un, un, un]) (plainFor_of_name pn10) (fun m => by first | (simp [entryFrame, mkF, argsToLocals, Value.category]; done) | rfl) ?_
  intro p e s m below meth c T w
  refine s_lconst (pc' := 1) (0 : Int64) w d26_0 (by decide) rfl ?_
  refine s_lstoreN (pc' := 2) (ls' := #[vR a, vR b, vI (Int32.ofNat n), vJ (0 : Int64), sc, un]) w d26_1 rfl rfl ?_
  refine s_iloadN (pc' := 3) w d26_2 rfl rfl ?_
  refine s_istore (pc' := 5) (ls' := #[vR a, vR b, vI (Int32.ofNat n), vJ (0 : Int64), sc, vI (Int32.ofNat n)]) w d26_3 rfl rfl ?_
  change Go p e below _ T (mkF m 5 #[vR a, vR b, vI (Int32.ofNat n), vJ (0 : Int64), sc, vI (Int32.ofNat (n + 0))] [])
  refine s_iload (pc' := 7) w d26_5 rfl rfl ?_
  refine s_iloadN (pc' := 8) w d26_7 rfl rfl ?_
  refine s_aloadN (pc' := 9) w d26_8 rfl rfl rfl ?_
  refine s_getL (pc' := 12) (host := "") w (Or.inl (t176 hw)) Via.refl q (j := 8) rfl hwp d26_9 rfl ?_
  intro T w
  refine s_iadd (pc' := 13) w d26_12 rfl ?_
  rw [show Int32.ofNat n + (1 : Int32) = Int32.ofNat (n + 1) from b_add n 1]
  refine s_icmpN (pc' := 16) w d26_13 (Jvm.Free.XT.ii_ge_f (i_in hn (by decide) (by decide))) rfl ?_
  refine s_lloadN (pc' := 17) w d26_16 rfl rfl ?_
  refine s_aloadN (pc' := 18) w d26_17 rfl rfl rfl ?_
  refine s_iload (pc' := 20) w d26_18 rfl rfl ?_
  refine s_laload (pc' := 21) (v := (.long x0)) w qf d26_20 (i_nn (by omega)) (by rw [i_cl (by omega)]; exact hv0) rfl ?_
  refine s_ladd (pc' := 22) w d26_21 rfl ?_
  refine s_ldc2 (pc' := 25) w (t190 hw) d26_22 rfl ?_
  refine s_lmul (pc' := 26) w d26_25 rfl ?_
  refine s_lstoreN (pc' := 27) (ls' := #[vR a, vR b, vI (Int32.ofNat n), vJ (((0 : Int64) + x0) * (-7046029254386353131 : Int64)), sc, vI (Int32.ofNat (n + 0))]) w d26_26 rfl rfl ?_
  refine s_iinc (pc' := 30) (ls' := #[vR a, vR b, vI (Int32.ofNat n), vJ (((0 : Int64) + x0) * (-7046029254386353131 : Int64)), sc, vI ((Int32.ofNat (n + 0)) + (1 : Int32))]) (1 : Int32) w d26_27 (by decide) rfl rfl rfl ?_
  rw [show Int32.ofNat (n + 0) + (1 : Int32) = Int32.ofNat (n + 1) from b_add (n + 0) 1]
  refine s_goto (pc' := 5) w d26_30 (by decide) (by decide) ?_
  refine s_iload (pc' := 7) w d26_5 rfl rfl ?_
  refine s_iloadN (pc' := 8) w d26_7 rfl rfl ?_
  refine s_aloadN (pc' := 9) w d26_8 rfl rfl rfl ?_
  refine s_getL (pc' := 12) (host := "") w (Or.inl (t176 hw)) Via.refl q (j := 8) rfl hwp d26_9 rfl ?_
  intro T w
  refine s_iadd (pc' := 13) w d26_12 rfl ?_
  rw [show Int32.ofNat n + (1 : Int32) = Int32.ofNat (n + 1) from b_add n 1]
  refine s_icmpY (pc' := 33) w d26_13 (Jvm.Free.XT.ii_ge_t (i_out hn (by decide))) (by decide) (by decide) ?_
  refine s_lloadN (pc' := 34) w d26_33 rfl rfl ?_
  refine s_lloadN (pc' := 35) w d26_34 rfl rfl ?_
  refine s_bipush (pc' := 37) (29 : Int32) w d26_35 (by decide) rfl ?_
  refine s_lushr (pc' := 38) w d26_37 rfl ?_
  refine s_lxor (pc' := 39) w d26_38 rfl ?_
  refine s_lstoreN (pc' := 40) (ls' := #[vR a, vR b, vI (Int32.ofNat n), vJ ((((0 : Int64) + x0) * (-7046029254386353131 : Int64)) ^^^ (Jvm.Free.XT.ushrL (((0 : Int64) + x0) * (-7046029254386353131 : Int64)) (29 : Int32))), sc, vI (Int32.ofNat (n + 1))]) w d26_39 rfl rfl ?_
  refine s_lloadN (pc' := 41) w d26_40 rfl rfl ?_
  refine s_ldc2 (pc' := 44) w (t191 hw) d26_41 rfl ?_
  refine s_lmul (pc' := 45) w d26_44 rfl ?_
  refine s_lstoreN (pc' := 46) (ls' := #[vR a, vR b, vI (Int32.ofNat n), vJ (((((0 : Int64) + x0) * (-7046029254386353131 : Int64)) ^^^ (Jvm.Free.XT.ushrL (((0 : Int64) + x0) * (-7046029254386353131 : Int64)) (29 : Int32))) * (-4658895280553007687 : Int64)), sc, vI (Int32.ofNat (n + 1))]) w d26_45 rfl rfl ?_
  refine s_lloadN (pc' := 47) w d26_46 rfl rfl ?_
  refine s_lloadN (pc' := 48) w d26_47 rfl rfl ?_
  refine s_bipush (pc' := 50) (32 : Int32) w d26_48 (by decide) rfl ?_
  refine s_lushr (pc' := 51) w d26_50 rfl ?_
  refine s_lxor (pc' := 52) w d26_51 rfl ?_
  refine s_lstoreN (pc' := 53) (ls' := #[vR a, vR b, vI (Int32.ofNat n), vJ ((((((0 : Int64) + x0) * (-7046029254386353131 : Int64)) ^^^ (Jvm.Free.XT.ushrL (((0 : Int64) + x0) * (-7046029254386353131 : Int64)) (29 : Int32))) * (-4658895280553007687 : Int64)) ^^^ (Jvm.Free.XT.ushrL (((((0 : Int64) + x0) * (-7046029254386353131 : Int64)) ^^^ (Jvm.Free.XT.ushrL (((0 : Int64) + x0) * (-7046029254386353131 : Int64)) (29 : Int32))) * (-4658895280553007687 : Int64)) (32 : Int32))), sc, vI (Int32.ofNat (n + 1))]) w d26_52 rfl rfl ?_
  refine s_lloadN (pc' := 54) w d26_53 rfl rfl ?_
  refine s_l2i (pc' := 55) w d26_54 rfl ?_
  exact s_ireturn w d26_55 (by decide) (by decide) ⟨rfl, rfl⟩
set_option maxRecDepth 65536 in
set_option maxHeartbeats 40000000 in
theorem c_hash2 {Z : State} {a0 : Array Value} (hw : Tw Z a0) (l : Launch) (h0 : Heap) (n0 : Nat) (a b : Addr) (n : Nat) (vs : List Value) (x0 : Int64) (x1 : Int64) (Ls : List Ob) (fv : List Value) (q : Lk Z h0 n0 Ls a (.inl ("com/example/ryazan/ryazan/statespace/StateStore", fs2, fv))) (hwp : fv[8]? = some (.int 2)) (qf : Lk Z h0 n0 Ls b (aJ (vs))) (hn : n < 1000) (hv0 : vs[n + 0]? = some (.long x0)) (hv1 : vs[n + 1]? = some (.long x1)) :
    Met1 l Z (⟨"com/example/ryazan/ryazan/statespace/StateStore", "hash", "([JI)I"⟩ : MethodName) prog_197_method_25_code 6 (some .int) ({ frames := 0, cells := 0, slots := 0, locals := 0 } : Room) #[(.ref a), (.ref b), (.int (Int32.ofNat n))] h0 n0 Ls (fun v L => v = some (.int (hfin (hfold [x0, x1]))) ∧ L = Ls) [] := by
  refine Met1.of (ls := #[vR a, vR b, vI (Int32.ofNat n), un, un, un]) (plainFor_of_name pn10) (fun m => by first | (simp [entryFrame, mkF, argsToLocals, Value.category]; done) | rfl) ?_
  intro p e s m below meth c T w
  refine s_lconst (pc' := 1) (0 : Int64) w d26_0 (by decide) rfl ?_
  refine s_lstoreN (pc' := 2) (ls' := #[vR a, vR b, vI (Int32.ofNat n), vJ (0 : Int64), sc, un]) w d26_1 rfl rfl ?_
  refine s_iloadN (pc' := 3) w d26_2 rfl rfl ?_
  refine s_istore (pc' := 5) (ls' := #[vR a, vR b, vI (Int32.ofNat n), vJ (0 : Int64), sc, vI (Int32.ofNat n)]) w d26_3 rfl rfl ?_
  change Go p e below _ T (mkF m 5 #[vR a, vR b, vI (Int32.ofNat n), vJ (0 : Int64), sc, vI (Int32.ofNat (n + 0))] [])
  refine s_iload (pc' := 7) w d26_5 rfl rfl ?_
  refine s_iloadN (pc' := 8) w d26_7 rfl rfl ?_
  refine s_aloadN (pc' := 9) w d26_8 rfl rfl rfl ?_
  refine s_getL (pc' := 12) (host := "") w (Or.inl (t176 hw)) Via.refl q (j := 8) rfl hwp d26_9 rfl ?_
  intro T w
  refine s_iadd (pc' := 13) w d26_12 rfl ?_
  rw [show Int32.ofNat n + (2 : Int32) = Int32.ofNat (n + 2) from b_add n 2]
  refine s_icmpN (pc' := 16) w d26_13 (Jvm.Free.XT.ii_ge_f (i_in hn (by decide) (by decide))) rfl ?_
  refine s_lloadN (pc' := 17) w d26_16 rfl rfl ?_
  refine s_aloadN (pc' := 18) w d26_17 rfl rfl rfl ?_
  refine s_iload (pc' := 20) w d26_18 rfl rfl ?_
  refine s_laload (pc' := 21) (v := (.long x0)) w qf d26_20 (i_nn (by omega)) (by rw [i_cl (by omega)]; exact hv0) rfl ?_
  refine s_ladd (pc' := 22) w d26_21 rfl ?_
  refine s_ldc2 (pc' := 25) w (t190 hw) d26_22 rfl ?_
  refine s_lmul (pc' := 26) w d26_25 rfl ?_
  refine s_lstoreN (pc' := 27) (ls' := #[vR a, vR b, vI (Int32.ofNat n), vJ (((0 : Int64) + x0) * (-7046029254386353131 : Int64)), sc, vI (Int32.ofNat (n + 0))]) w d26_26 rfl rfl ?_
  refine s_iinc (pc' := 30) (ls' := #[vR a, vR b, vI (Int32.ofNat n), vJ (((0 : Int64) + x0) * (-7046029254386353131 : Int64)), sc, vI ((Int32.ofNat (n + 0)) + (1 : Int32))]) (1 : Int32) w d26_27 (by decide) rfl rfl rfl ?_
  rw [show Int32.ofNat (n + 0) + (1 : Int32) = Int32.ofNat (n + 1) from b_add (n + 0) 1]
  refine s_goto (pc' := 5) w d26_30 (by decide) (by decide) ?_
  refine s_iload (pc' := 7) w d26_5 rfl rfl ?_
  refine s_iloadN (pc' := 8) w d26_7 rfl rfl ?_
  refine s_aloadN (pc' := 9) w d26_8 rfl rfl rfl ?_
  refine s_getL (pc' := 12) (host := "") w (Or.inl (t176 hw)) Via.refl q (j := 8) rfl hwp d26_9 rfl ?_
  intro T w
  refine s_iadd (pc' := 13) w d26_12 rfl ?_
  rw [show Int32.ofNat n + (2 : Int32) = Int32.ofNat (n + 2) from b_add n 2]
  refine s_icmpN (pc' := 16) w d26_13 (Jvm.Free.XT.ii_ge_f (i_in hn (by decide) (by decide))) rfl ?_
  refine s_lloadN (pc' := 17) w d26_16 rfl rfl ?_
  refine s_aloadN (pc' := 18) w d26_17 rfl rfl rfl ?_
  refine s_iload (pc' := 20) w d26_18 rfl rfl ?_
  refine s_laload (pc' := 21) (v := (.long x1)) w qf d26_20 (i_nn (by omega)) (by rw [i_cl (by omega)]; exact hv1) rfl ?_
  refine s_ladd (pc' := 22) w d26_21 rfl ?_
  refine s_ldc2 (pc' := 25) w (t190 hw) d26_22 rfl ?_
  refine s_lmul (pc' := 26) w d26_25 rfl ?_
  refine s_lstoreN (pc' := 27) (ls' := #[vR a, vR b, vI (Int32.ofNat n), vJ (((((0 : Int64) + x0) * (-7046029254386353131 : Int64)) + x1) * (-7046029254386353131 : Int64)), sc, vI (Int32.ofNat (n + 1))]) w d26_26 rfl rfl ?_
  refine s_iinc (pc' := 30) (ls' := #[vR a, vR b, vI (Int32.ofNat n), vJ (((((0 : Int64) + x0) * (-7046029254386353131 : Int64)) + x1) * (-7046029254386353131 : Int64)), sc, vI ((Int32.ofNat (n + 1)) + (1 : Int32))]) (1 : Int32) w d26_27 (by decide) rfl rfl rfl ?_
  rw [show Int32.ofNat (n + 1) + (1 : Int32) = Int32.ofNat (n + 2) from b_add (n + 1) 1]
  refine s_goto (pc' := 5) w d26_30 (by decide) (by decide) ?_
  refine s_iload (pc' := 7) w d26_5 rfl rfl ?_
  refine s_iloadN (pc' := 8) w d26_7 rfl rfl ?_
  refine s_aloadN (pc' := 9) w d26_8 rfl rfl rfl ?_
  refine s_getL (pc' := 12) (host := "") w (Or.inl (t176 hw)) Via.refl q (j := 8) rfl hwp d26_9 rfl ?_
  intro T w
  refine s_iadd (pc' := 13) w d26_12 rfl ?_
  rw [show Int32.ofNat n + (2 : Int32) = Int32.ofNat (n + 2) from b_add n 2]
  refine s_icmpY (pc' := 33) w d26_13 (Jvm.Free.XT.ii_ge_t (i_out hn (by decide))) (by decide) (by decide) ?_
  refine s_lloadN (pc' := 34) w d26_33 rfl rfl ?_
  refine s_lloadN (pc' := 35) w d26_34 rfl rfl ?_
  refine s_bipush (pc' := 37) (29 : Int32) w d26_35 (by decide) rfl ?_
  refine s_lushr (pc' := 38) w d26_37 rfl ?_
  refine s_lxor (pc' := 39) w d26_38 rfl ?_
  refine s_lstoreN (pc' := 40) (ls' := #[vR a, vR b, vI (Int32.ofNat n), vJ ((((((0 : Int64) + x0) * (-7046029254386353131 : Int64)) + x1) * (-7046029254386353131 : Int64)) ^^^ (Jvm.Free.XT.ushrL (((((0 : Int64) + x0) * (-7046029254386353131 : Int64)) + x1) * (-7046029254386353131 : Int64)) (29 : Int32))), sc, vI (Int32.ofNat (n + 2))]) w d26_39 rfl rfl ?_
  refine s_lloadN (pc' := 41) w d26_40 rfl rfl ?_
  refine s_ldc2 (pc' := 44) w (t191 hw) d26_41 rfl ?_
  refine s_lmul (pc' := 45) w d26_44 rfl ?_
  refine s_lstoreN (pc' := 46) (ls' := #[vR a, vR b, vI (Int32.ofNat n), vJ (((((((0 : Int64) + x0) * (-7046029254386353131 : Int64)) + x1) * (-7046029254386353131 : Int64)) ^^^ (Jvm.Free.XT.ushrL (((((0 : Int64) + x0) * (-7046029254386353131 : Int64)) + x1) * (-7046029254386353131 : Int64)) (29 : Int32))) * (-4658895280553007687 : Int64)), sc, vI (Int32.ofNat (n + 2))]) w d26_45 rfl rfl ?_
  refine s_lloadN (pc' := 47) w d26_46 rfl rfl ?_
  refine s_lloadN (pc' := 48) w d26_47 rfl rfl ?_
  refine s_bipush (pc' := 50) (32 : Int32) w d26_48 (by decide) rfl ?_
  refine s_lushr (pc' := 51) w d26_50 rfl ?_
  refine s_lxor (pc' := 52) w d26_51 rfl ?_
  refine s_lstoreN (pc' := 53) (ls' := #[vR a, vR b, vI (Int32.ofNat n), vJ ((((((((0 : Int64) + x0) * (-7046029254386353131 : Int64)) + x1) * (-7046029254386353131 : Int64)) ^^^ (Jvm.Free.XT.ushrL (((((0 : Int64) + x0) * (-7046029254386353131 : Int64)) + x1) * (-7046029254386353131 : Int64)) (29 : Int32))) * (-4658895280553007687 : Int64)) ^^^ (Jvm.Free.XT.ushrL (((((((0 : Int64) + x0) * (-7046029254386353131 : Int64)) + x1) * (-7046029254386353131 : Int64)) ^^^ (Jvm.Free.XT.ushrL (((((0 : Int64) + x0) * (-7046029254386353131 : Int64)) + x1) * (-7046029254386353131 : Int64)) (29 : Int32))) * (-4658895280553007687 : Int64)) (32 : Int32))), sc, vI (Int32.ofNat (n + 2))]) w d26_52 rfl rfl ?_
  refine s_lloadN (pc' := 54) w d26_53 rfl rfl ?_
  refine s_l2i (pc' := 55) w d26_54 rfl ?_
  exact s_ireturn w d26_55 (by decide) (by decide) ⟨rfl, rfl⟩
set_option maxRecDepth 65536 in
set_option maxHeartbeats 40000000 in
theorem c_hash3 {Z : State} {a0 : Array Value} (hw : Tw Z a0) (l : Launch) (h0 : Heap) (n0 : Nat) (a b : Addr) (n : Nat) (vs : List Value) (x0 : Int64) (x1 : Int64) (x2 : Int64) (Ls : List Ob) (fv : List Value) (q : Lk Z h0 n0 Ls a (.inl ("com/example/ryazan/ryazan/statespace/StateStore", fs2, fv))) (hwp : fv[8]? = some (.int 3)) (qf : Lk Z h0 n0 Ls b (aJ (vs))) (hn : n < 1000) (hv0 : vs[n + 0]? = some (.long x0)) (hv1 : vs[n + 1]? = some (.long x1)) (hv2 : vs[n + 2]? = some (.long x2)) :
    Met1 l Z (⟨"com/example/ryazan/ryazan/statespace/StateStore", "hash", "([JI)I"⟩ : MethodName) prog_197_method_25_code 6 (some .int) ({ frames := 0, cells := 0, slots := 0, locals := 0 } : Room) #[(.ref a), (.ref b), (.int (Int32.ofNat n))] h0 n0 Ls (fun v L => v = some (.int (hfin (hfold [x0, x1, x2]))) ∧ L = Ls) [] := by
  refine Met1.of (ls := #[vR a, vR b, vI (Int32.ofNat n), un, un, un]) (plainFor_of_name pn10) (fun m => by first | (simp [entryFrame, mkF, argsToLocals, Value.category]; done) | rfl) ?_
  intro p e s m below meth c T w
  refine s_lconst (pc' := 1) (0 : Int64) w d26_0 (by decide) rfl ?_
  refine s_lstoreN (pc' := 2) (ls' := #[vR a, vR b, vI (Int32.ofNat n), vJ (0 : Int64), sc, un]) w d26_1 rfl rfl ?_
  refine s_iloadN (pc' := 3) w d26_2 rfl rfl ?_
  refine s_istore (pc' := 5) (ls' := #[vR a, vR b, vI (Int32.ofNat n), vJ (0 : Int64), sc, vI (Int32.ofNat n)]) w d26_3 rfl rfl ?_
  change Go p e below _ T (mkF m 5 #[vR a, vR b, vI (Int32.ofNat n), vJ (0 : Int64), sc, vI (Int32.ofNat (n + 0))] [])
  refine s_iload (pc' := 7) w d26_5 rfl rfl ?_
  refine s_iloadN (pc' := 8) w d26_7 rfl rfl ?_
  refine s_aloadN (pc' := 9) w d26_8 rfl rfl rfl ?_
  refine s_getL (pc' := 12) (host := "") w (Or.inl (t176 hw)) Via.refl q (j := 8) rfl hwp d26_9 rfl ?_
  intro T w
  refine s_iadd (pc' := 13) w d26_12 rfl ?_
  rw [show Int32.ofNat n + (3 : Int32) = Int32.ofNat (n + 3) from b_add n 3]
  refine s_icmpN (pc' := 16) w d26_13 (Jvm.Free.XT.ii_ge_f (i_in hn (by decide) (by decide))) rfl ?_
  refine s_lloadN (pc' := 17) w d26_16 rfl rfl ?_
  refine s_aloadN (pc' := 18) w d26_17 rfl rfl rfl ?_
  refine s_iload (pc' := 20) w d26_18 rfl rfl ?_
  refine s_laload (pc' := 21) (v := (.long x0)) w qf d26_20 (i_nn (by omega)) (by rw [i_cl (by omega)]; exact hv0) rfl ?_
  refine s_ladd (pc' := 22) w d26_21 rfl ?_
  refine s_ldc2 (pc' := 25) w (t190 hw) d26_22 rfl ?_
  refine s_lmul (pc' := 26) w d26_25 rfl ?_
  refine s_lstoreN (pc' := 27) (ls' := #[vR a, vR b, vI (Int32.ofNat n), vJ (((0 : Int64) + x0) * (-7046029254386353131 : Int64)), sc, vI (Int32.ofNat (n + 0))]) w d26_26 rfl rfl ?_
  refine s_iinc (pc' := 30) (ls' := #[vR a, vR b, vI (Int32.ofNat n), vJ (((0 : Int64) + x0) * (-7046029254386353131 : Int64)), sc, vI ((Int32.ofNat (n + 0)) + (1 : Int32))]) (1 : Int32) w d26_27 (by decide) rfl rfl rfl ?_
  rw [show Int32.ofNat (n + 0) + (1 : Int32) = Int32.ofNat (n + 1) from b_add (n + 0) 1]
  refine s_goto (pc' := 5) w d26_30 (by decide) (by decide) ?_
  refine s_iload (pc' := 7) w d26_5 rfl rfl ?_
  refine s_iloadN (pc' := 8) w d26_7 rfl rfl ?_
  refine s_aloadN (pc' := 9) w d26_8 rfl rfl rfl ?_
  refine s_getL (pc' := 12) (host := "") w (Or.inl (t176 hw)) Via.refl q (j := 8) rfl hwp d26_9 rfl ?_
  intro T w
  refine s_iadd (pc' := 13) w d26_12 rfl ?_
  rw [show Int32.ofNat n + (3 : Int32) = Int32.ofNat (n + 3) from b_add n 3]
  refine s_icmpN (pc' := 16) w d26_13 (Jvm.Free.XT.ii_ge_f (i_in hn (by decide) (by decide))) rfl ?_
  refine s_lloadN (pc' := 17) w d26_16 rfl rfl ?_
  refine s_aloadN (pc' := 18) w d26_17 rfl rfl rfl ?_
  refine s_iload (pc' := 20) w d26_18 rfl rfl ?_
  refine s_laload (pc' := 21) (v := (.long x1)) w qf d26_20 (i_nn (by omega)) (by rw [i_cl (by omega)]; exact hv1) rfl ?_
  refine s_ladd (pc' := 22) w d26_21 rfl ?_
  refine s_ldc2 (pc' := 25) w (t190 hw) d26_22 rfl ?_
  refine s_lmul (pc' := 26) w d26_25 rfl ?_
  refine s_lstoreN (pc' := 27) (ls' := #[vR a, vR b, vI (Int32.ofNat n), vJ (((((0 : Int64) + x0) * (-7046029254386353131 : Int64)) + x1) * (-7046029254386353131 : Int64)), sc, vI (Int32.ofNat (n + 1))]) w d26_26 rfl rfl ?_
  refine s_iinc (pc' := 30) (ls' := #[vR a, vR b, vI (Int32.ofNat n), vJ (((((0 : Int64) + x0) * (-7046029254386353131 : Int64)) + x1) * (-7046029254386353131 : Int64)), sc, vI ((Int32.ofNat (n + 1)) + (1 : Int32))]) (1 : Int32) w d26_27 (by decide) rfl rfl rfl ?_
  rw [show Int32.ofNat (n + 1) + (1 : Int32) = Int32.ofNat (n + 2) from b_add (n + 1) 1]
  refine s_goto (pc' := 5) w d26_30 (by decide) (by decide) ?_
  refine s_iload (pc' := 7) w d26_5 rfl rfl ?_
  refine s_iloadN (pc' := 8) w d26_7 rfl rfl ?_
  refine s_aloadN (pc' := 9) w d26_8 rfl rfl rfl ?_
  refine s_getL (pc' := 12) (host := "") w (Or.inl (t176 hw)) Via.refl q (j := 8) rfl hwp d26_9 rfl ?_
  intro T w
  refine s_iadd (pc' := 13) w d26_12 rfl ?_
  rw [show Int32.ofNat n + (3 : Int32) = Int32.ofNat (n + 3) from b_add n 3]
  refine s_icmpN (pc' := 16) w d26_13 (Jvm.Free.XT.ii_ge_f (i_in hn (by decide) (by decide))) rfl ?_
  refine s_lloadN (pc' := 17) w d26_16 rfl rfl ?_
  refine s_aloadN (pc' := 18) w d26_17 rfl rfl rfl ?_
  refine s_iload (pc' := 20) w d26_18 rfl rfl ?_
  refine s_laload (pc' := 21) (v := (.long x2)) w qf d26_20 (i_nn (by omega)) (by rw [i_cl (by omega)]; exact hv2) rfl ?_
  refine s_ladd (pc' := 22) w d26_21 rfl ?_
  refine s_ldc2 (pc' := 25) w (t190 hw) d26_22 rfl ?_
  refine s_lmul (pc' := 26) w d26_25 rfl ?_
  refine s_lstoreN (pc' := 27) (ls' := #[vR a, vR b, vI (Int32.ofNat n), vJ (((((((0 : Int64) + x0) * (-7046029254386353131 : Int64)) + x1) * (-7046029254386353131 : Int64)) + x2) * (-7046029254386353131 : Int64)), sc, vI (Int32.ofNat (n + 2))]) w d26_26 rfl rfl ?_
  refine s_iinc (pc' := 30) (ls' := #[vR a, vR b, vI (Int32.ofNat n), vJ (((((((0 : Int64) + x0) * (-7046029254386353131 : Int64)) + x1) * (-7046029254386353131 : Int64)) + x2) * (-7046029254386353131 : Int64)), sc, vI ((Int32.ofNat (n + 2)) + (1 : Int32))]) (1 : Int32) w d26_27 (by decide) rfl rfl rfl ?_
  rw [show Int32.ofNat (n + 2) + (1 : Int32) = Int32.ofNat (n + 3) from b_add (n + 2) 1]
  refine s_goto (pc' := 5) w d26_30 (by decide) (by decide) ?_
  refine s_iload (pc' := 7) w d26_5 rfl rfl ?_
  refine s_iloadN (pc' := 8) w d26_7 rfl rfl ?_
  refine s_aloadN (pc' := 9) w d26_8 rfl rfl rfl ?_
  refine s_getL (pc' := 12) (host := "") w (Or.inl (t176 hw)) Via.refl q (j := 8) rfl hwp d26_9 rfl ?_
  intro T w
  refine s_iadd (pc' := 13) w d26_12 rfl ?_
  rw [show Int32.ofNat n + (3 : Int32) = Int32.ofNat (n + 3) from b_add n 3]
  refine s_icmpY (pc' := 33) w d26_13 (Jvm.Free.XT.ii_ge_t (i_out hn (by decide))) (by decide) (by decide) ?_
  refine s_lloadN (pc' := 34) w d26_33 rfl rfl ?_
  refine s_lloadN (pc' := 35) w d26_34 rfl rfl ?_
  refine s_bipush (pc' := 37) (29 : Int32) w d26_35 (by decide) rfl ?_
  refine s_lushr (pc' := 38) w d26_37 rfl ?_
  refine s_lxor (pc' := 39) w d26_38 rfl ?_
  refine s_lstoreN (pc' := 40) (ls' := #[vR a, vR b, vI (Int32.ofNat n), vJ ((((((((0 : Int64) + x0) * (-7046029254386353131 : Int64)) + x1) * (-7046029254386353131 : Int64)) + x2) * (-7046029254386353131 : Int64)) ^^^ (Jvm.Free.XT.ushrL (((((((0 : Int64) + x0) * (-7046029254386353131 : Int64)) + x1) * (-7046029254386353131 : Int64)) + x2) * (-7046029254386353131 : Int64)) (29 : Int32))), sc, vI (Int32.ofNat (n + 3))]) w d26_39 rfl rfl ?_
  refine s_lloadN (pc' := 41) w d26_40 rfl rfl ?_
  refine s_ldc2 (pc' := 44) w (t191 hw) d26_41 rfl ?_
  refine s_lmul (pc' := 45) w d26_44 rfl ?_
  refine s_lstoreN (pc' := 46) (ls' := #[vR a, vR b, vI (Int32.ofNat n), vJ (((((((((0 : Int64) + x0) * (-7046029254386353131 : Int64)) + x1) * (-7046029254386353131 : Int64)) + x2) * (-7046029254386353131 : Int64)) ^^^ (Jvm.Free.XT.ushrL (((((((0 : Int64) + x0) * (-7046029254386353131 : Int64)) + x1) * (-7046029254386353131 : Int64)) + x2) * (-7046029254386353131 : Int64)) (29 : Int32))) * (-4658895280553007687 : Int64)), sc, vI (Int32.ofNat (n + 3))]) w d26_45 rfl rfl ?_
  refine s_lloadN (pc' := 47) w d26_46 rfl rfl ?_
  refine s_lloadN (pc' := 48) w d26_47 rfl rfl ?_
  refine s_bipush (pc' := 50) (32 : Int32) w d26_48 (by decide) rfl ?_
  refine s_lushr (pc' := 51) w d26_50 rfl ?_
  refine s_lxor (pc' := 52) w d26_51 rfl ?_
  refine s_lstoreN (pc' := 53) (ls' := #[vR a, vR b, vI (Int32.ofNat n), vJ ((((((((((0 : Int64) + x0) * (-7046029254386353131 : Int64)) + x1) * (-7046029254386353131 : Int64)) + x2) * (-7046029254386353131 : Int64)) ^^^ (Jvm.Free.XT.ushrL (((((((0 : Int64) + x0) * (-7046029254386353131 : Int64)) + x1) * (-7046029254386353131 : Int64)) + x2) * (-7046029254386353131 : Int64)) (29 : Int32))) * (-4658895280553007687 : Int64)) ^^^ (Jvm.Free.XT.ushrL (((((((((0 : Int64) + x0) * (-7046029254386353131 : Int64)) + x1) * (-7046029254386353131 : Int64)) + x2) * (-7046029254386353131 : Int64)) ^^^ (Jvm.Free.XT.ushrL (((((((0 : Int64) + x0) * (-7046029254386353131 : Int64)) + x1) * (-7046029254386353131 : Int64)) + x2) * (-7046029254386353131 : Int64)) (29 : Int32))) * (-4658895280553007687 : Int64)) (32 : Int32))), sc, vI (Int32.ofNat (n + 3))]) w d26_52 rfl rfl ?_
  refine s_lloadN (pc' := 54) w d26_53 rfl rfl ?_
  refine s_l2i (pc' := 55) w d26_54 rfl ?_
  exact s_ireturn w d26_55 (by decide) (by decide) ⟨rfl, rfl⟩
set_option maxRecDepth 65536 in
set_option maxHeartbeats 40000000 in
theorem c_wps {Z : State} {a0 : Array Value} (hw : Tw Z a0) (l : Launch) (h0 : Heap) (n0 : Nat) (a : Addr) (z : Int32) (fv : List Value) (Ls : List Ob) (q : Lk Z h0 n0 Ls a (.inl ("com/example/ryazan/ryazan/statespace/StateStore", fs2, fv))) (hwp : fv[8]? = some (.int z)) :
    Met1 l Z (⟨"com/example/ryazan/ryazan/statespace/StateStore", "wordsPerState", "()I"⟩ : MethodName) prog_197_method_4_code 1 (some .int) ({ frames := 0, cells := 0, slots := 0, locals := 0 } : Room) #[(.ref a)] h0 n0 Ls (fun v L => v = some (.int z) ∧ L = Ls) [] := by
  refine Met1.of (ls := #[vR a]) (plainFor_of_name pn10) (fun m => by first | (simp [entryFrame, mkF, argsToLocals, Value.category]; done) | rfl) ?_
  intro p e s m below meth c T w
  refine s_aloadN (pc' := 1) w d25_0 rfl rfl rfl ?_
  refine s_getL (pc' := 4) (host := "") w (Or.inl (t176 hw)) Via.refl q (j := 8) rfl hwp d25_1 rfl ?_
  intro T w
  exact s_ireturn w d25_4 (by decide) (by decide) ⟨rfl, rfl⟩
set_option maxRecDepth 65536 in
set_option maxHeartbeats 40000000 in
theorem c_fin {Z : State} {a0 : Array Value} (hw : Tw Z a0) (l : Launch) (h0 : Heap) (n0 : Nat) (x1 : Int64) (Ls : List Ob) :
    Met1 l Z (⟨"com/example/ryazan/ryazan/statespace/StateStoreHashPinLaw", "fin", "(J)I"⟩ : MethodName) method_2_code 4 (some .int) ({ frames := 0, cells := 0, slots := 0, locals := 0 } : Room) #[(.long x1)] h0 n0 Ls (fun v L => v = some (.int (hfin x1)) ∧ L = Ls) [] := by
  refine Met1.of (ls := #[vJ x1, sc, un, un]) (plainFor_of_name pn11) (fun m => by first | (simp [entryFrame, mkF, argsToLocals, Value.category]; done) | rfl) ?_
  intro p e s m below meth c T w
  refine s_lloadN (pc' := 1) w d27_0 rfl rfl ?_
  refine s_lstoreN (pc' := 2) (ls' := #[vJ x1, sc, vJ x1, sc]) w d27_1 rfl rfl ?_
  refine s_lloadN (pc' := 3) w d27_2 rfl rfl ?_
  refine s_lloadN (pc' := 4) w d27_3 rfl rfl ?_
  refine s_bipush (pc' := 6) (29 : Int32) w d27_4 (by decide) rfl ?_
  refine s_lushr (pc' := 7) w d27_6 rfl ?_
  refine s_lxor (pc' := 8) w d27_7 rfl ?_
  refine s_lstoreN (pc' := 9) (ls' := #[vJ x1, sc, vJ (x1 ^^^ (Jvm.Free.XT.ushrL x1 (29 : Int32))), sc]) w d27_8 rfl rfl ?_
  refine s_lloadN (pc' := 10) w d27_9 rfl rfl ?_
  refine s_ldc2 (pc' := 13) w (t197 hw) d27_10 rfl ?_
  refine s_lmul (pc' := 14) w d27_13 rfl ?_
  refine s_lstoreN (pc' := 15) (ls' := #[vJ x1, sc, vJ ((x1 ^^^ (Jvm.Free.XT.ushrL x1 (29 : Int32))) * (-4658895280553007687 : Int64)), sc]) w d27_14 rfl rfl ?_
  refine s_lloadN (pc' := 16) w d27_15 rfl rfl ?_
  refine s_lloadN (pc' := 17) w d27_16 rfl rfl ?_
  refine s_bipush (pc' := 19) (32 : Int32) w d27_17 (by decide) rfl ?_
  refine s_lushr (pc' := 20) w d27_19 rfl ?_
  refine s_lxor (pc' := 21) w d27_20 rfl ?_
  refine s_lstoreN (pc' := 22) (ls' := #[vJ x1, sc, vJ (((x1 ^^^ (Jvm.Free.XT.ushrL x1 (29 : Int32))) * (-4658895280553007687 : Int64)) ^^^ (Jvm.Free.XT.ushrL ((x1 ^^^ (Jvm.Free.XT.ushrL x1 (29 : Int32))) * (-4658895280553007687 : Int64)) (32 : Int32))), sc]) w d27_21 rfl rfl ?_
  refine s_lloadN (pc' := 23) w d27_22 rfl rfl ?_
  refine s_l2i (pc' := 24) w d27_23 rfl ?_
  exact s_ireturn w d27_24 (by decide) (by decide) ⟨rfl, rfl⟩
theorem strs {Z : State} {a0 : Array Value} (hw : Tw Z a0) : ∀ d ∈ Bundle.stringAtoms, d.before a0 Z = true := by
  intro d hd
  simp only [Bundle.stringAtoms, List.mem_cons, List.not_mem_nil, or_false] at hd
  rcases hd with rfl | rfl | rfl | rfl | rfl | rfl | rfl <;> first | exact t30 hw | exact t31 hw | exact t33 hw | exact t34 hw | exact t35 hw | exact t36 hw | exact t32 hw
set_option maxRecDepth 65536 in
set_option maxHeartbeats 40000000 in
theorem c_law {Z : State} {a0 : Array Value} (hw : Tw Z a0) (l : Launch) (h0 : Heap) (n0 : Nat) (q0 q1 q2 x0 x1 : Int64) (sel : Int32) (de : Addr) (dcl : Cell) (SD : Sta Z h0 "java/util/ArrayList" "DEFAULTCAPACITY_EMPTY_ELEMENTDATA" "[Ljava/lang/Object;" (.ref de)) (AD : Arr Z h0 de dcl (.object "java/lang/Object")) (hdcl : dcl.slots.size = 0) :
    MetW l Z x code maxLocals ret room_1 #[(.long q0), (.long q1), (.long q2), (.long x0), (.long x1), (.int sel)] h0 n0 [] (fun v _ => v = some (.int 1)) tables_1 := by
  refine MetW.of (ls := #[vJ q0, sc, vJ q1, sc, vJ q2, sc, vJ x0, sc, vJ x1, sc, vI sel, un, un, un, un, un, un, un, un, un, un, un, un, un, un, un, un, un, un]) (plainFor_of_name pn11) (fun m => by first | (simp [entryFrame, mkF, argsToLocals, Value.category, maxLocals]; done) | rfl) ?_
  intro p e s m below meth c T w
  refine s_iconst (pc' := 1) (1 : Int32) w at_0 (by decide) rfl ?_
  refine s_iload (pc' := 3) w at_1 rfl rfl ?_
  refine s_iconst (pc' := 4) (3 : Int32) w at_3 (by decide) rfl ?_
  refine s_iand (pc' := 5) w at_4 rfl ?_
  refine s_iconst (pc' := 6) (3 : Int32) w at_5 (by decide) rfl ?_
  refine s_irem (pc' := 7) w at_6 (by decide) rfl ?_
  obtain ⟨v', hv', ev'⟩ := rem3' sel
  rw [ev']
  have hv3 : v' = 0 ∨ v' = 1 ∨ v' = 2 := by omega
  rcases hv3 with rfl | rfl | rfl
  · change Go p e below _ T (mkF m 7 #[vJ q0, sc, vJ q1, sc, vJ q2, sc, vJ x0, sc, vJ x1, sc, vI sel, un, un, un, un, un, un, un, un, un, un, un, un, un, un, un, un, un, un] [(.int (0 : Int32)), (.int (1 : Int32))])
    refine s_iadd (pc' := 8) w at_7 rfl ?_
    rw [show (1 : Int32) + 0 = 1 by decide]
    refine s_istore (pc' := 10) (ls' := #[vJ q0, sc, vJ q1, sc, vJ q2, sc, vJ x0, sc, vJ x1, sc, vI sel, vI (1 : Int32), un, un, un, un, un, un, un, un, un, un, un, un, un, un, un, un, un]) w at_8 rfl rfl ?_
    refine s_iload (pc' := 12) w at_10 rfl rfl ?_
    refine s_iconst (pc' := 13) (2 : Int32) w at_12 (by decide) rfl ?_
    refine s_iushr (pc' := 14) w at_13 rfl ?_
    refine s_iconst (pc' := 15) (3 : Int32) w at_14 (by decide) rfl ?_
    refine s_iand (pc' := 16) w at_15 rfl ?_
    obtain ⟨sv, hsv, esv⟩ := and3 (Jvm.Free.XT.ushr sel (2 : Int32))
    rw [esv]
    refine s_istore (pc' := 18) (ls' := #[vJ q0, sc, vJ q1, sc, vJ q2, sc, vJ x0, sc, vJ x1, sc, vI sel, vI (1 : Int32), vI (Int32.ofNat sv), un, un, un, un, un, un, un, un, un, un, un, un, un, un, un, un]) w at_16 rfl rfl ?_
    refine s_new (pc' := 21) [(.int 0), .null, (.int 0)] w (t0 hw) (t2 hw) (cls0 hw) at_18 ?_ (by decide) (by decide) 0 rfl rfl ?_
    · intro j f v h1 h2
      match j, h1, h2 with
      | 0, h1, h2 => cases (Option.some.inj h1); cases (Option.some.inj h2); exact ⟨.int, by decide +kernel, rfl⟩
      | 1, h1, h2 => cases (Option.some.inj h1); cases (Option.some.inj h2); exact ⟨(.array (.object "java/lang/Object")), by decide +kernel, rfl⟩
      | 2, h1, h2 => cases (Option.some.inj h1); cases (Option.some.inj h2); exact ⟨.int, by decide +kernel, rfl⟩
      | (i + 3), h1, _ => exact absurd h1 (by simp [fs0])
    intro T w
    replace w : St p l e _ s m _ below meth c Z _ _ _ _ h0 n0 T [o0 (.int 0) .null (.int 0)] 1 3 := w
    refine s_dup (pc' := 22) w at_21 rfl rfl ?_
    refine s_special (pc' := 25) (rest := [(.ref (n0 + 0))]) 1 [] w (c_alinit hw l h0 n0 0 (.int 0) .null (.int 0) de _ rfl SD) rfl (t3 hw) (t4 hw) (t2 hw) (t5 hw) (by decide) pd0 at_22 (by decide) rfl rfl rfl rfl (Nat.le_of_eq rfl) rfl ?_
    intro T v L' hQ w
    obtain ⟨rfl, hL⟩ := hQ
    replace hL := hL.symm
    subst hL
    dsimp only [oS, oN, cA, nA]
    replace w : St p l e _ s m _ below meth c Z _ _ _ _ h0 n0 T [o0 (.int 0) (.ref de) (.int 0)] 1 3 := w
    refine s_astore (pc' := 27) (ls' := #[vJ q0, sc, vJ q1, sc, vJ q2, sc, vJ x0, sc, vJ x1, sc, vI sel, vI (1 : Int32), vI (Int32.ofNat sv), vR (n0 + 0), un, un, un, un, un, un, un, un, un, un, un, un, un, un, un]) w at_25 rfl rfl rfl ?_
    refine s_new (pc' := 30) [.null, .null, (.int 0), (.int 0), (.int 0), .null] w (t26 hw) (t28 hw) (cls1 hw) at_27 ?_ (by decide) (by decide) 1 rfl rfl ?_
    · intro j f v h1 h2
      match j, h1, h2 with
      | 0, h1, h2 => cases (Option.some.inj h1); cases (Option.some.inj h2); exact ⟨(.object "java/lang/String"), by decide +kernel, rfl⟩
      | 1, h1, h2 => cases (Option.some.inj h1); cases (Option.some.inj h2); exact ⟨(.object "com/example/ryazan/ryazan/lang/Type"), by decide +kernel, rfl⟩
      | 2, h1, h2 => cases (Option.some.inj h1); cases (Option.some.inj h2); exact ⟨.int, by decide +kernel, rfl⟩
      | 3, h1, h2 => cases (Option.some.inj h1); cases (Option.some.inj h2); exact ⟨.int, by decide +kernel, rfl⟩
      | 4, h1, h2 => cases (Option.some.inj h1); cases (Option.some.inj h2); exact ⟨.int, by decide +kernel, rfl⟩
      | 5, h1, h2 => cases (Option.some.inj h1); cases (Option.some.inj h2); exact ⟨(.object "com/example/ryazan/ryazan/lang/SourcePosition"), by decide +kernel, rfl⟩
      | (i + 6), h1, _ => exact absurd h1 (by simp [fs1])
    intro T w
    replace w : St p l e _ s m _ below meth c Z _ _ _ _ h0 n0 T [o0 (.int 0) (.ref de) (.int 0), o1 .null .null (.int 0) (.int 0) (.int 0) .null] 2 9 := w
    refine s_dup (pc' := 31) w at_30 rfl rfl ?_
    refine s_ldcS (pc' := 33) 4 w (t29 hw) (strs hw) at_31 (by decide) (by decide) (by decide) (by decide) rfl ?_
    intro T vm1 sa k1 f hS1 hk1 w
    obtain ⟨P0, eP⟩ : ∃ P : List Ob, P = [o0 (.int 0) (.ref de) (.int 0), o1 .null .null (.int 0) (.int 0) (.int 0) .null] ++ List.replicate f dum := ⟨_, rfl⟩
    have p0 : P0[0]? = some (o0 (.int 0) (.ref de) (.int 0)) := by rw [eP]; rfl
    have p1 : P0[1]? = some (o1 .null .null (.int 0) (.int 0) (.int 0) .null) := by rw [eP]; rfl
    obtain ⟨B0, hB0⟩ : ∃ z, P0.length = z := ⟨_, rfl⟩
    have hkB : k1 ≤ n0 + B0 := by rw [← hB0, eP, List.length_append, List.length_replicate]; exact hk1
    replace w : St p l e _ (s.setVm vm1) m _ below meth c Z _ _ _ _ h0 n0 T ([o0 (.int 0) (.ref de) (.int 0), o1 .null .null (.int 0) (.int 0) (.int 0) .null] ++ List.replicate f dum) 4 17 := w
    rw [← eP] at w
    clear eP hk1
    have hB2 : 1 < B0 := hB0 ▸ (List.getElem?_eq_some_iff.mp p1).1
    refine s_aconst_null (pc' := 34) w at_33 rfl ?_
    refine s_ldc (pc' := 36) w (t37 hw) at_34 rfl ?_
    refine s_ldc (pc' := 38) w (t38 hw) at_36 rfl ?_
    refine s_iconst (pc' := 39) (0 : Int32) w at_38 (by decide) rfl ?_
    refine s_aconst_null (pc' := 40) w at_39 rfl ?_
    refine s_special (pc' := 43) (rest := [(.ref (n0 + 1))]) 1 [(.ref sa), .null, (.int (-2147483648 : Int32)), (.int (2147483647 : Int32)), (.int (0 : Int32)), .null] w (c_var hw l h0 n0 1 (.ref sa) .null (-2147483648) 2147483647 0 _ p1 rfl rfl) rfl (t39 hw) (t40 hw) (t28 hw) (t41 hw) (by decide) pd12 at_40 (by decide) rfl rfl rfl rfl (Nat.le_of_eq rfl) rfl ?_
    intro T v L' hQ w
    obtain ⟨rfl, hL⟩ := hQ
    replace hL := hL.symm
    subst hL
    dsimp only [oS, oN, cA, nA]
    obtain ⟨P1, eP⟩ : ∃ P : List Ob, P = P0.set 1 (o1 (.ref sa) .null (.int (-2147483648)) (.int 2147483647) (.int 0) .null) := ⟨_, rfl⟩
    replace p0 : P1[0]? = some (o0 (.int 0) (.ref de) (.int 0)) := by rw [eP]; exact lk_ne p0 (by decide)
    replace p1 : P1[1]? = some (o1 (.ref sa) .null (.int (-2147483648)) (.int 2147483647) (.int 0) .null) := by rw [eP]; exact lk_set p1
    replace hB0 : P1.length = B0 := by rw [eP, List.length_set]; exact hB0
    rw [← eP] at w
    clear eP
    refine s_astore (pc' := 45) (ls' := #[vJ q0, sc, vJ q1, sc, vJ q2, sc, vJ x0, sc, vJ x1, sc, vI sel, vI (1 : Int32), vI (Int32.ofNat sv), vR (n0 + 0), vR (n0 + 1), un, un, un, un, un, un, un, un, un, un, un, un, un, un]) w at_43 rfl rfl rfl ?_
    refine s_aload (pc' := 47) w at_45 rfl rfl rfl ?_
    refine s_aload (pc' := 49) w at_47 rfl rfl rfl ?_
    refine s_virtual (pc' := 52) (rest := []) 0 [(.ref (n0 + 1))] w (c_addg hw l h0 n0 0 0 de dcl (n0 + 1) _ _ _ _ p0 SD AD hdcl (Lk.new p1) (Or.inr (t90 hw)) (ad_ne (by decide))) (Lk.new p0) (t60 hw) (t61 hw) (w.notFace (t63 hw)) (t63 hw) (t62 hw) (t2 hw) (t64 hw) (by decide) pd13 at_49 (by decide) rfl rfl rfl rfl (Nat.le_of_eq rfl) rfl ?_
    intro T v L' hQ w
    obtain ⟨rfl, hL⟩ := hQ
    replace hL := hL.symm
    subst hL
    dsimp only [oS, oN, cA, nA]
    rw [hB0] at w
    replace w : St p l e _ (s.setVm vm1) m _ below meth c Z _ _ _ _ h0 n0 T (P1.set 0 (o0 (.int 1) (.ref (n0 + B0)) (.int 1)) ++ [aO ([.ref (n0 + 1), .null, .null, .null, .null, .null, .null, .null, .null, .null])]) 5 27 := w
    obtain ⟨P2, eP⟩ : ∃ P : List Ob, P = P1.set 0 (o0 (.int 1) (.ref (n0 + B0)) (.int 1)) := ⟨_, rfl⟩
    replace p0 : P2[0]? = some (o0 (.int 1) (.ref (n0 + B0)) (.int 1)) := by rw [eP]; exact lk_set p0
    replace p1 : P2[1]? = some (o1 (.ref sa) .null (.int (-2147483648)) (.int 2147483647) (.int 0) .null) := by rw [eP]; exact lk_ne p1 (by decide)
    replace hB0 : P2.length = B0 := by rw [eP, List.length_set]; exact hB0
    rw [← eP] at w
    clear eP
    refine s_pop (pc' := 53) w at_52 rfl rfl ?_
    refine s_iload (pc' := 55) w at_53 rfl rfl ?_
    refine s_iconst (pc' := 56) (2 : Int32) w at_55 (by decide) rfl ?_
    refine s_icmpY (pc' := 75) w at_56 (Jvm.Free.XT.ii_lt_t (by decide)) (by decide) (by decide) ?_
    refine s_iload (pc' := 77) w at_75 rfl rfl ?_
    refine s_iconst (pc' := 78) (3 : Int32) w at_77 (by decide) rfl ?_
    refine s_icmpY (pc' := 97) w at_78 (Jvm.Free.XT.ii_lt_t (by decide)) (by decide) (by decide) ?_
    obtain ⟨Q, eQ⟩ : ∃ P : List Ob, P = P2 ++ [aO ([.ref (n0 + 1), .null, .null, .null, .null, .null, .null, .null, .null, .null])] := ⟨_, rfl⟩
    have pA : Q[0]? = some (o0 (.int 1) (.ref (n0 + B0)) (.int 1)) := by rw [eQ]; exact lk_app p0
    have pV : Q[1]? = some (o1 (.ref sa) .null (.int (-2147483648)) (.int 2147483647) (.int 0) .null) := by rw [eQ]; exact lk_app p1
    have pE : Q[B0 + 0]? = some (aO ([.ref (n0 + 1), .null, .null, .null, .null, .null, .null, .null, .null, .null])) := by rw [eQ]; exact lk_suf hB0 rfl
    obtain ⟨N, hN⟩ : ∃ z, Q.length = z := ⟨_, rfl⟩
    have hkN : k1 ≤ n0 + N := by rw [← hN, eQ, List.length_append, hB0]; omega
    rw [← eQ] at w
    clear eQ
    refine s_new (pc' := 100) [.null, (.int 0), .null, .null, .null, .null, .null, .null, (.int 0), .null] w (t91 hw) (t93 hw) (cls2 hw) at_97 ?_ (by decide) (by decide) (N + 0) hN rfl ?_
    · intro j f v h1 h2
      match j, h1, h2 with
      | 0, h1, h2 => cases (Option.some.inj h1); cases (Option.some.inj h2); exact ⟨(.array .long), by decide +kernel, rfl⟩
      | 1, h1, h2 => cases (Option.some.inj h1); cases (Option.some.inj h2); exact ⟨.int, by decide +kernel, rfl⟩
      | 2, h1, h2 => cases (Option.some.inj h1); cases (Option.some.inj h2); exact ⟨(.array .int), by decide +kernel, rfl⟩
      | 3, h1, h2 => cases (Option.some.inj h1); cases (Option.some.inj h2); exact ⟨(.array .int), by decide +kernel, rfl⟩
      | 4, h1, h2 => cases (Option.some.inj h1); cases (Option.some.inj h2); exact ⟨(.array .int), by decide +kernel, rfl⟩
      | 5, h1, h2 => cases (Option.some.inj h1); cases (Option.some.inj h2); exact ⟨(.array .int), by decide +kernel, rfl⟩
      | 6, h1, h2 => cases (Option.some.inj h1); cases (Option.some.inj h2); exact ⟨(.array .int), by decide +kernel, rfl⟩
      | 7, h1, h2 => cases (Option.some.inj h1); cases (Option.some.inj h2); exact ⟨(.array .long), by decide +kernel, rfl⟩
      | 8, h1, h2 => cases (Option.some.inj h1); cases (Option.some.inj h2); exact ⟨.int, by decide +kernel, rfl⟩
      | 9, h1, h2 => cases (Option.some.inj h1); cases (Option.some.inj h2); exact ⟨(.array .long), by decide +kernel, rfl⟩
      | (i + 10), h1, _ => exact absurd h1 (by simp [fs2])
    intro T w
    replace w : St p l e _ (s.setVm vm1) m _ below meth c Z _ _ _ _ h0 n0 T (Q ++ [o2 .null (.int 0) .null .null .null .null .null .null (.int 0) .null]) 6 39 := w
    refine s_dup (pc' := 101) w at_100 rfl rfl ?_
    refine s_aload (pc' := 103) w at_101 rfl rfl rfl ?_
    refine s_special (pc' := 106) (rest := [(.ref (n0 + (N + 0)))]) 1 [(.ref (n0 + 0))] w (c_storeF1 hw l h0 n0 Q N 0 (B0 + 0) (.int 1) [.ref (n0 + 1), .null, .null, .null, .null, .null, .null, .null, .null, .null] 1 (-2147483648) 2147483647 (.ref sa) .null (.int 0) .null hN pA pE rfl pV (by decide) (by decide) (by decide)) rfl (t94 hw) (t95 hw) (t93 hw) (t96 hw) (by decide) pd14 at_103 (by decide) rfl rfl rfl rfl (Nat.le_of_eq rfl) rfl ?_
    intro T v L' hQ w
    obtain ⟨rfl, hL⟩ := hQ
    replace hL := hL.symm
    subst hL
    dsimp only [oS, oN, cA, nA]
    replace w : St p l e _ (s.setVm vm1) m _ below meth c Z _ _ _ _ h0 n0 T (Q ++ [o2 (.ref (n0 + (N + 1))) (.int 10) (.ref (n0 + (N + 2))) (.ref (n0 + (N + 3))) (.ref (n0 + (N + 4))) (.ref (n0 + (N + 5))) (.ref (n0 + (N + 6))) (.ref (n0 + (N + 7))) (.int 1) (.ref (n0 + (N + 8))), aJ ([]), aI (List.replicate 1024 (.int (-1))), aI ([]), aI ([.int (-2147483648)]), aI ([.int 0]), aI ([.int (Int32.ofNat (0))]), aJ ([.long (mkM (32))]), aJ ([.long 0])]) 14 1068 := w
    refine s_astore (pc' := 108) (ls' := #[vJ q0, sc, vJ q1, sc, vJ q2, sc, vJ x0, sc, vJ x1, sc, vI sel, vI (1 : Int32), vI (Int32.ofNat sv), vR (n0 + 0), vR (n0 + 1), vR (n0 + (N + 0)), un, un, un, un, un, un, un, un, un, un, un, un, un]) w at_106 rfl rfl rfl ?_
    refine s_aload (pc' := 110) w at_108 rfl rfl rfl ?_
    refine s_virtual (pc' := 113) (rest := []) 0 [] w (c_wps hw l h0 n0 (n0 + (N + 0)) 1 _ _ (Lk.new (lk_suf hN rfl)) rfl) (Lk.new (lk_suf hN rfl)) (t180 hw) (t181 hw) (w.notFace (t183 hw)) (t183 hw) (t182 hw) (t93 hw) (t184 hw) (by decide) pd11 at_110 (by decide) rfl rfl rfl rfl (Nat.le_of_eq rfl) rfl ?_
    intro T v L' hQ w
    obtain ⟨rfl, hL⟩ := hQ
    replace hL := hL.symm
    subst hL
    dsimp only [oS, oN, cA, nA]
    refine s_iload (pc' := 115) w at_113 rfl rfl ?_
    refine s_icmpY (pc' := 120) w at_115 (Jvm.Free.XT.ii_eq_t rfl) (by decide) (by decide) ?_
    refine s_bipush (pc' := 122) (6 : Int32) w at_120 (by decide) rfl ?_
    refine s_newarray (pc' := 124) (ty := .long) w (t98 hw) rfl (by intro C h; cases h) at_122 (by decide) 6 (by decide) (by decide) (by decide) (by decide) (N + 9) (by rw [List.length_append, hN]; rfl) rfl ?_
    intro T w
    rw [List.append_assoc] at w
    replace w : St p l e _ (s.setVm vm1) m _ below meth c Z _ _ _ _ h0 n0 T (Q ++ [o2 (.ref (n0 + (N + 1))) (.int 10) (.ref (n0 + (N + 2))) (.ref (n0 + (N + 3))) (.ref (n0 + (N + 4))) (.ref (n0 + (N + 5))) (.ref (n0 + (N + 6))) (.ref (n0 + (N + 7))) (.int 1) (.ref (n0 + (N + 8))), aJ ([]), aI (List.replicate 1024 (.int (-1))), aI ([]), aI ([.int (-2147483648)]), aI ([.int 0]), aI ([.int (Int32.ofNat (0))]), aJ ([.long (mkM (32))]), aJ ([.long 0]), aJ ([(.long 0), (.long 0), (.long 0), (.long 0), (.long 0), (.long 0)])]) 15 1074 := w
    refine s_dup (pc' := 125) w at_124 rfl rfl ?_
    refine s_iconst (pc' := 126) (0 : Int32) w at_125 (by decide) rfl ?_
    refine s_lload (pc' := 128) w at_126 rfl rfl ?_
    refine s_lastore (pc' := 129) (k := (N + 9)) w (lk_suf hN rfl) at_128 (by decide) (leB rfl) rfl ?_
    intro T w
    rw [set_suf hN] at w
    replace w : St p l e _ (s.setVm vm1) m _ below meth c Z _ _ _ _ h0 n0 T (Q ++ [o2 (.ref (n0 + (N + 1))) (.int 10) (.ref (n0 + (N + 2))) (.ref (n0 + (N + 3))) (.ref (n0 + (N + 4))) (.ref (n0 + (N + 5))) (.ref (n0 + (N + 6))) (.ref (n0 + (N + 7))) (.int 1) (.ref (n0 + (N + 8))), aJ ([]), aI (List.replicate 1024 (.int (-1))), aI ([]), aI ([.int (-2147483648)]), aI ([.int 0]), aI ([.int (Int32.ofNat (0))]), aJ ([.long (mkM (32))]), aJ ([.long 0]), aJ ([.long x0, (.long 0), (.long 0), (.long 0), (.long 0), (.long 0)])]) 15 1074 := w
    refine s_dup (pc' := 130) w at_129 rfl rfl ?_
    refine s_iconst (pc' := 131) (1 : Int32) w at_130 (by decide) rfl ?_
    refine s_lload (pc' := 133) w at_131 rfl rfl ?_
    refine s_lastore (pc' := 134) (k := (N + 9)) w (lk_suf hN rfl) at_133 (by decide) (leB rfl) rfl ?_
    intro T w
    rw [set_suf hN] at w
    replace w : St p l e _ (s.setVm vm1) m _ below meth c Z _ _ _ _ h0 n0 T (Q ++ [o2 (.ref (n0 + (N + 1))) (.int 10) (.ref (n0 + (N + 2))) (.ref (n0 + (N + 3))) (.ref (n0 + (N + 4))) (.ref (n0 + (N + 5))) (.ref (n0 + (N + 6))) (.ref (n0 + (N + 7))) (.int 1) (.ref (n0 + (N + 8))), aJ ([]), aI (List.replicate 1024 (.int (-1))), aI ([]), aI ([.int (-2147483648)]), aI ([.int 0]), aI ([.int (Int32.ofNat (0))]), aJ ([.long (mkM (32))]), aJ ([.long 0]), aJ ([.long x0, .long x0, (.long 0), (.long 0), (.long 0), (.long 0)])]) 15 1074 := w
    refine s_dup (pc' := 135) w at_134 rfl rfl ?_
    refine s_iconst (pc' := 136) (2 : Int32) w at_135 (by decide) rfl ?_
    refine s_lload (pc' := 138) w at_136 rfl rfl ?_
    refine s_lastore (pc' := 139) (k := (N + 9)) w (lk_suf hN rfl) at_138 (by decide) (leB rfl) rfl ?_
    intro T w
    rw [set_suf hN] at w
    replace w : St p l e _ (s.setVm vm1) m _ below meth c Z _ _ _ _ h0 n0 T (Q ++ [o2 (.ref (n0 + (N + 1))) (.int 10) (.ref (n0 + (N + 2))) (.ref (n0 + (N + 3))) (.ref (n0 + (N + 4))) (.ref (n0 + (N + 5))) (.ref (n0 + (N + 6))) (.ref (n0 + (N + 7))) (.int 1) (.ref (n0 + (N + 8))), aJ ([]), aI (List.replicate 1024 (.int (-1))), aI ([]), aI ([.int (-2147483648)]), aI ([.int 0]), aI ([.int (Int32.ofNat (0))]), aJ ([.long (mkM (32))]), aJ ([.long 0]), aJ ([.long x0, .long x0, .long x0, (.long 0), (.long 0), (.long 0)])]) 15 1074 := w
    refine s_dup (pc' := 140) w at_139 rfl rfl ?_
    refine s_iconst (pc' := 141) (3 : Int32) w at_140 (by decide) rfl ?_
    refine s_lload (pc' := 143) w at_141 rfl rfl ?_
    refine s_lastore (pc' := 144) (k := (N + 9)) w (lk_suf hN rfl) at_143 (by decide) (leB rfl) rfl ?_
    intro T w
    rw [set_suf hN] at w
    replace w : St p l e _ (s.setVm vm1) m _ below meth c Z _ _ _ _ h0 n0 T (Q ++ [o2 (.ref (n0 + (N + 1))) (.int 10) (.ref (n0 + (N + 2))) (.ref (n0 + (N + 3))) (.ref (n0 + (N + 4))) (.ref (n0 + (N + 5))) (.ref (n0 + (N + 6))) (.ref (n0 + (N + 7))) (.int 1) (.ref (n0 + (N + 8))), aJ ([]), aI (List.replicate 1024 (.int (-1))), aI ([]), aI ([.int (-2147483648)]), aI ([.int 0]), aI ([.int (Int32.ofNat (0))]), aJ ([.long (mkM (32))]), aJ ([.long 0]), aJ ([.long x0, .long x0, .long x0, .long x0, (.long 0), (.long 0)])]) 15 1074 := w
    refine s_dup (pc' := 145) w at_144 rfl rfl ?_
    refine s_iconst (pc' := 146) (4 : Int32) w at_145 (by decide) rfl ?_
    refine s_lload (pc' := 148) w at_146 rfl rfl ?_
    refine s_lastore (pc' := 149) (k := (N + 9)) w (lk_suf hN rfl) at_148 (by decide) (leB rfl) rfl ?_
    intro T w
    rw [set_suf hN] at w
    replace w : St p l e _ (s.setVm vm1) m _ below meth c Z _ _ _ _ h0 n0 T (Q ++ [o2 (.ref (n0 + (N + 1))) (.int 10) (.ref (n0 + (N + 2))) (.ref (n0 + (N + 3))) (.ref (n0 + (N + 4))) (.ref (n0 + (N + 5))) (.ref (n0 + (N + 6))) (.ref (n0 + (N + 7))) (.int 1) (.ref (n0 + (N + 8))), aJ ([]), aI (List.replicate 1024 (.int (-1))), aI ([]), aI ([.int (-2147483648)]), aI ([.int 0]), aI ([.int (Int32.ofNat (0))]), aJ ([.long (mkM (32))]), aJ ([.long 0]), aJ ([.long x0, .long x0, .long x0, .long x0, .long x0, (.long 0)])]) 15 1074 := w
    refine s_dup (pc' := 150) w at_149 rfl rfl ?_
    refine s_iconst (pc' := 151) (5 : Int32) w at_150 (by decide) rfl ?_
    refine s_lload (pc' := 153) w at_151 rfl rfl ?_
    refine s_lastore (pc' := 154) (k := (N + 9)) w (lk_suf hN rfl) at_153 (by decide) (leB rfl) rfl ?_
    intro T w
    rw [set_suf hN] at w
    replace w : St p l e _ (s.setVm vm1) m _ below meth c Z _ _ _ _ h0 n0 T (Q ++ [o2 (.ref (n0 + (N + 1))) (.int 10) (.ref (n0 + (N + 2))) (.ref (n0 + (N + 3))) (.ref (n0 + (N + 4))) (.ref (n0 + (N + 5))) (.ref (n0 + (N + 6))) (.ref (n0 + (N + 7))) (.int 1) (.ref (n0 + (N + 8))), aJ ([]), aI (List.replicate 1024 (.int (-1))), aI ([]), aI ([.int (-2147483648)]), aI ([.int 0]), aI ([.int (Int32.ofNat (0))]), aJ ([.long (mkM (32))]), aJ ([.long 0]), aJ ([.long x0, .long x0, .long x0, .long x0, .long x0, .long x0])]) 15 1074 := w
    refine s_astore (pc' := 156) (ls' := #[vJ q0, sc, vJ q1, sc, vJ q2, sc, vJ x0, sc, vJ x1, sc, vI sel, vI (1 : Int32), vI (Int32.ofNat sv), vR (n0 + 0), vR (n0 + 1), vR (n0 + (N + 0)), vR (n0 + (N + 9)), un, un, un, un, un, un, un, un, un, un, un, un]) w at_154 rfl rfl rfl ?_
    refine s_aload (pc' := 158) w at_156 rfl rfl rfl ?_
    refine s_iload (pc' := 160) w at_158 rfl rfl ?_
    refine s_lloadN (pc' := 161) w at_160 rfl rfl ?_
    refine s_lastore (pc' := 162) (k := (N + 9)) w (lk_suf hN rfl) at_161 (i_nn (by omega)) (by rw [i_cl (by omega)]; simp; omega) rfl ?_
    intro T w
    rw [i_cl (show sv < 2 ^ 31 by omega)] at w
    rw [set_suf hN] at w
    replace w : St p l e _ (s.setVm vm1) m _ below meth c Z _ _ _ _ h0 n0 T (Q ++ [o2 (.ref (n0 + (N + 1))) (.int 10) (.ref (n0 + (N + 2))) (.ref (n0 + (N + 3))) (.ref (n0 + (N + 4))) (.ref (n0 + (N + 5))) (.ref (n0 + (N + 6))) (.ref (n0 + (N + 7))) (.int 1) (.ref (n0 + (N + 8))), aJ ([]), aI (List.replicate 1024 (.int (-1))), aI ([]), aI ([.int (-2147483648)]), aI ([.int 0]), aI ([.int (Int32.ofNat (0))]), aJ ([.long (mkM (32))]), aJ ([.long 0]), aJ (List.set ([Value.long x0, Value.long x0, Value.long x0, Value.long x0, Value.long x0, Value.long x0]) sv (.long q0))]) 15 1074 := w
    refine s_iload (pc' := 164) w at_162 rfl rfl ?_
    refine s_iconst (pc' := 165) (2 : Int32) w at_164 (by decide) rfl ?_
    refine s_icmpY (pc' := 176) w at_165 (Jvm.Free.XT.ii_lt_t (by decide)) (by decide) (by decide) ?_
    refine s_iload (pc' := 178) w at_176 rfl rfl ?_
    refine s_iconst (pc' := 179) (3 : Int32) w at_178 (by decide) rfl ?_
    refine s_icmpY (pc' := 191) w at_179 (Jvm.Free.XT.ii_lt_t (by decide)) (by decide) (by decide) ?_
    refine s_iconst (pc' := 192) (4 : Int32) w at_191 (by decide) rfl ?_
    refine s_newarray (pc' := 194) (ty := .long) w (t98 hw) rfl (by intro C h; cases h) at_192 (by decide) 4 (by decide) (by decide) (by decide) (by decide) (N + 10) (by rw [List.length_append, hN]; rfl) rfl ?_
    intro T w
    rw [List.append_assoc] at w
    replace w : St p l e _ (s.setVm vm1) m _ below meth c Z _ _ _ _ h0 n0 T (Q ++ [o2 (.ref (n0 + (N + 1))) (.int 10) (.ref (n0 + (N + 2))) (.ref (n0 + (N + 3))) (.ref (n0 + (N + 4))) (.ref (n0 + (N + 5))) (.ref (n0 + (N + 6))) (.ref (n0 + (N + 7))) (.int 1) (.ref (n0 + (N + 8))), aJ ([]), aI (List.replicate 1024 (.int (-1))), aI ([]), aI ([.int (-2147483648)]), aI ([.int 0]), aI ([.int (Int32.ofNat (0))]), aJ ([.long (mkM (32))]), aJ ([.long 0]), aJ (List.set ([Value.long x0, Value.long x0, Value.long x0, Value.long x0, Value.long x0, Value.long x0]) sv (.long q0)), aJ ([(.long 0), (.long 0), (.long 0), (.long 0)])]) 16 1078 := w
    refine s_dup (pc' := 195) w at_194 rfl rfl ?_
    refine s_iconst (pc' := 196) (0 : Int32) w at_195 (by decide) rfl ?_
    refine s_lloadN (pc' := 197) w at_196 rfl rfl ?_
    refine s_lastore (pc' := 198) (k := (N + 10)) w (lk_suf hN rfl) at_197 (by decide) (leB rfl) rfl ?_
    intro T w
    rw [set_suf hN] at w
    replace w : St p l e _ (s.setVm vm1) m _ below meth c Z _ _ _ _ h0 n0 T (Q ++ [o2 (.ref (n0 + (N + 1))) (.int 10) (.ref (n0 + (N + 2))) (.ref (n0 + (N + 3))) (.ref (n0 + (N + 4))) (.ref (n0 + (N + 5))) (.ref (n0 + (N + 6))) (.ref (n0 + (N + 7))) (.int 1) (.ref (n0 + (N + 8))), aJ ([]), aI (List.replicate 1024 (.int (-1))), aI ([]), aI ([.int (-2147483648)]), aI ([.int 0]), aI ([.int (Int32.ofNat (0))]), aJ ([.long (mkM (32))]), aJ ([.long 0]), aJ (List.set ([Value.long x0, Value.long x0, Value.long x0, Value.long x0, Value.long x0, Value.long x0]) sv (.long q0)), aJ ([.long q0, (.long 0), (.long 0), (.long 0)])]) 16 1078 := w
    refine s_dup (pc' := 199) w at_198 rfl rfl ?_
    refine s_iconst (pc' := 200) (1 : Int32) w at_199 (by decide) rfl ?_
    refine s_lloadN (pc' := 201) w at_200 rfl rfl ?_
    refine s_lastore (pc' := 202) (k := (N + 10)) w (lk_suf hN rfl) at_201 (by decide) (leB rfl) rfl ?_
    intro T w
    rw [set_suf hN] at w
    replace w : St p l e _ (s.setVm vm1) m _ below meth c Z _ _ _ _ h0 n0 T (Q ++ [o2 (.ref (n0 + (N + 1))) (.int 10) (.ref (n0 + (N + 2))) (.ref (n0 + (N + 3))) (.ref (n0 + (N + 4))) (.ref (n0 + (N + 5))) (.ref (n0 + (N + 6))) (.ref (n0 + (N + 7))) (.int 1) (.ref (n0 + (N + 8))), aJ ([]), aI (List.replicate 1024 (.int (-1))), aI ([]), aI ([.int (-2147483648)]), aI ([.int 0]), aI ([.int (Int32.ofNat (0))]), aJ ([.long (mkM (32))]), aJ ([.long 0]), aJ (List.set ([Value.long x0, Value.long x0, Value.long x0, Value.long x0, Value.long x0, Value.long x0]) sv (.long q0)), aJ ([.long q0, .long q1, (.long 0), (.long 0)])]) 16 1078 := w
    refine s_dup (pc' := 203) w at_202 rfl rfl ?_
    refine s_iconst (pc' := 204) (2 : Int32) w at_203 (by decide) rfl ?_
    refine s_lload (pc' := 206) w at_204 rfl rfl ?_
    refine s_lastore (pc' := 207) (k := (N + 10)) w (lk_suf hN rfl) at_206 (by decide) (leB rfl) rfl ?_
    intro T w
    rw [set_suf hN] at w
    replace w : St p l e _ (s.setVm vm1) m _ below meth c Z _ _ _ _ h0 n0 T (Q ++ [o2 (.ref (n0 + (N + 1))) (.int 10) (.ref (n0 + (N + 2))) (.ref (n0 + (N + 3))) (.ref (n0 + (N + 4))) (.ref (n0 + (N + 5))) (.ref (n0 + (N + 6))) (.ref (n0 + (N + 7))) (.int 1) (.ref (n0 + (N + 8))), aJ ([]), aI (List.replicate 1024 (.int (-1))), aI ([]), aI ([.int (-2147483648)]), aI ([.int 0]), aI ([.int (Int32.ofNat (0))]), aJ ([.long (mkM (32))]), aJ ([.long 0]), aJ (List.set ([Value.long x0, Value.long x0, Value.long x0, Value.long x0, Value.long x0, Value.long x0]) sv (.long q0)), aJ ([.long q0, .long q1, .long q2, (.long 0)])]) 16 1078 := w
    refine s_dup (pc' := 208) w at_207 rfl rfl ?_
    refine s_iconst (pc' := 209) (3 : Int32) w at_208 (by decide) rfl ?_
    refine s_lload (pc' := 211) w at_209 rfl rfl ?_
    refine s_lastore (pc' := 212) (k := (N + 10)) w (lk_suf hN rfl) at_211 (by decide) (leB rfl) rfl ?_
    intro T w
    rw [set_suf hN] at w
    replace w : St p l e _ (s.setVm vm1) m _ below meth c Z _ _ _ _ h0 n0 T (Q ++ [o2 (.ref (n0 + (N + 1))) (.int 10) (.ref (n0 + (N + 2))) (.ref (n0 + (N + 3))) (.ref (n0 + (N + 4))) (.ref (n0 + (N + 5))) (.ref (n0 + (N + 6))) (.ref (n0 + (N + 7))) (.int 1) (.ref (n0 + (N + 8))), aJ ([]), aI (List.replicate 1024 (.int (-1))), aI ([]), aI ([.int (-2147483648)]), aI ([.int 0]), aI ([.int (Int32.ofNat (0))]), aJ ([.long (mkM (32))]), aJ ([.long 0]), aJ (List.set ([Value.long x0, Value.long x0, Value.long x0, Value.long x0, Value.long x0, Value.long x0]) sv (.long q0)), aJ ([.long q0, .long q1, .long q2, .long x1])]) 16 1078 := w
    refine s_astore (pc' := 214) (ls' := #[vJ q0, sc, vJ q1, sc, vJ q2, sc, vJ x0, sc, vJ x1, sc, vI sel, vI (1 : Int32), vI (Int32.ofNat sv), vR (n0 + 0), vR (n0 + 1), vR (n0 + (N + 0)), vR (n0 + (N + 9)), vR (n0 + (N + 10)), un, un, un, un, un, un, un, un, un, un, un]) w at_212 rfl rfl rfl ?_
    refine s_aload (pc' := 216) w at_214 rfl rfl rfl ?_
    refine s_aload (pc' := 218) w at_216 rfl rfl rfl ?_
    refine s_iload (pc' := 220) w at_218 rfl rfl ?_
    refine s_virtual (pc' := 223) (rest := []) 0 [(.ref (n0 + (N + 9))), (.int (Int32.ofNat sv))] w (c_hash1 hw l h0 n0 (n0 + (N + 0)) (n0 + (N + 9)) sv _ q0 _ _ (Lk.new (lk_suf hN rfl)) rfl (Lk.new (lk_suf hN rfl)) (by omega) (a_at1_0 hsv)) (Lk.new (lk_suf hN rfl)) (t185 hw) (t186 hw) (w.notFace (t188 hw)) (t188 hw) (t187 hw) (t93 hw) (t189 hw) (by decide) pd15 at_220 (by decide) rfl rfl rfl rfl (Nat.le_of_eq rfl) rfl ?_
    intro T v L' hQ w
    obtain ⟨rfl, hL⟩ := hQ
    replace hL := hL.symm
    subst hL
    dsimp only [oS, oN, cA, nA]
    refine s_istore (pc' := 225) (ls' := #[vJ q0, sc, vJ q1, sc, vJ q2, sc, vJ x0, sc, vJ x1, sc, vI sel, vI (1 : Int32), vI (Int32.ofNat sv), vR (n0 + 0), vR (n0 + 1), vR (n0 + (N + 0)), vR (n0 + (N + 9)), vR (n0 + (N + 10)), vI (hfin (hfold [q0])), un, un, un, un, un, un, un, un, un, un]) w at_223 rfl rfl ?_
    refine s_aload (pc' := 227) w at_225 rfl rfl rfl ?_
    refine s_aload (pc' := 229) w at_227 rfl rfl rfl ?_
    refine s_iconst (pc' := 230) (0 : Int32) w at_229 (by decide) rfl ?_
    refine s_virtual (pc' := 233) (rest := []) 0 [(.ref (n0 + (N + 10))), (.int (0 : Int32))] w (c_hash1 hw l h0 n0 (n0 + (N + 0)) (n0 + (N + 10)) 0 _ q0 _ _ (Lk.new (lk_suf hN rfl)) rfl (Lk.new (lk_suf hN rfl)) (by decide) rfl) (Lk.new (lk_suf hN rfl)) (t185 hw) (t186 hw) (w.notFace (t188 hw)) (t188 hw) (t187 hw) (t93 hw) (t189 hw) (by decide) pd15 at_230 (by decide) rfl rfl rfl rfl (Nat.le_of_eq rfl) rfl ?_
    intro T v L' hQ w
    obtain ⟨rfl, hL⟩ := hQ
    replace hL := hL.symm
    subst hL
    dsimp only [oS, oN, cA, nA]
    refine s_istore (pc' := 235) (ls' := #[vJ q0, sc, vJ q1, sc, vJ q2, sc, vJ x0, sc, vJ x1, sc, vI sel, vI (1 : Int32), vI (Int32.ofNat sv), vR (n0 + 0), vR (n0 + 1), vR (n0 + (N + 0)), vR (n0 + (N + 9)), vR (n0 + (N + 10)), vI (hfin (hfold [q0])), vI (hfin (hfold [q0])), un, un, un, un, un, un, un, un, un]) w at_233 rfl rfl ?_
    refine s_ldc2 (pc' := 238) w (t192 hw) at_235 rfl ?_
    refine s_lstore (pc' := 240) (ls' := #[vJ q0, sc, vJ q1, sc, vJ q2, sc, vJ x0, sc, vJ x1, sc, vI sel, vI (1 : Int32), vI (Int32.ofNat sv), vR (n0 + 0), vR (n0 + 1), vR (n0 + (N + 0)), vR (n0 + (N + 9)), vR (n0 + (N + 10)), vI (hfin (hfold [q0])), vI (hfin (hfold [q0])), vJ (-7046029254386353131 : Int64), sc, un, un, un, un, un, un, un]) w at_238 rfl rfl ?_
    refine s_lload (pc' := 242) w at_240 rfl rfl ?_
    refine s_lload (pc' := 244) w at_242 rfl rfl ?_
    refine s_lmul (pc' := 245) w at_244 rfl ?_
    refine s_lstore (pc' := 247) (ls' := #[vJ q0, sc, vJ q1, sc, vJ q2, sc, vJ x0, sc, vJ x1, sc, vI sel, vI (1 : Int32), vI (Int32.ofNat sv), vR (n0 + 0), vR (n0 + 1), vR (n0 + (N + 0)), vR (n0 + (N + 9)), vR (n0 + (N + 10)), vI (hfin (hfold [q0])), vI (hfin (hfold [q0])), vJ (-7046029254386353131 : Int64), sc, vJ ((-7046029254386353131 : Int64) * (-7046029254386353131 : Int64)), sc, un, un, un, un, un]) w at_245 rfl rfl ?_
    refine s_lload (pc' := 249) w at_247 rfl rfl ?_
    refine s_lload (pc' := 251) w at_249 rfl rfl ?_
    refine s_lmul (pc' := 252) w at_251 rfl ?_
    refine s_lstore (pc' := 254) (ls' := #[vJ q0, sc, vJ q1, sc, vJ q2, sc, vJ x0, sc, vJ x1, sc, vI sel, vI (1 : Int32), vI (Int32.ofNat sv), vR (n0 + 0), vR (n0 + 1), vR (n0 + (N + 0)), vR (n0 + (N + 9)), vR (n0 + (N + 10)), vI (hfin (hfold [q0])), vI (hfin (hfold [q0])), vJ (-7046029254386353131 : Int64), sc, vJ ((-7046029254386353131 : Int64) * (-7046029254386353131 : Int64)), sc, vJ (((-7046029254386353131 : Int64) * (-7046029254386353131 : Int64)) * (-7046029254386353131 : Int64)), sc, un, un, un]) w at_252 rfl rfl ?_
    refine s_iload (pc' := 256) w at_254 rfl rfl ?_
    refine s_iconst (pc' := 257) (1 : Int32) w at_256 (by decide) rfl ?_
    refine s_icmpN (pc' := 260) w at_257 (Jvm.Free.XT.ii_ne_f rfl) rfl ?_
    refine s_lloadN (pc' := 261) w at_260 rfl rfl ?_
    refine s_lload (pc' := 263) w at_261 rfl rfl ?_
    refine s_lmul (pc' := 264) w at_263 rfl ?_
    refine s_lstore (pc' := 266) (ls' := #[vJ q0, sc, vJ q1, sc, vJ q2, sc, vJ x0, sc, vJ x1, sc, vI sel, vI (1 : Int32), vI (Int32.ofNat sv), vR (n0 + 0), vR (n0 + 1), vR (n0 + (N + 0)), vR (n0 + (N + 9)), vR (n0 + (N + 10)), vI (hfin (hfold [q0])), vI (hfin (hfold [q0])), vJ (-7046029254386353131 : Int64), sc, vJ ((-7046029254386353131 : Int64) * (-7046029254386353131 : Int64)), sc, vJ (((-7046029254386353131 : Int64) * (-7046029254386353131 : Int64)) * (-7046029254386353131 : Int64)), sc, vJ (q0 * (-7046029254386353131 : Int64)), sc, un]) w at_264 rfl rfl ?_
    refine s_goto (pc' := 306) w at_266 (by decide) (by decide) ?_
    refine s_lload (pc' := 308) w at_306 rfl rfl ?_
    refine s_static (pc' := 311) (rest := []) 0 [(.long (q0 * (-7046029254386353131 : Int64)))] w (c_fin hw l h0 n0 (q0 * (-7046029254386353131 : Int64)) _) (t193 hw) (t194 hw) (t195 hw) (t196 hw) (by decide) pd8 at_308 (by decide) rfl rfl rfl rfl (Nat.le_of_eq rfl) rfl ?_
    intro T v L' hQ w
    obtain ⟨rfl, hL⟩ := hQ
    replace hL := hL.symm
    subst hL
    dsimp only [oS, oN, cA, nA]
    rw [← sum1 q0]
    refine s_istore (pc' := 313) (ls' := #[vJ q0, sc, vJ q1, sc, vJ q2, sc, vJ x0, sc, vJ x1, sc, vI sel, vI (1 : Int32), vI (Int32.ofNat sv), vR (n0 + 0), vR (n0 + 1), vR (n0 + (N + 0)), vR (n0 + (N + 9)), vR (n0 + (N + 10)), vI (hfin (hfold [q0])), vI (hfin (hfold [q0])), vJ (-7046029254386353131 : Int64), sc, vJ ((-7046029254386353131 : Int64) * (-7046029254386353131 : Int64)), sc, vJ (((-7046029254386353131 : Int64) * (-7046029254386353131 : Int64)) * (-7046029254386353131 : Int64)), sc, vJ (q0 * (-7046029254386353131 : Int64)), sc, vI (hfin (hfold [q0]))]) w at_311 rfl rfl ?_
    refine s_iload (pc' := 315) w at_313 rfl rfl ?_
    refine s_iload (pc' := 317) w at_315 rfl rfl ?_
    refine s_icmpN (pc' := 320) w at_317 (Jvm.Free.XT.ii_ne_f rfl) rfl ?_
    refine s_iload (pc' := 322) w at_320 rfl rfl ?_
    refine s_iload (pc' := 324) w at_322 rfl rfl ?_
    refine s_icmpN (pc' := 327) w at_324 (Jvm.Free.XT.ii_ne_f rfl) rfl ?_
    refine s_iconst (pc' := 328) (1 : Int32) w at_327 (by decide) rfl ?_
    refine s_goto (pc' := 332) w at_328 (by decide) (by decide) ?_
    exact s_zreturnW rfl w hS1 (by rw [List.length_append, hN]; omega) at_332 (by decide) (by decide) rfl
  · change Go p e below _ T (mkF m 7 #[vJ q0, sc, vJ q1, sc, vJ q2, sc, vJ x0, sc, vJ x1, sc, vI sel, un, un, un, un, un, un, un, un, un, un, un, un, un, un, un, un, un, un] [(.int (1 : Int32)), (.int (1 : Int32))])
    refine s_iadd (pc' := 8) w at_7 rfl ?_
    rw [show (1 : Int32) + 1 = 2 by decide]
    refine s_istore (pc' := 10) (ls' := #[vJ q0, sc, vJ q1, sc, vJ q2, sc, vJ x0, sc, vJ x1, sc, vI sel, vI (2 : Int32), un, un, un, un, un, un, un, un, un, un, un, un, un, un, un, un, un]) w at_8 rfl rfl ?_
    refine s_iload (pc' := 12) w at_10 rfl rfl ?_
    refine s_iconst (pc' := 13) (2 : Int32) w at_12 (by decide) rfl ?_
    refine s_iushr (pc' := 14) w at_13 rfl ?_
    refine s_iconst (pc' := 15) (3 : Int32) w at_14 (by decide) rfl ?_
    refine s_iand (pc' := 16) w at_15 rfl ?_
    obtain ⟨sv, hsv, esv⟩ := and3 (Jvm.Free.XT.ushr sel (2 : Int32))
    rw [esv]
    refine s_istore (pc' := 18) (ls' := #[vJ q0, sc, vJ q1, sc, vJ q2, sc, vJ x0, sc, vJ x1, sc, vI sel, vI (2 : Int32), vI (Int32.ofNat sv), un, un, un, un, un, un, un, un, un, un, un, un, un, un, un, un]) w at_16 rfl rfl ?_
    refine s_new (pc' := 21) [(.int 0), .null, (.int 0)] w (t0 hw) (t2 hw) (cls0 hw) at_18 ?_ (by decide) (by decide) 0 rfl rfl ?_
    · intro j f v h1 h2
      match j, h1, h2 with
      | 0, h1, h2 => cases (Option.some.inj h1); cases (Option.some.inj h2); exact ⟨.int, by decide +kernel, rfl⟩
      | 1, h1, h2 => cases (Option.some.inj h1); cases (Option.some.inj h2); exact ⟨(.array (.object "java/lang/Object")), by decide +kernel, rfl⟩
      | 2, h1, h2 => cases (Option.some.inj h1); cases (Option.some.inj h2); exact ⟨.int, by decide +kernel, rfl⟩
      | (i + 3), h1, _ => exact absurd h1 (by simp [fs0])
    intro T w
    replace w : St p l e _ s m _ below meth c Z _ _ _ _ h0 n0 T [o0 (.int 0) .null (.int 0)] 1 3 := w
    refine s_dup (pc' := 22) w at_21 rfl rfl ?_
    refine s_special (pc' := 25) (rest := [(.ref (n0 + 0))]) 1 [] w (c_alinit hw l h0 n0 0 (.int 0) .null (.int 0) de _ rfl SD) rfl (t3 hw) (t4 hw) (t2 hw) (t5 hw) (by decide) pd0 at_22 (by decide) rfl rfl rfl rfl (Nat.le_of_eq rfl) rfl ?_
    intro T v L' hQ w
    obtain ⟨rfl, hL⟩ := hQ
    replace hL := hL.symm
    subst hL
    dsimp only [oS, oN, cA, nA]
    replace w : St p l e _ s m _ below meth c Z _ _ _ _ h0 n0 T [o0 (.int 0) (.ref de) (.int 0)] 1 3 := w
    refine s_astore (pc' := 27) (ls' := #[vJ q0, sc, vJ q1, sc, vJ q2, sc, vJ x0, sc, vJ x1, sc, vI sel, vI (2 : Int32), vI (Int32.ofNat sv), vR (n0 + 0), un, un, un, un, un, un, un, un, un, un, un, un, un, un, un]) w at_25 rfl rfl rfl ?_
    refine s_new (pc' := 30) [.null, .null, (.int 0), (.int 0), (.int 0), .null] w (t26 hw) (t28 hw) (cls1 hw) at_27 ?_ (by decide) (by decide) 1 rfl rfl ?_
    · intro j f v h1 h2
      match j, h1, h2 with
      | 0, h1, h2 => cases (Option.some.inj h1); cases (Option.some.inj h2); exact ⟨(.object "java/lang/String"), by decide +kernel, rfl⟩
      | 1, h1, h2 => cases (Option.some.inj h1); cases (Option.some.inj h2); exact ⟨(.object "com/example/ryazan/ryazan/lang/Type"), by decide +kernel, rfl⟩
      | 2, h1, h2 => cases (Option.some.inj h1); cases (Option.some.inj h2); exact ⟨.int, by decide +kernel, rfl⟩
      | 3, h1, h2 => cases (Option.some.inj h1); cases (Option.some.inj h2); exact ⟨.int, by decide +kernel, rfl⟩
      | 4, h1, h2 => cases (Option.some.inj h1); cases (Option.some.inj h2); exact ⟨.int, by decide +kernel, rfl⟩
      | 5, h1, h2 => cases (Option.some.inj h1); cases (Option.some.inj h2); exact ⟨(.object "com/example/ryazan/ryazan/lang/SourcePosition"), by decide +kernel, rfl⟩
      | (i + 6), h1, _ => exact absurd h1 (by simp [fs1])
    intro T w
    replace w : St p l e _ s m _ below meth c Z _ _ _ _ h0 n0 T [o0 (.int 0) (.ref de) (.int 0), o1 .null .null (.int 0) (.int 0) (.int 0) .null] 2 9 := w
    refine s_dup (pc' := 31) w at_30 rfl rfl ?_
    refine s_ldcS (pc' := 33) 4 w (t29 hw) (strs hw) at_31 (by decide) (by decide) (by decide) (by decide) rfl ?_
    intro T vm1 sa k1 f hS1 hk1 w
    obtain ⟨P0, eP⟩ : ∃ P : List Ob, P = [o0 (.int 0) (.ref de) (.int 0), o1 .null .null (.int 0) (.int 0) (.int 0) .null] ++ List.replicate f dum := ⟨_, rfl⟩
    have p0 : P0[0]? = some (o0 (.int 0) (.ref de) (.int 0)) := by rw [eP]; rfl
    have p1 : P0[1]? = some (o1 .null .null (.int 0) (.int 0) (.int 0) .null) := by rw [eP]; rfl
    obtain ⟨B0, hB0⟩ : ∃ z, P0.length = z := ⟨_, rfl⟩
    have hkB : k1 ≤ n0 + B0 := by rw [← hB0, eP, List.length_append, List.length_replicate]; exact hk1
    replace w : St p l e _ (s.setVm vm1) m _ below meth c Z _ _ _ _ h0 n0 T ([o0 (.int 0) (.ref de) (.int 0), o1 .null .null (.int 0) (.int 0) (.int 0) .null] ++ List.replicate f dum) 4 17 := w
    rw [← eP] at w
    clear eP hk1
    have hB2 : 1 < B0 := hB0 ▸ (List.getElem?_eq_some_iff.mp p1).1
    refine s_aconst_null (pc' := 34) w at_33 rfl ?_
    refine s_ldc (pc' := 36) w (t37 hw) at_34 rfl ?_
    refine s_ldc (pc' := 38) w (t38 hw) at_36 rfl ?_
    refine s_iconst (pc' := 39) (0 : Int32) w at_38 (by decide) rfl ?_
    refine s_aconst_null (pc' := 40) w at_39 rfl ?_
    refine s_special (pc' := 43) (rest := [(.ref (n0 + 1))]) 1 [(.ref sa), .null, (.int (-2147483648 : Int32)), (.int (2147483647 : Int32)), (.int (0 : Int32)), .null] w (c_var hw l h0 n0 1 (.ref sa) .null (-2147483648) 2147483647 0 _ p1 rfl rfl) rfl (t39 hw) (t40 hw) (t28 hw) (t41 hw) (by decide) pd12 at_40 (by decide) rfl rfl rfl rfl (Nat.le_of_eq rfl) rfl ?_
    intro T v L' hQ w
    obtain ⟨rfl, hL⟩ := hQ
    replace hL := hL.symm
    subst hL
    dsimp only [oS, oN, cA, nA]
    obtain ⟨P1, eP⟩ : ∃ P : List Ob, P = P0.set 1 (o1 (.ref sa) .null (.int (-2147483648)) (.int 2147483647) (.int 0) .null) := ⟨_, rfl⟩
    replace p0 : P1[0]? = some (o0 (.int 0) (.ref de) (.int 0)) := by rw [eP]; exact lk_ne p0 (by decide)
    replace p1 : P1[1]? = some (o1 (.ref sa) .null (.int (-2147483648)) (.int 2147483647) (.int 0) .null) := by rw [eP]; exact lk_set p1
    replace hB0 : P1.length = B0 := by rw [eP, List.length_set]; exact hB0
    rw [← eP] at w
    clear eP
    refine s_astore (pc' := 45) (ls' := #[vJ q0, sc, vJ q1, sc, vJ q2, sc, vJ x0, sc, vJ x1, sc, vI sel, vI (2 : Int32), vI (Int32.ofNat sv), vR (n0 + 0), vR (n0 + 1), un, un, un, un, un, un, un, un, un, un, un, un, un, un]) w at_43 rfl rfl rfl ?_
    refine s_aload (pc' := 47) w at_45 rfl rfl rfl ?_
    refine s_aload (pc' := 49) w at_47 rfl rfl rfl ?_
    refine s_virtual (pc' := 52) (rest := []) 0 [(.ref (n0 + 1))] w (c_addg hw l h0 n0 0 0 de dcl (n0 + 1) _ _ _ _ p0 SD AD hdcl (Lk.new p1) (Or.inr (t90 hw)) (ad_ne (by decide))) (Lk.new p0) (t60 hw) (t61 hw) (w.notFace (t63 hw)) (t63 hw) (t62 hw) (t2 hw) (t64 hw) (by decide) pd13 at_49 (by decide) rfl rfl rfl rfl (Nat.le_of_eq rfl) rfl ?_
    intro T v L' hQ w
    obtain ⟨rfl, hL⟩ := hQ
    replace hL := hL.symm
    subst hL
    dsimp only [oS, oN, cA, nA]
    rw [hB0] at w
    replace w : St p l e _ (s.setVm vm1) m _ below meth c Z _ _ _ _ h0 n0 T (P1.set 0 (o0 (.int 1) (.ref (n0 + B0)) (.int 1)) ++ [aO ([.ref (n0 + 1), .null, .null, .null, .null, .null, .null, .null, .null, .null])]) 5 27 := w
    obtain ⟨P2, eP⟩ : ∃ P : List Ob, P = P1.set 0 (o0 (.int 1) (.ref (n0 + B0)) (.int 1)) := ⟨_, rfl⟩
    replace p0 : P2[0]? = some (o0 (.int 1) (.ref (n0 + B0)) (.int 1)) := by rw [eP]; exact lk_set p0
    replace p1 : P2[1]? = some (o1 (.ref sa) .null (.int (-2147483648)) (.int 2147483647) (.int 0) .null) := by rw [eP]; exact lk_ne p1 (by decide)
    replace hB0 : P2.length = B0 := by rw [eP, List.length_set]; exact hB0
    rw [← eP] at w
    clear eP
    refine s_pop (pc' := 53) w at_52 rfl rfl ?_
    refine s_iload (pc' := 55) w at_53 rfl rfl ?_
    refine s_iconst (pc' := 56) (2 : Int32) w at_55 (by decide) rfl ?_
    refine s_icmpN (pc' := 59) w at_56 (Jvm.Free.XT.ii_lt_f (by decide)) rfl ?_
    refine s_aload (pc' := 61) w at_59 rfl rfl rfl ?_
    refine s_aload (pc' := 63) w at_61 rfl rfl rfl ?_
    refine s_virtual (pc' := 66) (rest := []) 0 [(.ref (n0 + 1))] w (c_addn hw l h0 n0 0 (B0 + 0) 1 1 [.ref (n0 + 1), .null, .null, .null, .null, .null, .null, .null, .null, .null] 10 (n0 + 1) _ _ _ _ (lk_app p0) (lk_suf hB0 rfl) rfl (by decide) (by decide) (leB rfl) (by omega) (Lk.new (lk_app p1)) (Or.inr (t90 hw)) (ad_ne (by decide))) (Lk.new (lk_app p0)) (t60 hw) (t61 hw) (w.notFace (t63 hw)) (t63 hw) (t62 hw) (t2 hw) (t64 hw) (by decide) pd13 at_63 (by decide) rfl rfl rfl rfl (Nat.le_of_eq rfl) rfl ?_
    intro T v L' hQ w
    obtain ⟨rfl, hL⟩ := hQ
    replace hL := hL.symm
    subst hL
    dsimp only [oS, oN, cA, nA]
    rw [set_suf hB0, set_app p0] at w
    replace w : St p l e _ (s.setVm vm1) m _ below meth c Z _ _ _ _ h0 n0 T (P2.set 0 (o0 (.int 2) (.ref (n0 + B0)) (.int 2)) ++ [aO ([.ref (n0 + 1), .ref (n0 + 1), .null, .null, .null, .null, .null, .null, .null, .null])]) 5 27 := w
    obtain ⟨P3, eP⟩ : ∃ P : List Ob, P = P2.set 0 (o0 (.int 2) (.ref (n0 + B0)) (.int 2)) := ⟨_, rfl⟩
    replace p0 : P3[0]? = some (o0 (.int 2) (.ref (n0 + B0)) (.int 2)) := by rw [eP]; exact lk_set p0
    replace p1 : P3[1]? = some (o1 (.ref sa) .null (.int (-2147483648)) (.int 2147483647) (.int 0) .null) := by rw [eP]; exact lk_ne p1 (by decide)
    replace hB0 : P3.length = B0 := by rw [eP, List.length_set]; exact hB0
    rw [← eP] at w
    clear eP
    refine s_pop (pc' := 67) w at_66 rfl rfl ?_
    refine s_aload (pc' := 69) w at_67 rfl rfl rfl ?_
    refine s_aload (pc' := 71) w at_69 rfl rfl rfl ?_
    refine s_virtual (pc' := 74) (rest := []) 0 [(.ref (n0 + 1))] w (c_addn hw l h0 n0 0 (B0 + 0) 2 2 [.ref (n0 + 1), .ref (n0 + 1), .null, .null, .null, .null, .null, .null, .null, .null] 10 (n0 + 1) _ _ _ _ (lk_app p0) (lk_suf hB0 rfl) rfl (by decide) (by decide) (leB rfl) (by omega) (Lk.new (lk_app p1)) (Or.inr (t90 hw)) (ad_ne (by decide))) (Lk.new (lk_app p0)) (t60 hw) (t61 hw) (w.notFace (t63 hw)) (t63 hw) (t62 hw) (t2 hw) (t64 hw) (by decide) pd13 at_71 (by decide) rfl rfl rfl rfl (Nat.le_of_eq rfl) rfl ?_
    intro T v L' hQ w
    obtain ⟨rfl, hL⟩ := hQ
    replace hL := hL.symm
    subst hL
    dsimp only [oS, oN, cA, nA]
    rw [set_suf hB0, set_app p0] at w
    replace w : St p l e _ (s.setVm vm1) m _ below meth c Z _ _ _ _ h0 n0 T (P3.set 0 (o0 (.int 3) (.ref (n0 + B0)) (.int 3)) ++ [aO ([.ref (n0 + 1), .ref (n0 + 1), .ref (n0 + 1), .null, .null, .null, .null, .null, .null, .null])]) 5 27 := w
    obtain ⟨P4, eP⟩ : ∃ P : List Ob, P = P3.set 0 (o0 (.int 3) (.ref (n0 + B0)) (.int 3)) := ⟨_, rfl⟩
    replace p0 : P4[0]? = some (o0 (.int 3) (.ref (n0 + B0)) (.int 3)) := by rw [eP]; exact lk_set p0
    replace p1 : P4[1]? = some (o1 (.ref sa) .null (.int (-2147483648)) (.int 2147483647) (.int 0) .null) := by rw [eP]; exact lk_ne p1 (by decide)
    replace hB0 : P4.length = B0 := by rw [eP, List.length_set]; exact hB0
    rw [← eP] at w
    clear eP
    refine s_pop (pc' := 75) w at_74 rfl rfl ?_
    refine s_iload (pc' := 77) w at_75 rfl rfl ?_
    refine s_iconst (pc' := 78) (3 : Int32) w at_77 (by decide) rfl ?_
    refine s_icmpY (pc' := 97) w at_78 (Jvm.Free.XT.ii_lt_t (by decide)) (by decide) (by decide) ?_
    obtain ⟨Q, eQ⟩ : ∃ P : List Ob, P = P4 ++ [aO ([.ref (n0 + 1), .ref (n0 + 1), .ref (n0 + 1), .null, .null, .null, .null, .null, .null, .null])] := ⟨_, rfl⟩
    have pA : Q[0]? = some (o0 (.int 3) (.ref (n0 + B0)) (.int 3)) := by rw [eQ]; exact lk_app p0
    have pV : Q[1]? = some (o1 (.ref sa) .null (.int (-2147483648)) (.int 2147483647) (.int 0) .null) := by rw [eQ]; exact lk_app p1
    have pE : Q[B0 + 0]? = some (aO ([.ref (n0 + 1), .ref (n0 + 1), .ref (n0 + 1), .null, .null, .null, .null, .null, .null, .null])) := by rw [eQ]; exact lk_suf hB0 rfl
    obtain ⟨N, hN⟩ : ∃ z, Q.length = z := ⟨_, rfl⟩
    have hkN : k1 ≤ n0 + N := by rw [← hN, eQ, List.length_append, hB0]; omega
    rw [← eQ] at w
    clear eQ
    refine s_new (pc' := 100) [.null, (.int 0), .null, .null, .null, .null, .null, .null, (.int 0), .null] w (t91 hw) (t93 hw) (cls2 hw) at_97 ?_ (by decide) (by decide) (N + 0) hN rfl ?_
    · intro j f v h1 h2
      match j, h1, h2 with
      | 0, h1, h2 => cases (Option.some.inj h1); cases (Option.some.inj h2); exact ⟨(.array .long), by decide +kernel, rfl⟩
      | 1, h1, h2 => cases (Option.some.inj h1); cases (Option.some.inj h2); exact ⟨.int, by decide +kernel, rfl⟩
      | 2, h1, h2 => cases (Option.some.inj h1); cases (Option.some.inj h2); exact ⟨(.array .int), by decide +kernel, rfl⟩
      | 3, h1, h2 => cases (Option.some.inj h1); cases (Option.some.inj h2); exact ⟨(.array .int), by decide +kernel, rfl⟩
      | 4, h1, h2 => cases (Option.some.inj h1); cases (Option.some.inj h2); exact ⟨(.array .int), by decide +kernel, rfl⟩
      | 5, h1, h2 => cases (Option.some.inj h1); cases (Option.some.inj h2); exact ⟨(.array .int), by decide +kernel, rfl⟩
      | 6, h1, h2 => cases (Option.some.inj h1); cases (Option.some.inj h2); exact ⟨(.array .int), by decide +kernel, rfl⟩
      | 7, h1, h2 => cases (Option.some.inj h1); cases (Option.some.inj h2); exact ⟨(.array .long), by decide +kernel, rfl⟩
      | 8, h1, h2 => cases (Option.some.inj h1); cases (Option.some.inj h2); exact ⟨.int, by decide +kernel, rfl⟩
      | 9, h1, h2 => cases (Option.some.inj h1); cases (Option.some.inj h2); exact ⟨(.array .long), by decide +kernel, rfl⟩
      | (i + 10), h1, _ => exact absurd h1 (by simp [fs2])
    intro T w
    replace w : St p l e _ (s.setVm vm1) m _ below meth c Z _ _ _ _ h0 n0 T (Q ++ [o2 .null (.int 0) .null .null .null .null .null .null (.int 0) .null]) 6 39 := w
    refine s_dup (pc' := 101) w at_100 rfl rfl ?_
    refine s_aload (pc' := 103) w at_101 rfl rfl rfl ?_
    refine s_special (pc' := 106) (rest := [(.ref (n0 + (N + 0)))]) 1 [(.ref (n0 + 0))] w (c_storeF3 hw l h0 n0 Q N 0 (B0 + 0) (.int 3) [.ref (n0 + 1), .ref (n0 + 1), .ref (n0 + 1), .null, .null, .null, .null, .null, .null, .null] 1 (-2147483648) 2147483647 (.ref sa) .null (.int 0) .null 1 (-2147483648) 2147483647 (.ref sa) .null (.int 0) .null 1 (-2147483648) 2147483647 (.ref sa) .null (.int 0) .null hN pA pE rfl pV (by decide) rfl pV (by decide) rfl pV (by decide) (by decide) (by decide) (by decide) (by decide) (by decide) (by decide)) rfl (t94 hw) (t95 hw) (t93 hw) (t96 hw) (by decide) pd14 at_103 (by decide) rfl rfl rfl rfl (Nat.le_of_eq rfl) rfl ?_
    intro T v L' hQ w
    obtain ⟨rfl, hL⟩ := hQ
    replace hL := hL.symm
    subst hL
    dsimp only [oS, oN, cA, nA]
    replace w : St p l e _ (s.setVm vm1) m _ below meth c Z _ _ _ _ h0 n0 T (Q ++ [o2 (.ref (n0 + (N + 1))) (.int 10) (.ref (n0 + (N + 2))) (.ref (n0 + (N + 3))) (.ref (n0 + (N + 4))) (.ref (n0 + (N + 5))) (.ref (n0 + (N + 6))) (.ref (n0 + (N + 7))) (.int 2) (.ref (n0 + (N + 8))), aJ ([]), aI (List.replicate 1024 (.int (-1))), aI ([]), aI ([.int (-2147483648), .int (-2147483648), .int (-2147483648)]), aI ([.int 0, .int 0, .int 1]), aI ([.int (Int32.ofNat (0)), .int (Int32.ofNat (32)), .int (Int32.ofNat (0))]), aJ ([.long (mkM (32)), .long (mkM (32)), .long (mkM (32))]), aJ ([.long 0, .long 0])]) 14 1077 := w
    refine s_astore (pc' := 108) (ls' := #[vJ q0, sc, vJ q1, sc, vJ q2, sc, vJ x0, sc, vJ x1, sc, vI sel, vI (2 : Int32), vI (Int32.ofNat sv), vR (n0 + 0), vR (n0 + 1), vR (n0 + (N + 0)), un, un, un, un, un, un, un, un, un, un, un, un, un]) w at_106 rfl rfl rfl ?_
    refine s_aload (pc' := 110) w at_108 rfl rfl rfl ?_
    refine s_virtual (pc' := 113) (rest := []) 0 [] w (c_wps hw l h0 n0 (n0 + (N + 0)) 2 _ _ (Lk.new (lk_suf hN rfl)) rfl) (Lk.new (lk_suf hN rfl)) (t180 hw) (t181 hw) (w.notFace (t183 hw)) (t183 hw) (t182 hw) (t93 hw) (t184 hw) (by decide) pd11 at_110 (by decide) rfl rfl rfl rfl (Nat.le_of_eq rfl) rfl ?_
    intro T v L' hQ w
    obtain ⟨rfl, hL⟩ := hQ
    replace hL := hL.symm
    subst hL
    dsimp only [oS, oN, cA, nA]
    refine s_iload (pc' := 115) w at_113 rfl rfl ?_
    refine s_icmpY (pc' := 120) w at_115 (Jvm.Free.XT.ii_eq_t rfl) (by decide) (by decide) ?_
    refine s_bipush (pc' := 122) (6 : Int32) w at_120 (by decide) rfl ?_
    refine s_newarray (pc' := 124) (ty := .long) w (t98 hw) rfl (by intro C h; cases h) at_122 (by decide) 6 (by decide) (by decide) (by decide) (by decide) (N + 9) (by rw [List.length_append, hN]; rfl) rfl ?_
    intro T w
    rw [List.append_assoc] at w
    replace w : St p l e _ (s.setVm vm1) m _ below meth c Z _ _ _ _ h0 n0 T (Q ++ [o2 (.ref (n0 + (N + 1))) (.int 10) (.ref (n0 + (N + 2))) (.ref (n0 + (N + 3))) (.ref (n0 + (N + 4))) (.ref (n0 + (N + 5))) (.ref (n0 + (N + 6))) (.ref (n0 + (N + 7))) (.int 2) (.ref (n0 + (N + 8))), aJ ([]), aI (List.replicate 1024 (.int (-1))), aI ([]), aI ([.int (-2147483648), .int (-2147483648), .int (-2147483648)]), aI ([.int 0, .int 0, .int 1]), aI ([.int (Int32.ofNat (0)), .int (Int32.ofNat (32)), .int (Int32.ofNat (0))]), aJ ([.long (mkM (32)), .long (mkM (32)), .long (mkM (32))]), aJ ([.long 0, .long 0]), aJ ([(.long 0), (.long 0), (.long 0), (.long 0), (.long 0), (.long 0)])]) 15 1083 := w
    refine s_dup (pc' := 125) w at_124 rfl rfl ?_
    refine s_iconst (pc' := 126) (0 : Int32) w at_125 (by decide) rfl ?_
    refine s_lload (pc' := 128) w at_126 rfl rfl ?_
    refine s_lastore (pc' := 129) (k := (N + 9)) w (lk_suf hN rfl) at_128 (by decide) (leB rfl) rfl ?_
    intro T w
    rw [set_suf hN] at w
    replace w : St p l e _ (s.setVm vm1) m _ below meth c Z _ _ _ _ h0 n0 T (Q ++ [o2 (.ref (n0 + (N + 1))) (.int 10) (.ref (n0 + (N + 2))) (.ref (n0 + (N + 3))) (.ref (n0 + (N + 4))) (.ref (n0 + (N + 5))) (.ref (n0 + (N + 6))) (.ref (n0 + (N + 7))) (.int 2) (.ref (n0 + (N + 8))), aJ ([]), aI (List.replicate 1024 (.int (-1))), aI ([]), aI ([.int (-2147483648), .int (-2147483648), .int (-2147483648)]), aI ([.int 0, .int 0, .int 1]), aI ([.int (Int32.ofNat (0)), .int (Int32.ofNat (32)), .int (Int32.ofNat (0))]), aJ ([.long (mkM (32)), .long (mkM (32)), .long (mkM (32))]), aJ ([.long 0, .long 0]), aJ ([.long x0, (.long 0), (.long 0), (.long 0), (.long 0), (.long 0)])]) 15 1083 := w
    refine s_dup (pc' := 130) w at_129 rfl rfl ?_
    refine s_iconst (pc' := 131) (1 : Int32) w at_130 (by decide) rfl ?_
    refine s_lload (pc' := 133) w at_131 rfl rfl ?_
    refine s_lastore (pc' := 134) (k := (N + 9)) w (lk_suf hN rfl) at_133 (by decide) (leB rfl) rfl ?_
    intro T w
    rw [set_suf hN] at w
    replace w : St p l e _ (s.setVm vm1) m _ below meth c Z _ _ _ _ h0 n0 T (Q ++ [o2 (.ref (n0 + (N + 1))) (.int 10) (.ref (n0 + (N + 2))) (.ref (n0 + (N + 3))) (.ref (n0 + (N + 4))) (.ref (n0 + (N + 5))) (.ref (n0 + (N + 6))) (.ref (n0 + (N + 7))) (.int 2) (.ref (n0 + (N + 8))), aJ ([]), aI (List.replicate 1024 (.int (-1))), aI ([]), aI ([.int (-2147483648), .int (-2147483648), .int (-2147483648)]), aI ([.int 0, .int 0, .int 1]), aI ([.int (Int32.ofNat (0)), .int (Int32.ofNat (32)), .int (Int32.ofNat (0))]), aJ ([.long (mkM (32)), .long (mkM (32)), .long (mkM (32))]), aJ ([.long 0, .long 0]), aJ ([.long x0, .long x0, (.long 0), (.long 0), (.long 0), (.long 0)])]) 15 1083 := w
    refine s_dup (pc' := 135) w at_134 rfl rfl ?_
    refine s_iconst (pc' := 136) (2 : Int32) w at_135 (by decide) rfl ?_
    refine s_lload (pc' := 138) w at_136 rfl rfl ?_
    refine s_lastore (pc' := 139) (k := (N + 9)) w (lk_suf hN rfl) at_138 (by decide) (leB rfl) rfl ?_
    intro T w
    rw [set_suf hN] at w
    replace w : St p l e _ (s.setVm vm1) m _ below meth c Z _ _ _ _ h0 n0 T (Q ++ [o2 (.ref (n0 + (N + 1))) (.int 10) (.ref (n0 + (N + 2))) (.ref (n0 + (N + 3))) (.ref (n0 + (N + 4))) (.ref (n0 + (N + 5))) (.ref (n0 + (N + 6))) (.ref (n0 + (N + 7))) (.int 2) (.ref (n0 + (N + 8))), aJ ([]), aI (List.replicate 1024 (.int (-1))), aI ([]), aI ([.int (-2147483648), .int (-2147483648), .int (-2147483648)]), aI ([.int 0, .int 0, .int 1]), aI ([.int (Int32.ofNat (0)), .int (Int32.ofNat (32)), .int (Int32.ofNat (0))]), aJ ([.long (mkM (32)), .long (mkM (32)), .long (mkM (32))]), aJ ([.long 0, .long 0]), aJ ([.long x0, .long x0, .long x0, (.long 0), (.long 0), (.long 0)])]) 15 1083 := w
    refine s_dup (pc' := 140) w at_139 rfl rfl ?_
    refine s_iconst (pc' := 141) (3 : Int32) w at_140 (by decide) rfl ?_
    refine s_lload (pc' := 143) w at_141 rfl rfl ?_
    refine s_lastore (pc' := 144) (k := (N + 9)) w (lk_suf hN rfl) at_143 (by decide) (leB rfl) rfl ?_
    intro T w
    rw [set_suf hN] at w
    replace w : St p l e _ (s.setVm vm1) m _ below meth c Z _ _ _ _ h0 n0 T (Q ++ [o2 (.ref (n0 + (N + 1))) (.int 10) (.ref (n0 + (N + 2))) (.ref (n0 + (N + 3))) (.ref (n0 + (N + 4))) (.ref (n0 + (N + 5))) (.ref (n0 + (N + 6))) (.ref (n0 + (N + 7))) (.int 2) (.ref (n0 + (N + 8))), aJ ([]), aI (List.replicate 1024 (.int (-1))), aI ([]), aI ([.int (-2147483648), .int (-2147483648), .int (-2147483648)]), aI ([.int 0, .int 0, .int 1]), aI ([.int (Int32.ofNat (0)), .int (Int32.ofNat (32)), .int (Int32.ofNat (0))]), aJ ([.long (mkM (32)), .long (mkM (32)), .long (mkM (32))]), aJ ([.long 0, .long 0]), aJ ([.long x0, .long x0, .long x0, .long x0, (.long 0), (.long 0)])]) 15 1083 := w
    refine s_dup (pc' := 145) w at_144 rfl rfl ?_
    refine s_iconst (pc' := 146) (4 : Int32) w at_145 (by decide) rfl ?_
    refine s_lload (pc' := 148) w at_146 rfl rfl ?_
    refine s_lastore (pc' := 149) (k := (N + 9)) w (lk_suf hN rfl) at_148 (by decide) (leB rfl) rfl ?_
    intro T w
    rw [set_suf hN] at w
    replace w : St p l e _ (s.setVm vm1) m _ below meth c Z _ _ _ _ h0 n0 T (Q ++ [o2 (.ref (n0 + (N + 1))) (.int 10) (.ref (n0 + (N + 2))) (.ref (n0 + (N + 3))) (.ref (n0 + (N + 4))) (.ref (n0 + (N + 5))) (.ref (n0 + (N + 6))) (.ref (n0 + (N + 7))) (.int 2) (.ref (n0 + (N + 8))), aJ ([]), aI (List.replicate 1024 (.int (-1))), aI ([]), aI ([.int (-2147483648), .int (-2147483648), .int (-2147483648)]), aI ([.int 0, .int 0, .int 1]), aI ([.int (Int32.ofNat (0)), .int (Int32.ofNat (32)), .int (Int32.ofNat (0))]), aJ ([.long (mkM (32)), .long (mkM (32)), .long (mkM (32))]), aJ ([.long 0, .long 0]), aJ ([.long x0, .long x0, .long x0, .long x0, .long x0, (.long 0)])]) 15 1083 := w
    refine s_dup (pc' := 150) w at_149 rfl rfl ?_
    refine s_iconst (pc' := 151) (5 : Int32) w at_150 (by decide) rfl ?_
    refine s_lload (pc' := 153) w at_151 rfl rfl ?_
    refine s_lastore (pc' := 154) (k := (N + 9)) w (lk_suf hN rfl) at_153 (by decide) (leB rfl) rfl ?_
    intro T w
    rw [set_suf hN] at w
    replace w : St p l e _ (s.setVm vm1) m _ below meth c Z _ _ _ _ h0 n0 T (Q ++ [o2 (.ref (n0 + (N + 1))) (.int 10) (.ref (n0 + (N + 2))) (.ref (n0 + (N + 3))) (.ref (n0 + (N + 4))) (.ref (n0 + (N + 5))) (.ref (n0 + (N + 6))) (.ref (n0 + (N + 7))) (.int 2) (.ref (n0 + (N + 8))), aJ ([]), aI (List.replicate 1024 (.int (-1))), aI ([]), aI ([.int (-2147483648), .int (-2147483648), .int (-2147483648)]), aI ([.int 0, .int 0, .int 1]), aI ([.int (Int32.ofNat (0)), .int (Int32.ofNat (32)), .int (Int32.ofNat (0))]), aJ ([.long (mkM (32)), .long (mkM (32)), .long (mkM (32))]), aJ ([.long 0, .long 0]), aJ ([.long x0, .long x0, .long x0, .long x0, .long x0, .long x0])]) 15 1083 := w
    refine s_astore (pc' := 156) (ls' := #[vJ q0, sc, vJ q1, sc, vJ q2, sc, vJ x0, sc, vJ x1, sc, vI sel, vI (2 : Int32), vI (Int32.ofNat sv), vR (n0 + 0), vR (n0 + 1), vR (n0 + (N + 0)), vR (n0 + (N + 9)), un, un, un, un, un, un, un, un, un, un, un, un]) w at_154 rfl rfl rfl ?_
    refine s_aload (pc' := 158) w at_156 rfl rfl rfl ?_
    refine s_iload (pc' := 160) w at_158 rfl rfl ?_
    refine s_lloadN (pc' := 161) w at_160 rfl rfl ?_
    refine s_lastore (pc' := 162) (k := (N + 9)) w (lk_suf hN rfl) at_161 (i_nn (by omega)) (by rw [i_cl (by omega)]; simp; omega) rfl ?_
    intro T w
    rw [i_cl (show sv < 2 ^ 31 by omega)] at w
    rw [set_suf hN] at w
    replace w : St p l e _ (s.setVm vm1) m _ below meth c Z _ _ _ _ h0 n0 T (Q ++ [o2 (.ref (n0 + (N + 1))) (.int 10) (.ref (n0 + (N + 2))) (.ref (n0 + (N + 3))) (.ref (n0 + (N + 4))) (.ref (n0 + (N + 5))) (.ref (n0 + (N + 6))) (.ref (n0 + (N + 7))) (.int 2) (.ref (n0 + (N + 8))), aJ ([]), aI (List.replicate 1024 (.int (-1))), aI ([]), aI ([.int (-2147483648), .int (-2147483648), .int (-2147483648)]), aI ([.int 0, .int 0, .int 1]), aI ([.int (Int32.ofNat (0)), .int (Int32.ofNat (32)), .int (Int32.ofNat (0))]), aJ ([.long (mkM (32)), .long (mkM (32)), .long (mkM (32))]), aJ ([.long 0, .long 0]), aJ (List.set ([Value.long x0, Value.long x0, Value.long x0, Value.long x0, Value.long x0, Value.long x0]) sv (.long q0))]) 15 1083 := w
    refine s_iload (pc' := 164) w at_162 rfl rfl ?_
    refine s_iconst (pc' := 165) (2 : Int32) w at_164 (by decide) rfl ?_
    refine s_icmpN (pc' := 168) w at_165 (Jvm.Free.XT.ii_lt_f (by decide)) rfl ?_
    refine s_aload (pc' := 170) w at_168 rfl rfl rfl ?_
    refine s_iload (pc' := 172) w at_170 rfl rfl ?_
    refine s_iconst (pc' := 173) (1 : Int32) w at_172 (by decide) rfl ?_
    refine s_iadd (pc' := 174) w at_173 rfl ?_
    refine s_lloadN (pc' := 175) w at_174 rfl rfl ?_
    rw [show Int32.ofNat sv + (1 : Int32) = Int32.ofNat (sv + 1) from b_add sv 1]
    refine s_lastore (pc' := 176) (k := (N + 9)) w (lk_suf hN rfl) at_175 (i_nn (by omega)) (by rw [i_cl (by omega)]; simp; omega) rfl ?_
    intro T w
    rw [i_cl (show (sv + 1) < 2 ^ 31 by omega)] at w
    rw [set_suf hN] at w
    replace w : St p l e _ (s.setVm vm1) m _ below meth c Z _ _ _ _ h0 n0 T (Q ++ [o2 (.ref (n0 + (N + 1))) (.int 10) (.ref (n0 + (N + 2))) (.ref (n0 + (N + 3))) (.ref (n0 + (N + 4))) (.ref (n0 + (N + 5))) (.ref (n0 + (N + 6))) (.ref (n0 + (N + 7))) (.int 2) (.ref (n0 + (N + 8))), aJ ([]), aI (List.replicate 1024 (.int (-1))), aI ([]), aI ([.int (-2147483648), .int (-2147483648), .int (-2147483648)]), aI ([.int 0, .int 0, .int 1]), aI ([.int (Int32.ofNat (0)), .int (Int32.ofNat (32)), .int (Int32.ofNat (0))]), aJ ([.long (mkM (32)), .long (mkM (32)), .long (mkM (32))]), aJ ([.long 0, .long 0]), aJ (List.set (List.set ([Value.long x0, Value.long x0, Value.long x0, Value.long x0, Value.long x0, Value.long x0]) sv (.long q0)) (sv + 1) (.long q1))]) 15 1083 := w
    refine s_iload (pc' := 178) w at_176 rfl rfl ?_
    refine s_iconst (pc' := 179) (3 : Int32) w at_178 (by decide) rfl ?_
    refine s_icmpY (pc' := 191) w at_179 (Jvm.Free.XT.ii_lt_t (by decide)) (by decide) (by decide) ?_
    refine s_iconst (pc' := 192) (4 : Int32) w at_191 (by decide) rfl ?_
    refine s_newarray (pc' := 194) (ty := .long) w (t98 hw) rfl (by intro C h; cases h) at_192 (by decide) 4 (by decide) (by decide) (by decide) (by decide) (N + 10) (by rw [List.length_append, hN]; rfl) rfl ?_
    intro T w
    rw [List.append_assoc] at w
    replace w : St p l e _ (s.setVm vm1) m _ below meth c Z _ _ _ _ h0 n0 T (Q ++ [o2 (.ref (n0 + (N + 1))) (.int 10) (.ref (n0 + (N + 2))) (.ref (n0 + (N + 3))) (.ref (n0 + (N + 4))) (.ref (n0 + (N + 5))) (.ref (n0 + (N + 6))) (.ref (n0 + (N + 7))) (.int 2) (.ref (n0 + (N + 8))), aJ ([]), aI (List.replicate 1024 (.int (-1))), aI ([]), aI ([.int (-2147483648), .int (-2147483648), .int (-2147483648)]), aI ([.int 0, .int 0, .int 1]), aI ([.int (Int32.ofNat (0)), .int (Int32.ofNat (32)), .int (Int32.ofNat (0))]), aJ ([.long (mkM (32)), .long (mkM (32)), .long (mkM (32))]), aJ ([.long 0, .long 0]), aJ (List.set (List.set ([Value.long x0, Value.long x0, Value.long x0, Value.long x0, Value.long x0, Value.long x0]) sv (.long q0)) (sv + 1) (.long q1)), aJ ([(.long 0), (.long 0), (.long 0), (.long 0)])]) 16 1087 := w
    refine s_dup (pc' := 195) w at_194 rfl rfl ?_
    refine s_iconst (pc' := 196) (0 : Int32) w at_195 (by decide) rfl ?_
    refine s_lloadN (pc' := 197) w at_196 rfl rfl ?_
    refine s_lastore (pc' := 198) (k := (N + 10)) w (lk_suf hN rfl) at_197 (by decide) (leB rfl) rfl ?_
    intro T w
    rw [set_suf hN] at w
    replace w : St p l e _ (s.setVm vm1) m _ below meth c Z _ _ _ _ h0 n0 T (Q ++ [o2 (.ref (n0 + (N + 1))) (.int 10) (.ref (n0 + (N + 2))) (.ref (n0 + (N + 3))) (.ref (n0 + (N + 4))) (.ref (n0 + (N + 5))) (.ref (n0 + (N + 6))) (.ref (n0 + (N + 7))) (.int 2) (.ref (n0 + (N + 8))), aJ ([]), aI (List.replicate 1024 (.int (-1))), aI ([]), aI ([.int (-2147483648), .int (-2147483648), .int (-2147483648)]), aI ([.int 0, .int 0, .int 1]), aI ([.int (Int32.ofNat (0)), .int (Int32.ofNat (32)), .int (Int32.ofNat (0))]), aJ ([.long (mkM (32)), .long (mkM (32)), .long (mkM (32))]), aJ ([.long 0, .long 0]), aJ (List.set (List.set ([Value.long x0, Value.long x0, Value.long x0, Value.long x0, Value.long x0, Value.long x0]) sv (.long q0)) (sv + 1) (.long q1)), aJ ([.long q0, (.long 0), (.long 0), (.long 0)])]) 16 1087 := w
    refine s_dup (pc' := 199) w at_198 rfl rfl ?_
    refine s_iconst (pc' := 200) (1 : Int32) w at_199 (by decide) rfl ?_
    refine s_lloadN (pc' := 201) w at_200 rfl rfl ?_
    refine s_lastore (pc' := 202) (k := (N + 10)) w (lk_suf hN rfl) at_201 (by decide) (leB rfl) rfl ?_
    intro T w
    rw [set_suf hN] at w
    replace w : St p l e _ (s.setVm vm1) m _ below meth c Z _ _ _ _ h0 n0 T (Q ++ [o2 (.ref (n0 + (N + 1))) (.int 10) (.ref (n0 + (N + 2))) (.ref (n0 + (N + 3))) (.ref (n0 + (N + 4))) (.ref (n0 + (N + 5))) (.ref (n0 + (N + 6))) (.ref (n0 + (N + 7))) (.int 2) (.ref (n0 + (N + 8))), aJ ([]), aI (List.replicate 1024 (.int (-1))), aI ([]), aI ([.int (-2147483648), .int (-2147483648), .int (-2147483648)]), aI ([.int 0, .int 0, .int 1]), aI ([.int (Int32.ofNat (0)), .int (Int32.ofNat (32)), .int (Int32.ofNat (0))]), aJ ([.long (mkM (32)), .long (mkM (32)), .long (mkM (32))]), aJ ([.long 0, .long 0]), aJ (List.set (List.set ([Value.long x0, Value.long x0, Value.long x0, Value.long x0, Value.long x0, Value.long x0]) sv (.long q0)) (sv + 1) (.long q1)), aJ ([.long q0, .long q1, (.long 0), (.long 0)])]) 16 1087 := w
    refine s_dup (pc' := 203) w at_202 rfl rfl ?_
    refine s_iconst (pc' := 204) (2 : Int32) w at_203 (by decide) rfl ?_
    refine s_lload (pc' := 206) w at_204 rfl rfl ?_
    refine s_lastore (pc' := 207) (k := (N + 10)) w (lk_suf hN rfl) at_206 (by decide) (leB rfl) rfl ?_
    intro T w
    rw [set_suf hN] at w
    replace w : St p l e _ (s.setVm vm1) m _ below meth c Z _ _ _ _ h0 n0 T (Q ++ [o2 (.ref (n0 + (N + 1))) (.int 10) (.ref (n0 + (N + 2))) (.ref (n0 + (N + 3))) (.ref (n0 + (N + 4))) (.ref (n0 + (N + 5))) (.ref (n0 + (N + 6))) (.ref (n0 + (N + 7))) (.int 2) (.ref (n0 + (N + 8))), aJ ([]), aI (List.replicate 1024 (.int (-1))), aI ([]), aI ([.int (-2147483648), .int (-2147483648), .int (-2147483648)]), aI ([.int 0, .int 0, .int 1]), aI ([.int (Int32.ofNat (0)), .int (Int32.ofNat (32)), .int (Int32.ofNat (0))]), aJ ([.long (mkM (32)), .long (mkM (32)), .long (mkM (32))]), aJ ([.long 0, .long 0]), aJ (List.set (List.set ([Value.long x0, Value.long x0, Value.long x0, Value.long x0, Value.long x0, Value.long x0]) sv (.long q0)) (sv + 1) (.long q1)), aJ ([.long q0, .long q1, .long q2, (.long 0)])]) 16 1087 := w
    refine s_dup (pc' := 208) w at_207 rfl rfl ?_
    refine s_iconst (pc' := 209) (3 : Int32) w at_208 (by decide) rfl ?_
    refine s_lload (pc' := 211) w at_209 rfl rfl ?_
    refine s_lastore (pc' := 212) (k := (N + 10)) w (lk_suf hN rfl) at_211 (by decide) (leB rfl) rfl ?_
    intro T w
    rw [set_suf hN] at w
    replace w : St p l e _ (s.setVm vm1) m _ below meth c Z _ _ _ _ h0 n0 T (Q ++ [o2 (.ref (n0 + (N + 1))) (.int 10) (.ref (n0 + (N + 2))) (.ref (n0 + (N + 3))) (.ref (n0 + (N + 4))) (.ref (n0 + (N + 5))) (.ref (n0 + (N + 6))) (.ref (n0 + (N + 7))) (.int 2) (.ref (n0 + (N + 8))), aJ ([]), aI (List.replicate 1024 (.int (-1))), aI ([]), aI ([.int (-2147483648), .int (-2147483648), .int (-2147483648)]), aI ([.int 0, .int 0, .int 1]), aI ([.int (Int32.ofNat (0)), .int (Int32.ofNat (32)), .int (Int32.ofNat (0))]), aJ ([.long (mkM (32)), .long (mkM (32)), .long (mkM (32))]), aJ ([.long 0, .long 0]), aJ (List.set (List.set ([Value.long x0, Value.long x0, Value.long x0, Value.long x0, Value.long x0, Value.long x0]) sv (.long q0)) (sv + 1) (.long q1)), aJ ([.long q0, .long q1, .long q2, .long x1])]) 16 1087 := w
    refine s_astore (pc' := 214) (ls' := #[vJ q0, sc, vJ q1, sc, vJ q2, sc, vJ x0, sc, vJ x1, sc, vI sel, vI (2 : Int32), vI (Int32.ofNat sv), vR (n0 + 0), vR (n0 + 1), vR (n0 + (N + 0)), vR (n0 + (N + 9)), vR (n0 + (N + 10)), un, un, un, un, un, un, un, un, un, un, un]) w at_212 rfl rfl rfl ?_
    refine s_aload (pc' := 216) w at_214 rfl rfl rfl ?_
    refine s_aload (pc' := 218) w at_216 rfl rfl rfl ?_
    refine s_iload (pc' := 220) w at_218 rfl rfl ?_
    refine s_virtual (pc' := 223) (rest := []) 0 [(.ref (n0 + (N + 9))), (.int (Int32.ofNat sv))] w (c_hash2 hw l h0 n0 (n0 + (N + 0)) (n0 + (N + 9)) sv _ q0 q1 _ _ (Lk.new (lk_suf hN rfl)) rfl (Lk.new (lk_suf hN rfl)) (by omega) (a_at2_0 hsv) (a_at2_1 hsv)) (Lk.new (lk_suf hN rfl)) (t185 hw) (t186 hw) (w.notFace (t188 hw)) (t188 hw) (t187 hw) (t93 hw) (t189 hw) (by decide) pd15 at_220 (by decide) rfl rfl rfl rfl (Nat.le_of_eq rfl) rfl ?_
    intro T v L' hQ w
    obtain ⟨rfl, hL⟩ := hQ
    replace hL := hL.symm
    subst hL
    dsimp only [oS, oN, cA, nA]
    refine s_istore (pc' := 225) (ls' := #[vJ q0, sc, vJ q1, sc, vJ q2, sc, vJ x0, sc, vJ x1, sc, vI sel, vI (2 : Int32), vI (Int32.ofNat sv), vR (n0 + 0), vR (n0 + 1), vR (n0 + (N + 0)), vR (n0 + (N + 9)), vR (n0 + (N + 10)), vI (hfin (hfold [q0, q1])), un, un, un, un, un, un, un, un, un, un]) w at_223 rfl rfl ?_
    refine s_aload (pc' := 227) w at_225 rfl rfl rfl ?_
    refine s_aload (pc' := 229) w at_227 rfl rfl rfl ?_
    refine s_iconst (pc' := 230) (0 : Int32) w at_229 (by decide) rfl ?_
    refine s_virtual (pc' := 233) (rest := []) 0 [(.ref (n0 + (N + 10))), (.int (0 : Int32))] w (c_hash2 hw l h0 n0 (n0 + (N + 0)) (n0 + (N + 10)) 0 _ q0 q1 _ _ (Lk.new (lk_suf hN rfl)) rfl (Lk.new (lk_suf hN rfl)) (by decide) rfl rfl) (Lk.new (lk_suf hN rfl)) (t185 hw) (t186 hw) (w.notFace (t188 hw)) (t188 hw) (t187 hw) (t93 hw) (t189 hw) (by decide) pd15 at_230 (by decide) rfl rfl rfl rfl (Nat.le_of_eq rfl) rfl ?_
    intro T v L' hQ w
    obtain ⟨rfl, hL⟩ := hQ
    replace hL := hL.symm
    subst hL
    dsimp only [oS, oN, cA, nA]
    refine s_istore (pc' := 235) (ls' := #[vJ q0, sc, vJ q1, sc, vJ q2, sc, vJ x0, sc, vJ x1, sc, vI sel, vI (2 : Int32), vI (Int32.ofNat sv), vR (n0 + 0), vR (n0 + 1), vR (n0 + (N + 0)), vR (n0 + (N + 9)), vR (n0 + (N + 10)), vI (hfin (hfold [q0, q1])), vI (hfin (hfold [q0, q1])), un, un, un, un, un, un, un, un, un]) w at_233 rfl rfl ?_
    refine s_ldc2 (pc' := 238) w (t192 hw) at_235 rfl ?_
    refine s_lstore (pc' := 240) (ls' := #[vJ q0, sc, vJ q1, sc, vJ q2, sc, vJ x0, sc, vJ x1, sc, vI sel, vI (2 : Int32), vI (Int32.ofNat sv), vR (n0 + 0), vR (n0 + 1), vR (n0 + (N + 0)), vR (n0 + (N + 9)), vR (n0 + (N + 10)), vI (hfin (hfold [q0, q1])), vI (hfin (hfold [q0, q1])), vJ (-7046029254386353131 : Int64), sc, un, un, un, un, un, un, un]) w at_238 rfl rfl ?_
    refine s_lload (pc' := 242) w at_240 rfl rfl ?_
    refine s_lload (pc' := 244) w at_242 rfl rfl ?_
    refine s_lmul (pc' := 245) w at_244 rfl ?_
    refine s_lstore (pc' := 247) (ls' := #[vJ q0, sc, vJ q1, sc, vJ q2, sc, vJ x0, sc, vJ x1, sc, vI sel, vI (2 : Int32), vI (Int32.ofNat sv), vR (n0 + 0), vR (n0 + 1), vR (n0 + (N + 0)), vR (n0 + (N + 9)), vR (n0 + (N + 10)), vI (hfin (hfold [q0, q1])), vI (hfin (hfold [q0, q1])), vJ (-7046029254386353131 : Int64), sc, vJ ((-7046029254386353131 : Int64) * (-7046029254386353131 : Int64)), sc, un, un, un, un, un]) w at_245 rfl rfl ?_
    refine s_lload (pc' := 249) w at_247 rfl rfl ?_
    refine s_lload (pc' := 251) w at_249 rfl rfl ?_
    refine s_lmul (pc' := 252) w at_251 rfl ?_
    refine s_lstore (pc' := 254) (ls' := #[vJ q0, sc, vJ q1, sc, vJ q2, sc, vJ x0, sc, vJ x1, sc, vI sel, vI (2 : Int32), vI (Int32.ofNat sv), vR (n0 + 0), vR (n0 + 1), vR (n0 + (N + 0)), vR (n0 + (N + 9)), vR (n0 + (N + 10)), vI (hfin (hfold [q0, q1])), vI (hfin (hfold [q0, q1])), vJ (-7046029254386353131 : Int64), sc, vJ ((-7046029254386353131 : Int64) * (-7046029254386353131 : Int64)), sc, vJ (((-7046029254386353131 : Int64) * (-7046029254386353131 : Int64)) * (-7046029254386353131 : Int64)), sc, un, un, un]) w at_252 rfl rfl ?_
    refine s_iload (pc' := 256) w at_254 rfl rfl ?_
    refine s_iconst (pc' := 257) (1 : Int32) w at_256 (by decide) rfl ?_
    refine s_icmpY (pc' := 269) w at_257 (Jvm.Free.XT.ii_ne_t (by decide)) (by decide) (by decide) ?_
    refine s_iload (pc' := 271) w at_269 rfl rfl ?_
    refine s_iconst (pc' := 272) (2 : Int32) w at_271 (by decide) rfl ?_
    refine s_icmpN (pc' := 275) w at_272 (Jvm.Free.XT.ii_ne_f rfl) rfl ?_
    refine s_lloadN (pc' := 276) w at_275 rfl rfl ?_
    refine s_lload (pc' := 278) w at_276 rfl rfl ?_
    refine s_lmul (pc' := 279) w at_278 rfl ?_
    refine s_lloadN (pc' := 280) w at_279 rfl rfl ?_
    refine s_lload (pc' := 282) w at_280 rfl rfl ?_
    refine s_lmul (pc' := 283) w at_282 rfl ?_
    refine s_ladd (pc' := 284) w at_283 rfl ?_
    refine s_lstore (pc' := 286) (ls' := #[vJ q0, sc, vJ q1, sc, vJ q2, sc, vJ x0, sc, vJ x1, sc, vI sel, vI (2 : Int32), vI (Int32.ofNat sv), vR (n0 + 0), vR (n0 + 1), vR (n0 + (N + 0)), vR (n0 + (N + 9)), vR (n0 + (N + 10)), vI (hfin (hfold [q0, q1])), vI (hfin (hfold [q0, q1])), vJ (-7046029254386353131 : Int64), sc, vJ ((-7046029254386353131 : Int64) * (-7046029254386353131 : Int64)), sc, vJ (((-7046029254386353131 : Int64) * (-7046029254386353131 : Int64)) * (-7046029254386353131 : Int64)), sc, vJ ((q0 * ((-7046029254386353131 : Int64) * (-7046029254386353131 : Int64))) + (q1 * (-7046029254386353131 : Int64))), sc, un]) w at_284 rfl rfl ?_
    refine s_goto (pc' := 306) w at_286 (by decide) (by decide) ?_
    refine s_lload (pc' := 308) w at_306 rfl rfl ?_
    refine s_static (pc' := 311) (rest := []) 0 [(.long ((q0 * ((-7046029254386353131 : Int64) * (-7046029254386353131 : Int64))) + (q1 * (-7046029254386353131 : Int64))))] w (c_fin hw l h0 n0 ((q0 * ((-7046029254386353131 : Int64) * (-7046029254386353131 : Int64))) + (q1 * (-7046029254386353131 : Int64))) _) (t193 hw) (t194 hw) (t195 hw) (t196 hw) (by decide) pd8 at_308 (by decide) rfl rfl rfl rfl (Nat.le_of_eq rfl) rfl ?_
    intro T v L' hQ w
    obtain ⟨rfl, hL⟩ := hQ
    replace hL := hL.symm
    subst hL
    dsimp only [oS, oN, cA, nA]
    rw [← sum2 q0 q1]
    refine s_istore (pc' := 313) (ls' := #[vJ q0, sc, vJ q1, sc, vJ q2, sc, vJ x0, sc, vJ x1, sc, vI sel, vI (2 : Int32), vI (Int32.ofNat sv), vR (n0 + 0), vR (n0 + 1), vR (n0 + (N + 0)), vR (n0 + (N + 9)), vR (n0 + (N + 10)), vI (hfin (hfold [q0, q1])), vI (hfin (hfold [q0, q1])), vJ (-7046029254386353131 : Int64), sc, vJ ((-7046029254386353131 : Int64) * (-7046029254386353131 : Int64)), sc, vJ (((-7046029254386353131 : Int64) * (-7046029254386353131 : Int64)) * (-7046029254386353131 : Int64)), sc, vJ ((q0 * ((-7046029254386353131 : Int64) * (-7046029254386353131 : Int64))) + (q1 * (-7046029254386353131 : Int64))), sc, vI (hfin (hfold [q0, q1]))]) w at_311 rfl rfl ?_
    refine s_iload (pc' := 315) w at_313 rfl rfl ?_
    refine s_iload (pc' := 317) w at_315 rfl rfl ?_
    refine s_icmpN (pc' := 320) w at_317 (Jvm.Free.XT.ii_ne_f rfl) rfl ?_
    refine s_iload (pc' := 322) w at_320 rfl rfl ?_
    refine s_iload (pc' := 324) w at_322 rfl rfl ?_
    refine s_icmpN (pc' := 327) w at_324 (Jvm.Free.XT.ii_ne_f rfl) rfl ?_
    refine s_iconst (pc' := 328) (1 : Int32) w at_327 (by decide) rfl ?_
    refine s_goto (pc' := 332) w at_328 (by decide) (by decide) ?_
    exact s_zreturnW rfl w hS1 (by rw [List.length_append, hN]; omega) at_332 (by decide) (by decide) rfl
  · change Go p e below _ T (mkF m 7 #[vJ q0, sc, vJ q1, sc, vJ q2, sc, vJ x0, sc, vJ x1, sc, vI sel, un, un, un, un, un, un, un, un, un, un, un, un, un, un, un, un, un, un] [(.int (2 : Int32)), (.int (1 : Int32))])
    refine s_iadd (pc' := 8) w at_7 rfl ?_
    rw [show (1 : Int32) + 2 = 3 by decide]
    refine s_istore (pc' := 10) (ls' := #[vJ q0, sc, vJ q1, sc, vJ q2, sc, vJ x0, sc, vJ x1, sc, vI sel, vI (3 : Int32), un, un, un, un, un, un, un, un, un, un, un, un, un, un, un, un, un]) w at_8 rfl rfl ?_
    refine s_iload (pc' := 12) w at_10 rfl rfl ?_
    refine s_iconst (pc' := 13) (2 : Int32) w at_12 (by decide) rfl ?_
    refine s_iushr (pc' := 14) w at_13 rfl ?_
    refine s_iconst (pc' := 15) (3 : Int32) w at_14 (by decide) rfl ?_
    refine s_iand (pc' := 16) w at_15 rfl ?_
    obtain ⟨sv, hsv, esv⟩ := and3 (Jvm.Free.XT.ushr sel (2 : Int32))
    rw [esv]
    refine s_istore (pc' := 18) (ls' := #[vJ q0, sc, vJ q1, sc, vJ q2, sc, vJ x0, sc, vJ x1, sc, vI sel, vI (3 : Int32), vI (Int32.ofNat sv), un, un, un, un, un, un, un, un, un, un, un, un, un, un, un, un]) w at_16 rfl rfl ?_
    refine s_new (pc' := 21) [(.int 0), .null, (.int 0)] w (t0 hw) (t2 hw) (cls0 hw) at_18 ?_ (by decide) (by decide) 0 rfl rfl ?_
    · intro j f v h1 h2
      match j, h1, h2 with
      | 0, h1, h2 => cases (Option.some.inj h1); cases (Option.some.inj h2); exact ⟨.int, by decide +kernel, rfl⟩
      | 1, h1, h2 => cases (Option.some.inj h1); cases (Option.some.inj h2); exact ⟨(.array (.object "java/lang/Object")), by decide +kernel, rfl⟩
      | 2, h1, h2 => cases (Option.some.inj h1); cases (Option.some.inj h2); exact ⟨.int, by decide +kernel, rfl⟩
      | (i + 3), h1, _ => exact absurd h1 (by simp [fs0])
    intro T w
    replace w : St p l e _ s m _ below meth c Z _ _ _ _ h0 n0 T [o0 (.int 0) .null (.int 0)] 1 3 := w
    refine s_dup (pc' := 22) w at_21 rfl rfl ?_
    refine s_special (pc' := 25) (rest := [(.ref (n0 + 0))]) 1 [] w (c_alinit hw l h0 n0 0 (.int 0) .null (.int 0) de _ rfl SD) rfl (t3 hw) (t4 hw) (t2 hw) (t5 hw) (by decide) pd0 at_22 (by decide) rfl rfl rfl rfl (Nat.le_of_eq rfl) rfl ?_
    intro T v L' hQ w
    obtain ⟨rfl, hL⟩ := hQ
    replace hL := hL.symm
    subst hL
    dsimp only [oS, oN, cA, nA]
    replace w : St p l e _ s m _ below meth c Z _ _ _ _ h0 n0 T [o0 (.int 0) (.ref de) (.int 0)] 1 3 := w
    refine s_astore (pc' := 27) (ls' := #[vJ q0, sc, vJ q1, sc, vJ q2, sc, vJ x0, sc, vJ x1, sc, vI sel, vI (3 : Int32), vI (Int32.ofNat sv), vR (n0 + 0), un, un, un, un, un, un, un, un, un, un, un, un, un, un, un]) w at_25 rfl rfl rfl ?_
    refine s_new (pc' := 30) [.null, .null, (.int 0), (.int 0), (.int 0), .null] w (t26 hw) (t28 hw) (cls1 hw) at_27 ?_ (by decide) (by decide) 1 rfl rfl ?_
    · intro j f v h1 h2
      match j, h1, h2 with
      | 0, h1, h2 => cases (Option.some.inj h1); cases (Option.some.inj h2); exact ⟨(.object "java/lang/String"), by decide +kernel, rfl⟩
      | 1, h1, h2 => cases (Option.some.inj h1); cases (Option.some.inj h2); exact ⟨(.object "com/example/ryazan/ryazan/lang/Type"), by decide +kernel, rfl⟩
      | 2, h1, h2 => cases (Option.some.inj h1); cases (Option.some.inj h2); exact ⟨.int, by decide +kernel, rfl⟩
      | 3, h1, h2 => cases (Option.some.inj h1); cases (Option.some.inj h2); exact ⟨.int, by decide +kernel, rfl⟩
      | 4, h1, h2 => cases (Option.some.inj h1); cases (Option.some.inj h2); exact ⟨.int, by decide +kernel, rfl⟩
      | 5, h1, h2 => cases (Option.some.inj h1); cases (Option.some.inj h2); exact ⟨(.object "com/example/ryazan/ryazan/lang/SourcePosition"), by decide +kernel, rfl⟩
      | (i + 6), h1, _ => exact absurd h1 (by simp [fs1])
    intro T w
    replace w : St p l e _ s m _ below meth c Z _ _ _ _ h0 n0 T [o0 (.int 0) (.ref de) (.int 0), o1 .null .null (.int 0) (.int 0) (.int 0) .null] 2 9 := w
    refine s_dup (pc' := 31) w at_30 rfl rfl ?_
    refine s_ldcS (pc' := 33) 4 w (t29 hw) (strs hw) at_31 (by decide) (by decide) (by decide) (by decide) rfl ?_
    intro T vm1 sa k1 f hS1 hk1 w
    obtain ⟨P0, eP⟩ : ∃ P : List Ob, P = [o0 (.int 0) (.ref de) (.int 0), o1 .null .null (.int 0) (.int 0) (.int 0) .null] ++ List.replicate f dum := ⟨_, rfl⟩
    have p0 : P0[0]? = some (o0 (.int 0) (.ref de) (.int 0)) := by rw [eP]; rfl
    have p1 : P0[1]? = some (o1 .null .null (.int 0) (.int 0) (.int 0) .null) := by rw [eP]; rfl
    obtain ⟨B0, hB0⟩ : ∃ z, P0.length = z := ⟨_, rfl⟩
    have hkB : k1 ≤ n0 + B0 := by rw [← hB0, eP, List.length_append, List.length_replicate]; exact hk1
    replace w : St p l e _ (s.setVm vm1) m _ below meth c Z _ _ _ _ h0 n0 T ([o0 (.int 0) (.ref de) (.int 0), o1 .null .null (.int 0) (.int 0) (.int 0) .null] ++ List.replicate f dum) 4 17 := w
    rw [← eP] at w
    clear eP hk1
    have hB2 : 1 < B0 := hB0 ▸ (List.getElem?_eq_some_iff.mp p1).1
    refine s_aconst_null (pc' := 34) w at_33 rfl ?_
    refine s_ldc (pc' := 36) w (t37 hw) at_34 rfl ?_
    refine s_ldc (pc' := 38) w (t38 hw) at_36 rfl ?_
    refine s_iconst (pc' := 39) (0 : Int32) w at_38 (by decide) rfl ?_
    refine s_aconst_null (pc' := 40) w at_39 rfl ?_
    refine s_special (pc' := 43) (rest := [(.ref (n0 + 1))]) 1 [(.ref sa), .null, (.int (-2147483648 : Int32)), (.int (2147483647 : Int32)), (.int (0 : Int32)), .null] w (c_var hw l h0 n0 1 (.ref sa) .null (-2147483648) 2147483647 0 _ p1 rfl rfl) rfl (t39 hw) (t40 hw) (t28 hw) (t41 hw) (by decide) pd12 at_40 (by decide) rfl rfl rfl rfl (Nat.le_of_eq rfl) rfl ?_
    intro T v L' hQ w
    obtain ⟨rfl, hL⟩ := hQ
    replace hL := hL.symm
    subst hL
    dsimp only [oS, oN, cA, nA]
    obtain ⟨P1, eP⟩ : ∃ P : List Ob, P = P0.set 1 (o1 (.ref sa) .null (.int (-2147483648)) (.int 2147483647) (.int 0) .null) := ⟨_, rfl⟩
    replace p0 : P1[0]? = some (o0 (.int 0) (.ref de) (.int 0)) := by rw [eP]; exact lk_ne p0 (by decide)
    replace p1 : P1[1]? = some (o1 (.ref sa) .null (.int (-2147483648)) (.int 2147483647) (.int 0) .null) := by rw [eP]; exact lk_set p1
    replace hB0 : P1.length = B0 := by rw [eP, List.length_set]; exact hB0
    rw [← eP] at w
    clear eP
    refine s_astore (pc' := 45) (ls' := #[vJ q0, sc, vJ q1, sc, vJ q2, sc, vJ x0, sc, vJ x1, sc, vI sel, vI (3 : Int32), vI (Int32.ofNat sv), vR (n0 + 0), vR (n0 + 1), un, un, un, un, un, un, un, un, un, un, un, un, un, un]) w at_43 rfl rfl rfl ?_
    refine s_aload (pc' := 47) w at_45 rfl rfl rfl ?_
    refine s_aload (pc' := 49) w at_47 rfl rfl rfl ?_
    refine s_virtual (pc' := 52) (rest := []) 0 [(.ref (n0 + 1))] w (c_addg hw l h0 n0 0 0 de dcl (n0 + 1) _ _ _ _ p0 SD AD hdcl (Lk.new p1) (Or.inr (t90 hw)) (ad_ne (by decide))) (Lk.new p0) (t60 hw) (t61 hw) (w.notFace (t63 hw)) (t63 hw) (t62 hw) (t2 hw) (t64 hw) (by decide) pd13 at_49 (by decide) rfl rfl rfl rfl (Nat.le_of_eq rfl) rfl ?_
    intro T v L' hQ w
    obtain ⟨rfl, hL⟩ := hQ
    replace hL := hL.symm
    subst hL
    dsimp only [oS, oN, cA, nA]
    rw [hB0] at w
    replace w : St p l e _ (s.setVm vm1) m _ below meth c Z _ _ _ _ h0 n0 T (P1.set 0 (o0 (.int 1) (.ref (n0 + B0)) (.int 1)) ++ [aO ([.ref (n0 + 1), .null, .null, .null, .null, .null, .null, .null, .null, .null])]) 5 27 := w
    obtain ⟨P2, eP⟩ : ∃ P : List Ob, P = P1.set 0 (o0 (.int 1) (.ref (n0 + B0)) (.int 1)) := ⟨_, rfl⟩
    replace p0 : P2[0]? = some (o0 (.int 1) (.ref (n0 + B0)) (.int 1)) := by rw [eP]; exact lk_set p0
    replace p1 : P2[1]? = some (o1 (.ref sa) .null (.int (-2147483648)) (.int 2147483647) (.int 0) .null) := by rw [eP]; exact lk_ne p1 (by decide)
    replace hB0 : P2.length = B0 := by rw [eP, List.length_set]; exact hB0
    rw [← eP] at w
    clear eP
    refine s_pop (pc' := 53) w at_52 rfl rfl ?_
    refine s_iload (pc' := 55) w at_53 rfl rfl ?_
    refine s_iconst (pc' := 56) (2 : Int32) w at_55 (by decide) rfl ?_
    refine s_icmpN (pc' := 59) w at_56 (Jvm.Free.XT.ii_lt_f (by decide)) rfl ?_
    refine s_aload (pc' := 61) w at_59 rfl rfl rfl ?_
    refine s_aload (pc' := 63) w at_61 rfl rfl rfl ?_
    refine s_virtual (pc' := 66) (rest := []) 0 [(.ref (n0 + 1))] w (c_addn hw l h0 n0 0 (B0 + 0) 1 1 [.ref (n0 + 1), .null, .null, .null, .null, .null, .null, .null, .null, .null] 10 (n0 + 1) _ _ _ _ (lk_app p0) (lk_suf hB0 rfl) rfl (by decide) (by decide) (leB rfl) (by omega) (Lk.new (lk_app p1)) (Or.inr (t90 hw)) (ad_ne (by decide))) (Lk.new (lk_app p0)) (t60 hw) (t61 hw) (w.notFace (t63 hw)) (t63 hw) (t62 hw) (t2 hw) (t64 hw) (by decide) pd13 at_63 (by decide) rfl rfl rfl rfl (Nat.le_of_eq rfl) rfl ?_
    intro T v L' hQ w
    obtain ⟨rfl, hL⟩ := hQ
    replace hL := hL.symm
    subst hL
    dsimp only [oS, oN, cA, nA]
    rw [set_suf hB0, set_app p0] at w
    replace w : St p l e _ (s.setVm vm1) m _ below meth c Z _ _ _ _ h0 n0 T (P2.set 0 (o0 (.int 2) (.ref (n0 + B0)) (.int 2)) ++ [aO ([.ref (n0 + 1), .ref (n0 + 1), .null, .null, .null, .null, .null, .null, .null, .null])]) 5 27 := w
    obtain ⟨P3, eP⟩ : ∃ P : List Ob, P = P2.set 0 (o0 (.int 2) (.ref (n0 + B0)) (.int 2)) := ⟨_, rfl⟩
    replace p0 : P3[0]? = some (o0 (.int 2) (.ref (n0 + B0)) (.int 2)) := by rw [eP]; exact lk_set p0
    replace p1 : P3[1]? = some (o1 (.ref sa) .null (.int (-2147483648)) (.int 2147483647) (.int 0) .null) := by rw [eP]; exact lk_ne p1 (by decide)
    replace hB0 : P3.length = B0 := by rw [eP, List.length_set]; exact hB0
    rw [← eP] at w
    clear eP
    refine s_pop (pc' := 67) w at_66 rfl rfl ?_
    refine s_aload (pc' := 69) w at_67 rfl rfl rfl ?_
    refine s_aload (pc' := 71) w at_69 rfl rfl rfl ?_
    refine s_virtual (pc' := 74) (rest := []) 0 [(.ref (n0 + 1))] w (c_addn hw l h0 n0 0 (B0 + 0) 2 2 [.ref (n0 + 1), .ref (n0 + 1), .null, .null, .null, .null, .null, .null, .null, .null] 10 (n0 + 1) _ _ _ _ (lk_app p0) (lk_suf hB0 rfl) rfl (by decide) (by decide) (leB rfl) (by omega) (Lk.new (lk_app p1)) (Or.inr (t90 hw)) (ad_ne (by decide))) (Lk.new (lk_app p0)) (t60 hw) (t61 hw) (w.notFace (t63 hw)) (t63 hw) (t62 hw) (t2 hw) (t64 hw) (by decide) pd13 at_71 (by decide) rfl rfl rfl rfl (Nat.le_of_eq rfl) rfl ?_
    intro T v L' hQ w
    obtain ⟨rfl, hL⟩ := hQ
    replace hL := hL.symm
    subst hL
    dsimp only [oS, oN, cA, nA]
    rw [set_suf hB0, set_app p0] at w
    replace w : St p l e _ (s.setVm vm1) m _ below meth c Z _ _ _ _ h0 n0 T (P3.set 0 (o0 (.int 3) (.ref (n0 + B0)) (.int 3)) ++ [aO ([.ref (n0 + 1), .ref (n0 + 1), .ref (n0 + 1), .null, .null, .null, .null, .null, .null, .null])]) 5 27 := w
    obtain ⟨P4, eP⟩ : ∃ P : List Ob, P = P3.set 0 (o0 (.int 3) (.ref (n0 + B0)) (.int 3)) := ⟨_, rfl⟩
    replace p0 : P4[0]? = some (o0 (.int 3) (.ref (n0 + B0)) (.int 3)) := by rw [eP]; exact lk_set p0
    replace p1 : P4[1]? = some (o1 (.ref sa) .null (.int (-2147483648)) (.int 2147483647) (.int 0) .null) := by rw [eP]; exact lk_ne p1 (by decide)
    replace hB0 : P4.length = B0 := by rw [eP, List.length_set]; exact hB0
    rw [← eP] at w
    clear eP
    refine s_pop (pc' := 75) w at_74 rfl rfl ?_
    refine s_iload (pc' := 77) w at_75 rfl rfl ?_
    refine s_iconst (pc' := 78) (3 : Int32) w at_77 (by decide) rfl ?_
    refine s_icmpN (pc' := 81) w at_78 (Jvm.Free.XT.ii_lt_f (by decide)) rfl ?_
    refine s_aload (pc' := 83) w at_81 rfl rfl rfl ?_
    refine s_aload (pc' := 85) w at_83 rfl rfl rfl ?_
    refine s_virtual (pc' := 88) (rest := []) 0 [(.ref (n0 + 1))] w (c_addn hw l h0 n0 0 (B0 + 0) 3 3 [.ref (n0 + 1), .ref (n0 + 1), .ref (n0 + 1), .null, .null, .null, .null, .null, .null, .null] 10 (n0 + 1) _ _ _ _ (lk_app p0) (lk_suf hB0 rfl) rfl (by decide) (by decide) (leB rfl) (by omega) (Lk.new (lk_app p1)) (Or.inr (t90 hw)) (ad_ne (by decide))) (Lk.new (lk_app p0)) (t60 hw) (t61 hw) (w.notFace (t63 hw)) (t63 hw) (t62 hw) (t2 hw) (t64 hw) (by decide) pd13 at_85 (by decide) rfl rfl rfl rfl (Nat.le_of_eq rfl) rfl ?_
    intro T v L' hQ w
    obtain ⟨rfl, hL⟩ := hQ
    replace hL := hL.symm
    subst hL
    dsimp only [oS, oN, cA, nA]
    rw [set_suf hB0, set_app p0] at w
    replace w : St p l e _ (s.setVm vm1) m _ below meth c Z _ _ _ _ h0 n0 T (P4.set 0 (o0 (.int 4) (.ref (n0 + B0)) (.int 4)) ++ [aO ([.ref (n0 + 1), .ref (n0 + 1), .ref (n0 + 1), .ref (n0 + 1), .null, .null, .null, .null, .null, .null])]) 5 27 := w
    obtain ⟨P5, eP⟩ : ∃ P : List Ob, P = P4.set 0 (o0 (.int 4) (.ref (n0 + B0)) (.int 4)) := ⟨_, rfl⟩
    replace p0 : P5[0]? = some (o0 (.int 4) (.ref (n0 + B0)) (.int 4)) := by rw [eP]; exact lk_set p0
    replace p1 : P5[1]? = some (o1 (.ref sa) .null (.int (-2147483648)) (.int 2147483647) (.int 0) .null) := by rw [eP]; exact lk_ne p1 (by decide)
    replace hB0 : P5.length = B0 := by rw [eP, List.length_set]; exact hB0
    rw [← eP] at w
    clear eP
    refine s_pop (pc' := 89) w at_88 rfl rfl ?_
    refine s_aload (pc' := 91) w at_89 rfl rfl rfl ?_
    refine s_aload (pc' := 93) w at_91 rfl rfl rfl ?_
    refine s_virtual (pc' := 96) (rest := []) 0 [(.ref (n0 + 1))] w (c_addn hw l h0 n0 0 (B0 + 0) 4 4 [.ref (n0 + 1), .ref (n0 + 1), .ref (n0 + 1), .ref (n0 + 1), .null, .null, .null, .null, .null, .null] 10 (n0 + 1) _ _ _ _ (lk_app p0) (lk_suf hB0 rfl) rfl (by decide) (by decide) (leB rfl) (by omega) (Lk.new (lk_app p1)) (Or.inr (t90 hw)) (ad_ne (by decide))) (Lk.new (lk_app p0)) (t60 hw) (t61 hw) (w.notFace (t63 hw)) (t63 hw) (t62 hw) (t2 hw) (t64 hw) (by decide) pd13 at_93 (by decide) rfl rfl rfl rfl (Nat.le_of_eq rfl) rfl ?_
    intro T v L' hQ w
    obtain ⟨rfl, hL⟩ := hQ
    replace hL := hL.symm
    subst hL
    dsimp only [oS, oN, cA, nA]
    rw [set_suf hB0, set_app p0] at w
    replace w : St p l e _ (s.setVm vm1) m _ below meth c Z _ _ _ _ h0 n0 T (P5.set 0 (o0 (.int 5) (.ref (n0 + B0)) (.int 5)) ++ [aO ([.ref (n0 + 1), .ref (n0 + 1), .ref (n0 + 1), .ref (n0 + 1), .ref (n0 + 1), .null, .null, .null, .null, .null])]) 5 27 := w
    obtain ⟨P6, eP⟩ : ∃ P : List Ob, P = P5.set 0 (o0 (.int 5) (.ref (n0 + B0)) (.int 5)) := ⟨_, rfl⟩
    replace p0 : P6[0]? = some (o0 (.int 5) (.ref (n0 + B0)) (.int 5)) := by rw [eP]; exact lk_set p0
    replace p1 : P6[1]? = some (o1 (.ref sa) .null (.int (-2147483648)) (.int 2147483647) (.int 0) .null) := by rw [eP]; exact lk_ne p1 (by decide)
    replace hB0 : P6.length = B0 := by rw [eP, List.length_set]; exact hB0
    rw [← eP] at w
    clear eP
    refine s_pop (pc' := 97) w at_96 rfl rfl ?_
    obtain ⟨Q, eQ⟩ : ∃ P : List Ob, P = P6 ++ [aO ([.ref (n0 + 1), .ref (n0 + 1), .ref (n0 + 1), .ref (n0 + 1), .ref (n0 + 1), .null, .null, .null, .null, .null])] := ⟨_, rfl⟩
    have pA : Q[0]? = some (o0 (.int 5) (.ref (n0 + B0)) (.int 5)) := by rw [eQ]; exact lk_app p0
    have pV : Q[1]? = some (o1 (.ref sa) .null (.int (-2147483648)) (.int 2147483647) (.int 0) .null) := by rw [eQ]; exact lk_app p1
    have pE : Q[B0 + 0]? = some (aO ([.ref (n0 + 1), .ref (n0 + 1), .ref (n0 + 1), .ref (n0 + 1), .ref (n0 + 1), .null, .null, .null, .null, .null])) := by rw [eQ]; exact lk_suf hB0 rfl
    obtain ⟨N, hN⟩ : ∃ z, Q.length = z := ⟨_, rfl⟩
    have hkN : k1 ≤ n0 + N := by rw [← hN, eQ, List.length_append, hB0]; omega
    rw [← eQ] at w
    clear eQ
    refine s_new (pc' := 100) [.null, (.int 0), .null, .null, .null, .null, .null, .null, (.int 0), .null] w (t91 hw) (t93 hw) (cls2 hw) at_97 ?_ (by decide) (by decide) (N + 0) hN rfl ?_
    · intro j f v h1 h2
      match j, h1, h2 with
      | 0, h1, h2 => cases (Option.some.inj h1); cases (Option.some.inj h2); exact ⟨(.array .long), by decide +kernel, rfl⟩
      | 1, h1, h2 => cases (Option.some.inj h1); cases (Option.some.inj h2); exact ⟨.int, by decide +kernel, rfl⟩
      | 2, h1, h2 => cases (Option.some.inj h1); cases (Option.some.inj h2); exact ⟨(.array .int), by decide +kernel, rfl⟩
      | 3, h1, h2 => cases (Option.some.inj h1); cases (Option.some.inj h2); exact ⟨(.array .int), by decide +kernel, rfl⟩
      | 4, h1, h2 => cases (Option.some.inj h1); cases (Option.some.inj h2); exact ⟨(.array .int), by decide +kernel, rfl⟩
      | 5, h1, h2 => cases (Option.some.inj h1); cases (Option.some.inj h2); exact ⟨(.array .int), by decide +kernel, rfl⟩
      | 6, h1, h2 => cases (Option.some.inj h1); cases (Option.some.inj h2); exact ⟨(.array .int), by decide +kernel, rfl⟩
      | 7, h1, h2 => cases (Option.some.inj h1); cases (Option.some.inj h2); exact ⟨(.array .long), by decide +kernel, rfl⟩
      | 8, h1, h2 => cases (Option.some.inj h1); cases (Option.some.inj h2); exact ⟨.int, by decide +kernel, rfl⟩
      | 9, h1, h2 => cases (Option.some.inj h1); cases (Option.some.inj h2); exact ⟨(.array .long), by decide +kernel, rfl⟩
      | (i + 10), h1, _ => exact absurd h1 (by simp [fs2])
    intro T w
    replace w : St p l e _ (s.setVm vm1) m _ below meth c Z _ _ _ _ h0 n0 T (Q ++ [o2 .null (.int 0) .null .null .null .null .null .null (.int 0) .null]) 6 39 := w
    refine s_dup (pc' := 101) w at_100 rfl rfl ?_
    refine s_aload (pc' := 103) w at_101 rfl rfl rfl ?_
    refine s_special (pc' := 106) (rest := [(.ref (n0 + (N + 0)))]) 1 [(.ref (n0 + 0))] w (c_storeF5 hw l h0 n0 Q N 0 (B0 + 0) (.int 5) [.ref (n0 + 1), .ref (n0 + 1), .ref (n0 + 1), .ref (n0 + 1), .ref (n0 + 1), .null, .null, .null, .null, .null] 1 (-2147483648) 2147483647 (.ref sa) .null (.int 0) .null 1 (-2147483648) 2147483647 (.ref sa) .null (.int 0) .null 1 (-2147483648) 2147483647 (.ref sa) .null (.int 0) .null 1 (-2147483648) 2147483647 (.ref sa) .null (.int 0) .null 1 (-2147483648) 2147483647 (.ref sa) .null (.int 0) .null hN pA pE rfl pV (by decide) rfl pV (by decide) rfl pV (by decide) rfl pV (by decide) rfl pV (by decide) (by decide) (by decide) (by decide) (by decide) (by decide) (by decide) (by decide) (by decide) (by decide) (by decide)) rfl (t94 hw) (t95 hw) (t93 hw) (t96 hw) (by decide) pd14 at_103 (by decide) rfl rfl rfl rfl (Nat.le_of_eq rfl) rfl ?_
    intro T v L' hQ w
    obtain ⟨rfl, hL⟩ := hQ
    replace hL := hL.symm
    subst hL
    dsimp only [oS, oN, cA, nA]
    replace w : St p l e _ (s.setVm vm1) m _ below meth c Z _ _ _ _ h0 n0 T (Q ++ [o2 (.ref (n0 + (N + 1))) (.int 10) (.ref (n0 + (N + 2))) (.ref (n0 + (N + 3))) (.ref (n0 + (N + 4))) (.ref (n0 + (N + 5))) (.ref (n0 + (N + 6))) (.ref (n0 + (N + 7))) (.int 3) (.ref (n0 + (N + 8))), aJ ([]), aI (List.replicate 1024 (.int (-1))), aI ([]), aI ([.int (-2147483648), .int (-2147483648), .int (-2147483648), .int (-2147483648), .int (-2147483648)]), aI ([.int 0, .int 0, .int 1, .int 1, .int 2]), aI ([.int (Int32.ofNat (0)), .int (Int32.ofNat (32)), .int (Int32.ofNat (0)), .int (Int32.ofNat (32)), .int (Int32.ofNat (0))]), aJ ([.long (mkM (32)), .long (mkM (32)), .long (mkM (32)), .long (mkM (32)), .long (mkM (32))]), aJ ([.long 0, .long 0, .long 0])]) 14 1086 := w
    refine s_astore (pc' := 108) (ls' := #[vJ q0, sc, vJ q1, sc, vJ q2, sc, vJ x0, sc, vJ x1, sc, vI sel, vI (3 : Int32), vI (Int32.ofNat sv), vR (n0 + 0), vR (n0 + 1), vR (n0 + (N + 0)), un, un, un, un, un, un, un, un, un, un, un, un, un]) w at_106 rfl rfl rfl ?_
    refine s_aload (pc' := 110) w at_108 rfl rfl rfl ?_
    refine s_virtual (pc' := 113) (rest := []) 0 [] w (c_wps hw l h0 n0 (n0 + (N + 0)) 3 _ _ (Lk.new (lk_suf hN rfl)) rfl) (Lk.new (lk_suf hN rfl)) (t180 hw) (t181 hw) (w.notFace (t183 hw)) (t183 hw) (t182 hw) (t93 hw) (t184 hw) (by decide) pd11 at_110 (by decide) rfl rfl rfl rfl (Nat.le_of_eq rfl) rfl ?_
    intro T v L' hQ w
    obtain ⟨rfl, hL⟩ := hQ
    replace hL := hL.symm
    subst hL
    dsimp only [oS, oN, cA, nA]
    refine s_iload (pc' := 115) w at_113 rfl rfl ?_
    refine s_icmpY (pc' := 120) w at_115 (Jvm.Free.XT.ii_eq_t rfl) (by decide) (by decide) ?_
    refine s_bipush (pc' := 122) (6 : Int32) w at_120 (by decide) rfl ?_
    refine s_newarray (pc' := 124) (ty := .long) w (t98 hw) rfl (by intro C h; cases h) at_122 (by decide) 6 (by decide) (by decide) (by decide) (by decide) (N + 9) (by rw [List.length_append, hN]; rfl) rfl ?_
    intro T w
    rw [List.append_assoc] at w
    replace w : St p l e _ (s.setVm vm1) m _ below meth c Z _ _ _ _ h0 n0 T (Q ++ [o2 (.ref (n0 + (N + 1))) (.int 10) (.ref (n0 + (N + 2))) (.ref (n0 + (N + 3))) (.ref (n0 + (N + 4))) (.ref (n0 + (N + 5))) (.ref (n0 + (N + 6))) (.ref (n0 + (N + 7))) (.int 3) (.ref (n0 + (N + 8))), aJ ([]), aI (List.replicate 1024 (.int (-1))), aI ([]), aI ([.int (-2147483648), .int (-2147483648), .int (-2147483648), .int (-2147483648), .int (-2147483648)]), aI ([.int 0, .int 0, .int 1, .int 1, .int 2]), aI ([.int (Int32.ofNat (0)), .int (Int32.ofNat (32)), .int (Int32.ofNat (0)), .int (Int32.ofNat (32)), .int (Int32.ofNat (0))]), aJ ([.long (mkM (32)), .long (mkM (32)), .long (mkM (32)), .long (mkM (32)), .long (mkM (32))]), aJ ([.long 0, .long 0, .long 0]), aJ ([(.long 0), (.long 0), (.long 0), (.long 0), (.long 0), (.long 0)])]) 15 1092 := w
    refine s_dup (pc' := 125) w at_124 rfl rfl ?_
    refine s_iconst (pc' := 126) (0 : Int32) w at_125 (by decide) rfl ?_
    refine s_lload (pc' := 128) w at_126 rfl rfl ?_
    refine s_lastore (pc' := 129) (k := (N + 9)) w (lk_suf hN rfl) at_128 (by decide) (leB rfl) rfl ?_
    intro T w
    rw [set_suf hN] at w
    replace w : St p l e _ (s.setVm vm1) m _ below meth c Z _ _ _ _ h0 n0 T (Q ++ [o2 (.ref (n0 + (N + 1))) (.int 10) (.ref (n0 + (N + 2))) (.ref (n0 + (N + 3))) (.ref (n0 + (N + 4))) (.ref (n0 + (N + 5))) (.ref (n0 + (N + 6))) (.ref (n0 + (N + 7))) (.int 3) (.ref (n0 + (N + 8))), aJ ([]), aI (List.replicate 1024 (.int (-1))), aI ([]), aI ([.int (-2147483648), .int (-2147483648), .int (-2147483648), .int (-2147483648), .int (-2147483648)]), aI ([.int 0, .int 0, .int 1, .int 1, .int 2]), aI ([.int (Int32.ofNat (0)), .int (Int32.ofNat (32)), .int (Int32.ofNat (0)), .int (Int32.ofNat (32)), .int (Int32.ofNat (0))]), aJ ([.long (mkM (32)), .long (mkM (32)), .long (mkM (32)), .long (mkM (32)), .long (mkM (32))]), aJ ([.long 0, .long 0, .long 0]), aJ ([.long x0, (.long 0), (.long 0), (.long 0), (.long 0), (.long 0)])]) 15 1092 := w
    refine s_dup (pc' := 130) w at_129 rfl rfl ?_
    refine s_iconst (pc' := 131) (1 : Int32) w at_130 (by decide) rfl ?_
    refine s_lload (pc' := 133) w at_131 rfl rfl ?_
    refine s_lastore (pc' := 134) (k := (N + 9)) w (lk_suf hN rfl) at_133 (by decide) (leB rfl) rfl ?_
    intro T w
    rw [set_suf hN] at w
    replace w : St p l e _ (s.setVm vm1) m _ below meth c Z _ _ _ _ h0 n0 T (Q ++ [o2 (.ref (n0 + (N + 1))) (.int 10) (.ref (n0 + (N + 2))) (.ref (n0 + (N + 3))) (.ref (n0 + (N + 4))) (.ref (n0 + (N + 5))) (.ref (n0 + (N + 6))) (.ref (n0 + (N + 7))) (.int 3) (.ref (n0 + (N + 8))), aJ ([]), aI (List.replicate 1024 (.int (-1))), aI ([]), aI ([.int (-2147483648), .int (-2147483648), .int (-2147483648), .int (-2147483648), .int (-2147483648)]), aI ([.int 0, .int 0, .int 1, .int 1, .int 2]), aI ([.int (Int32.ofNat (0)), .int (Int32.ofNat (32)), .int (Int32.ofNat (0)), .int (Int32.ofNat (32)), .int (Int32.ofNat (0))]), aJ ([.long (mkM (32)), .long (mkM (32)), .long (mkM (32)), .long (mkM (32)), .long (mkM (32))]), aJ ([.long 0, .long 0, .long 0]), aJ ([.long x0, .long x0, (.long 0), (.long 0), (.long 0), (.long 0)])]) 15 1092 := w
    refine s_dup (pc' := 135) w at_134 rfl rfl ?_
    refine s_iconst (pc' := 136) (2 : Int32) w at_135 (by decide) rfl ?_
    refine s_lload (pc' := 138) w at_136 rfl rfl ?_
    refine s_lastore (pc' := 139) (k := (N + 9)) w (lk_suf hN rfl) at_138 (by decide) (leB rfl) rfl ?_
    intro T w
    rw [set_suf hN] at w
    replace w : St p l e _ (s.setVm vm1) m _ below meth c Z _ _ _ _ h0 n0 T (Q ++ [o2 (.ref (n0 + (N + 1))) (.int 10) (.ref (n0 + (N + 2))) (.ref (n0 + (N + 3))) (.ref (n0 + (N + 4))) (.ref (n0 + (N + 5))) (.ref (n0 + (N + 6))) (.ref (n0 + (N + 7))) (.int 3) (.ref (n0 + (N + 8))), aJ ([]), aI (List.replicate 1024 (.int (-1))), aI ([]), aI ([.int (-2147483648), .int (-2147483648), .int (-2147483648), .int (-2147483648), .int (-2147483648)]), aI ([.int 0, .int 0, .int 1, .int 1, .int 2]), aI ([.int (Int32.ofNat (0)), .int (Int32.ofNat (32)), .int (Int32.ofNat (0)), .int (Int32.ofNat (32)), .int (Int32.ofNat (0))]), aJ ([.long (mkM (32)), .long (mkM (32)), .long (mkM (32)), .long (mkM (32)), .long (mkM (32))]), aJ ([.long 0, .long 0, .long 0]), aJ ([.long x0, .long x0, .long x0, (.long 0), (.long 0), (.long 0)])]) 15 1092 := w
    refine s_dup (pc' := 140) w at_139 rfl rfl ?_
    refine s_iconst (pc' := 141) (3 : Int32) w at_140 (by decide) rfl ?_
    refine s_lload (pc' := 143) w at_141 rfl rfl ?_
    refine s_lastore (pc' := 144) (k := (N + 9)) w (lk_suf hN rfl) at_143 (by decide) (leB rfl) rfl ?_
    intro T w
    rw [set_suf hN] at w
    replace w : St p l e _ (s.setVm vm1) m _ below meth c Z _ _ _ _ h0 n0 T (Q ++ [o2 (.ref (n0 + (N + 1))) (.int 10) (.ref (n0 + (N + 2))) (.ref (n0 + (N + 3))) (.ref (n0 + (N + 4))) (.ref (n0 + (N + 5))) (.ref (n0 + (N + 6))) (.ref (n0 + (N + 7))) (.int 3) (.ref (n0 + (N + 8))), aJ ([]), aI (List.replicate 1024 (.int (-1))), aI ([]), aI ([.int (-2147483648), .int (-2147483648), .int (-2147483648), .int (-2147483648), .int (-2147483648)]), aI ([.int 0, .int 0, .int 1, .int 1, .int 2]), aI ([.int (Int32.ofNat (0)), .int (Int32.ofNat (32)), .int (Int32.ofNat (0)), .int (Int32.ofNat (32)), .int (Int32.ofNat (0))]), aJ ([.long (mkM (32)), .long (mkM (32)), .long (mkM (32)), .long (mkM (32)), .long (mkM (32))]), aJ ([.long 0, .long 0, .long 0]), aJ ([.long x0, .long x0, .long x0, .long x0, (.long 0), (.long 0)])]) 15 1092 := w
    refine s_dup (pc' := 145) w at_144 rfl rfl ?_
    refine s_iconst (pc' := 146) (4 : Int32) w at_145 (by decide) rfl ?_
    refine s_lload (pc' := 148) w at_146 rfl rfl ?_
    refine s_lastore (pc' := 149) (k := (N + 9)) w (lk_suf hN rfl) at_148 (by decide) (leB rfl) rfl ?_
    intro T w
    rw [set_suf hN] at w
    replace w : St p l e _ (s.setVm vm1) m _ below meth c Z _ _ _ _ h0 n0 T (Q ++ [o2 (.ref (n0 + (N + 1))) (.int 10) (.ref (n0 + (N + 2))) (.ref (n0 + (N + 3))) (.ref (n0 + (N + 4))) (.ref (n0 + (N + 5))) (.ref (n0 + (N + 6))) (.ref (n0 + (N + 7))) (.int 3) (.ref (n0 + (N + 8))), aJ ([]), aI (List.replicate 1024 (.int (-1))), aI ([]), aI ([.int (-2147483648), .int (-2147483648), .int (-2147483648), .int (-2147483648), .int (-2147483648)]), aI ([.int 0, .int 0, .int 1, .int 1, .int 2]), aI ([.int (Int32.ofNat (0)), .int (Int32.ofNat (32)), .int (Int32.ofNat (0)), .int (Int32.ofNat (32)), .int (Int32.ofNat (0))]), aJ ([.long (mkM (32)), .long (mkM (32)), .long (mkM (32)), .long (mkM (32)), .long (mkM (32))]), aJ ([.long 0, .long 0, .long 0]), aJ ([.long x0, .long x0, .long x0, .long x0, .long x0, (.long 0)])]) 15 1092 := w
    refine s_dup (pc' := 150) w at_149 rfl rfl ?_
    refine s_iconst (pc' := 151) (5 : Int32) w at_150 (by decide) rfl ?_
    refine s_lload (pc' := 153) w at_151 rfl rfl ?_
    refine s_lastore (pc' := 154) (k := (N + 9)) w (lk_suf hN rfl) at_153 (by decide) (leB rfl) rfl ?_
    intro T w
    rw [set_suf hN] at w
    replace w : St p l e _ (s.setVm vm1) m _ below meth c Z _ _ _ _ h0 n0 T (Q ++ [o2 (.ref (n0 + (N + 1))) (.int 10) (.ref (n0 + (N + 2))) (.ref (n0 + (N + 3))) (.ref (n0 + (N + 4))) (.ref (n0 + (N + 5))) (.ref (n0 + (N + 6))) (.ref (n0 + (N + 7))) (.int 3) (.ref (n0 + (N + 8))), aJ ([]), aI (List.replicate 1024 (.int (-1))), aI ([]), aI ([.int (-2147483648), .int (-2147483648), .int (-2147483648), .int (-2147483648), .int (-2147483648)]), aI ([.int 0, .int 0, .int 1, .int 1, .int 2]), aI ([.int (Int32.ofNat (0)), .int (Int32.ofNat (32)), .int (Int32.ofNat (0)), .int (Int32.ofNat (32)), .int (Int32.ofNat (0))]), aJ ([.long (mkM (32)), .long (mkM (32)), .long (mkM (32)), .long (mkM (32)), .long (mkM (32))]), aJ ([.long 0, .long 0, .long 0]), aJ ([.long x0, .long x0, .long x0, .long x0, .long x0, .long x0])]) 15 1092 := w
    refine s_astore (pc' := 156) (ls' := #[vJ q0, sc, vJ q1, sc, vJ q2, sc, vJ x0, sc, vJ x1, sc, vI sel, vI (3 : Int32), vI (Int32.ofNat sv), vR (n0 + 0), vR (n0 + 1), vR (n0 + (N + 0)), vR (n0 + (N + 9)), un, un, un, un, un, un, un, un, un, un, un, un]) w at_154 rfl rfl rfl ?_
    refine s_aload (pc' := 158) w at_156 rfl rfl rfl ?_
    refine s_iload (pc' := 160) w at_158 rfl rfl ?_
    refine s_lloadN (pc' := 161) w at_160 rfl rfl ?_
    refine s_lastore (pc' := 162) (k := (N + 9)) w (lk_suf hN rfl) at_161 (i_nn (by omega)) (by rw [i_cl (by omega)]; simp; omega) rfl ?_
    intro T w
    rw [i_cl (show sv < 2 ^ 31 by omega)] at w
    rw [set_suf hN] at w
    replace w : St p l e _ (s.setVm vm1) m _ below meth c Z _ _ _ _ h0 n0 T (Q ++ [o2 (.ref (n0 + (N + 1))) (.int 10) (.ref (n0 + (N + 2))) (.ref (n0 + (N + 3))) (.ref (n0 + (N + 4))) (.ref (n0 + (N + 5))) (.ref (n0 + (N + 6))) (.ref (n0 + (N + 7))) (.int 3) (.ref (n0 + (N + 8))), aJ ([]), aI (List.replicate 1024 (.int (-1))), aI ([]), aI ([.int (-2147483648), .int (-2147483648), .int (-2147483648), .int (-2147483648), .int (-2147483648)]), aI ([.int 0, .int 0, .int 1, .int 1, .int 2]), aI ([.int (Int32.ofNat (0)), .int (Int32.ofNat (32)), .int (Int32.ofNat (0)), .int (Int32.ofNat (32)), .int (Int32.ofNat (0))]), aJ ([.long (mkM (32)), .long (mkM (32)), .long (mkM (32)), .long (mkM (32)), .long (mkM (32))]), aJ ([.long 0, .long 0, .long 0]), aJ (List.set ([Value.long x0, Value.long x0, Value.long x0, Value.long x0, Value.long x0, Value.long x0]) sv (.long q0))]) 15 1092 := w
    refine s_iload (pc' := 164) w at_162 rfl rfl ?_
    refine s_iconst (pc' := 165) (2 : Int32) w at_164 (by decide) rfl ?_
    refine s_icmpN (pc' := 168) w at_165 (Jvm.Free.XT.ii_lt_f (by decide)) rfl ?_
    refine s_aload (pc' := 170) w at_168 rfl rfl rfl ?_
    refine s_iload (pc' := 172) w at_170 rfl rfl ?_
    refine s_iconst (pc' := 173) (1 : Int32) w at_172 (by decide) rfl ?_
    refine s_iadd (pc' := 174) w at_173 rfl ?_
    refine s_lloadN (pc' := 175) w at_174 rfl rfl ?_
    rw [show Int32.ofNat sv + (1 : Int32) = Int32.ofNat (sv + 1) from b_add sv 1]
    refine s_lastore (pc' := 176) (k := (N + 9)) w (lk_suf hN rfl) at_175 (i_nn (by omega)) (by rw [i_cl (by omega)]; simp; omega) rfl ?_
    intro T w
    rw [i_cl (show (sv + 1) < 2 ^ 31 by omega)] at w
    rw [set_suf hN] at w
    replace w : St p l e _ (s.setVm vm1) m _ below meth c Z _ _ _ _ h0 n0 T (Q ++ [o2 (.ref (n0 + (N + 1))) (.int 10) (.ref (n0 + (N + 2))) (.ref (n0 + (N + 3))) (.ref (n0 + (N + 4))) (.ref (n0 + (N + 5))) (.ref (n0 + (N + 6))) (.ref (n0 + (N + 7))) (.int 3) (.ref (n0 + (N + 8))), aJ ([]), aI (List.replicate 1024 (.int (-1))), aI ([]), aI ([.int (-2147483648), .int (-2147483648), .int (-2147483648), .int (-2147483648), .int (-2147483648)]), aI ([.int 0, .int 0, .int 1, .int 1, .int 2]), aI ([.int (Int32.ofNat (0)), .int (Int32.ofNat (32)), .int (Int32.ofNat (0)), .int (Int32.ofNat (32)), .int (Int32.ofNat (0))]), aJ ([.long (mkM (32)), .long (mkM (32)), .long (mkM (32)), .long (mkM (32)), .long (mkM (32))]), aJ ([.long 0, .long 0, .long 0]), aJ (List.set (List.set ([Value.long x0, Value.long x0, Value.long x0, Value.long x0, Value.long x0, Value.long x0]) sv (.long q0)) (sv + 1) (.long q1))]) 15 1092 := w
    refine s_iload (pc' := 178) w at_176 rfl rfl ?_
    refine s_iconst (pc' := 179) (3 : Int32) w at_178 (by decide) rfl ?_
    refine s_icmpN (pc' := 182) w at_179 (Jvm.Free.XT.ii_lt_f (by decide)) rfl ?_
    refine s_aload (pc' := 184) w at_182 rfl rfl rfl ?_
    refine s_iload (pc' := 186) w at_184 rfl rfl ?_
    refine s_iconst (pc' := 187) (2 : Int32) w at_186 (by decide) rfl ?_
    refine s_iadd (pc' := 188) w at_187 rfl ?_
    refine s_lload (pc' := 190) w at_188 rfl rfl ?_
    rw [show Int32.ofNat sv + (2 : Int32) = Int32.ofNat (sv + 2) from b_add sv 2]
    refine s_lastore (pc' := 191) (k := (N + 9)) w (lk_suf hN rfl) at_190 (i_nn (by omega)) (by rw [i_cl (by omega)]; simp; omega) rfl ?_
    intro T w
    rw [i_cl (show (sv + 2) < 2 ^ 31 by omega)] at w
    rw [set_suf hN] at w
    replace w : St p l e _ (s.setVm vm1) m _ below meth c Z _ _ _ _ h0 n0 T (Q ++ [o2 (.ref (n0 + (N + 1))) (.int 10) (.ref (n0 + (N + 2))) (.ref (n0 + (N + 3))) (.ref (n0 + (N + 4))) (.ref (n0 + (N + 5))) (.ref (n0 + (N + 6))) (.ref (n0 + (N + 7))) (.int 3) (.ref (n0 + (N + 8))), aJ ([]), aI (List.replicate 1024 (.int (-1))), aI ([]), aI ([.int (-2147483648), .int (-2147483648), .int (-2147483648), .int (-2147483648), .int (-2147483648)]), aI ([.int 0, .int 0, .int 1, .int 1, .int 2]), aI ([.int (Int32.ofNat (0)), .int (Int32.ofNat (32)), .int (Int32.ofNat (0)), .int (Int32.ofNat (32)), .int (Int32.ofNat (0))]), aJ ([.long (mkM (32)), .long (mkM (32)), .long (mkM (32)), .long (mkM (32)), .long (mkM (32))]), aJ ([.long 0, .long 0, .long 0]), aJ (List.set (List.set (List.set ([Value.long x0, Value.long x0, Value.long x0, Value.long x0, Value.long x0, Value.long x0]) sv (.long q0)) (sv + 1) (.long q1)) (sv + 2) (.long q2))]) 15 1092 := w
    refine s_iconst (pc' := 192) (4 : Int32) w at_191 (by decide) rfl ?_
    refine s_newarray (pc' := 194) (ty := .long) w (t98 hw) rfl (by intro C h; cases h) at_192 (by decide) 4 (by decide) (by decide) (by decide) (by decide) (N + 10) (by rw [List.length_append, hN]; rfl) rfl ?_
    intro T w
    rw [List.append_assoc] at w
    replace w : St p l e _ (s.setVm vm1) m _ below meth c Z _ _ _ _ h0 n0 T (Q ++ [o2 (.ref (n0 + (N + 1))) (.int 10) (.ref (n0 + (N + 2))) (.ref (n0 + (N + 3))) (.ref (n0 + (N + 4))) (.ref (n0 + (N + 5))) (.ref (n0 + (N + 6))) (.ref (n0 + (N + 7))) (.int 3) (.ref (n0 + (N + 8))), aJ ([]), aI (List.replicate 1024 (.int (-1))), aI ([]), aI ([.int (-2147483648), .int (-2147483648), .int (-2147483648), .int (-2147483648), .int (-2147483648)]), aI ([.int 0, .int 0, .int 1, .int 1, .int 2]), aI ([.int (Int32.ofNat (0)), .int (Int32.ofNat (32)), .int (Int32.ofNat (0)), .int (Int32.ofNat (32)), .int (Int32.ofNat (0))]), aJ ([.long (mkM (32)), .long (mkM (32)), .long (mkM (32)), .long (mkM (32)), .long (mkM (32))]), aJ ([.long 0, .long 0, .long 0]), aJ (List.set (List.set (List.set ([Value.long x0, Value.long x0, Value.long x0, Value.long x0, Value.long x0, Value.long x0]) sv (.long q0)) (sv + 1) (.long q1)) (sv + 2) (.long q2)), aJ ([(.long 0), (.long 0), (.long 0), (.long 0)])]) 16 1096 := w
    refine s_dup (pc' := 195) w at_194 rfl rfl ?_
    refine s_iconst (pc' := 196) (0 : Int32) w at_195 (by decide) rfl ?_
    refine s_lloadN (pc' := 197) w at_196 rfl rfl ?_
    refine s_lastore (pc' := 198) (k := (N + 10)) w (lk_suf hN rfl) at_197 (by decide) (leB rfl) rfl ?_
    intro T w
    rw [set_suf hN] at w
    replace w : St p l e _ (s.setVm vm1) m _ below meth c Z _ _ _ _ h0 n0 T (Q ++ [o2 (.ref (n0 + (N + 1))) (.int 10) (.ref (n0 + (N + 2))) (.ref (n0 + (N + 3))) (.ref (n0 + (N + 4))) (.ref (n0 + (N + 5))) (.ref (n0 + (N + 6))) (.ref (n0 + (N + 7))) (.int 3) (.ref (n0 + (N + 8))), aJ ([]), aI (List.replicate 1024 (.int (-1))), aI ([]), aI ([.int (-2147483648), .int (-2147483648), .int (-2147483648), .int (-2147483648), .int (-2147483648)]), aI ([.int 0, .int 0, .int 1, .int 1, .int 2]), aI ([.int (Int32.ofNat (0)), .int (Int32.ofNat (32)), .int (Int32.ofNat (0)), .int (Int32.ofNat (32)), .int (Int32.ofNat (0))]), aJ ([.long (mkM (32)), .long (mkM (32)), .long (mkM (32)), .long (mkM (32)), .long (mkM (32))]), aJ ([.long 0, .long 0, .long 0]), aJ (List.set (List.set (List.set ([Value.long x0, Value.long x0, Value.long x0, Value.long x0, Value.long x0, Value.long x0]) sv (.long q0)) (sv + 1) (.long q1)) (sv + 2) (.long q2)), aJ ([.long q0, (.long 0), (.long 0), (.long 0)])]) 16 1096 := w
    refine s_dup (pc' := 199) w at_198 rfl rfl ?_
    refine s_iconst (pc' := 200) (1 : Int32) w at_199 (by decide) rfl ?_
    refine s_lloadN (pc' := 201) w at_200 rfl rfl ?_
    refine s_lastore (pc' := 202) (k := (N + 10)) w (lk_suf hN rfl) at_201 (by decide) (leB rfl) rfl ?_
    intro T w
    rw [set_suf hN] at w
    replace w : St p l e _ (s.setVm vm1) m _ below meth c Z _ _ _ _ h0 n0 T (Q ++ [o2 (.ref (n0 + (N + 1))) (.int 10) (.ref (n0 + (N + 2))) (.ref (n0 + (N + 3))) (.ref (n0 + (N + 4))) (.ref (n0 + (N + 5))) (.ref (n0 + (N + 6))) (.ref (n0 + (N + 7))) (.int 3) (.ref (n0 + (N + 8))), aJ ([]), aI (List.replicate 1024 (.int (-1))), aI ([]), aI ([.int (-2147483648), .int (-2147483648), .int (-2147483648), .int (-2147483648), .int (-2147483648)]), aI ([.int 0, .int 0, .int 1, .int 1, .int 2]), aI ([.int (Int32.ofNat (0)), .int (Int32.ofNat (32)), .int (Int32.ofNat (0)), .int (Int32.ofNat (32)), .int (Int32.ofNat (0))]), aJ ([.long (mkM (32)), .long (mkM (32)), .long (mkM (32)), .long (mkM (32)), .long (mkM (32))]), aJ ([.long 0, .long 0, .long 0]), aJ (List.set (List.set (List.set ([Value.long x0, Value.long x0, Value.long x0, Value.long x0, Value.long x0, Value.long x0]) sv (.long q0)) (sv + 1) (.long q1)) (sv + 2) (.long q2)), aJ ([.long q0, .long q1, (.long 0), (.long 0)])]) 16 1096 := w
    refine s_dup (pc' := 203) w at_202 rfl rfl ?_
    refine s_iconst (pc' := 204) (2 : Int32) w at_203 (by decide) rfl ?_
    refine s_lload (pc' := 206) w at_204 rfl rfl ?_
    refine s_lastore (pc' := 207) (k := (N + 10)) w (lk_suf hN rfl) at_206 (by decide) (leB rfl) rfl ?_
    intro T w
    rw [set_suf hN] at w
    replace w : St p l e _ (s.setVm vm1) m _ below meth c Z _ _ _ _ h0 n0 T (Q ++ [o2 (.ref (n0 + (N + 1))) (.int 10) (.ref (n0 + (N + 2))) (.ref (n0 + (N + 3))) (.ref (n0 + (N + 4))) (.ref (n0 + (N + 5))) (.ref (n0 + (N + 6))) (.ref (n0 + (N + 7))) (.int 3) (.ref (n0 + (N + 8))), aJ ([]), aI (List.replicate 1024 (.int (-1))), aI ([]), aI ([.int (-2147483648), .int (-2147483648), .int (-2147483648), .int (-2147483648), .int (-2147483648)]), aI ([.int 0, .int 0, .int 1, .int 1, .int 2]), aI ([.int (Int32.ofNat (0)), .int (Int32.ofNat (32)), .int (Int32.ofNat (0)), .int (Int32.ofNat (32)), .int (Int32.ofNat (0))]), aJ ([.long (mkM (32)), .long (mkM (32)), .long (mkM (32)), .long (mkM (32)), .long (mkM (32))]), aJ ([.long 0, .long 0, .long 0]), aJ (List.set (List.set (List.set ([Value.long x0, Value.long x0, Value.long x0, Value.long x0, Value.long x0, Value.long x0]) sv (.long q0)) (sv + 1) (.long q1)) (sv + 2) (.long q2)), aJ ([.long q0, .long q1, .long q2, (.long 0)])]) 16 1096 := w
    refine s_dup (pc' := 208) w at_207 rfl rfl ?_
    refine s_iconst (pc' := 209) (3 : Int32) w at_208 (by decide) rfl ?_
    refine s_lload (pc' := 211) w at_209 rfl rfl ?_
    refine s_lastore (pc' := 212) (k := (N + 10)) w (lk_suf hN rfl) at_211 (by decide) (leB rfl) rfl ?_
    intro T w
    rw [set_suf hN] at w
    replace w : St p l e _ (s.setVm vm1) m _ below meth c Z _ _ _ _ h0 n0 T (Q ++ [o2 (.ref (n0 + (N + 1))) (.int 10) (.ref (n0 + (N + 2))) (.ref (n0 + (N + 3))) (.ref (n0 + (N + 4))) (.ref (n0 + (N + 5))) (.ref (n0 + (N + 6))) (.ref (n0 + (N + 7))) (.int 3) (.ref (n0 + (N + 8))), aJ ([]), aI (List.replicate 1024 (.int (-1))), aI ([]), aI ([.int (-2147483648), .int (-2147483648), .int (-2147483648), .int (-2147483648), .int (-2147483648)]), aI ([.int 0, .int 0, .int 1, .int 1, .int 2]), aI ([.int (Int32.ofNat (0)), .int (Int32.ofNat (32)), .int (Int32.ofNat (0)), .int (Int32.ofNat (32)), .int (Int32.ofNat (0))]), aJ ([.long (mkM (32)), .long (mkM (32)), .long (mkM (32)), .long (mkM (32)), .long (mkM (32))]), aJ ([.long 0, .long 0, .long 0]), aJ (List.set (List.set (List.set ([Value.long x0, Value.long x0, Value.long x0, Value.long x0, Value.long x0, Value.long x0]) sv (.long q0)) (sv + 1) (.long q1)) (sv + 2) (.long q2)), aJ ([.long q0, .long q1, .long q2, .long x1])]) 16 1096 := w
    refine s_astore (pc' := 214) (ls' := #[vJ q0, sc, vJ q1, sc, vJ q2, sc, vJ x0, sc, vJ x1, sc, vI sel, vI (3 : Int32), vI (Int32.ofNat sv), vR (n0 + 0), vR (n0 + 1), vR (n0 + (N + 0)), vR (n0 + (N + 9)), vR (n0 + (N + 10)), un, un, un, un, un, un, un, un, un, un, un]) w at_212 rfl rfl rfl ?_
    refine s_aload (pc' := 216) w at_214 rfl rfl rfl ?_
    refine s_aload (pc' := 218) w at_216 rfl rfl rfl ?_
    refine s_iload (pc' := 220) w at_218 rfl rfl ?_
    refine s_virtual (pc' := 223) (rest := []) 0 [(.ref (n0 + (N + 9))), (.int (Int32.ofNat sv))] w (c_hash3 hw l h0 n0 (n0 + (N + 0)) (n0 + (N + 9)) sv _ q0 q1 q2 _ _ (Lk.new (lk_suf hN rfl)) rfl (Lk.new (lk_suf hN rfl)) (by omega) (a_at3_0 hsv) (a_at3_1 hsv) (a_at3_2 hsv)) (Lk.new (lk_suf hN rfl)) (t185 hw) (t186 hw) (w.notFace (t188 hw)) (t188 hw) (t187 hw) (t93 hw) (t189 hw) (by decide) pd15 at_220 (by decide) rfl rfl rfl rfl (Nat.le_of_eq rfl) rfl ?_
    intro T v L' hQ w
    obtain ⟨rfl, hL⟩ := hQ
    replace hL := hL.symm
    subst hL
    dsimp only [oS, oN, cA, nA]
    refine s_istore (pc' := 225) (ls' := #[vJ q0, sc, vJ q1, sc, vJ q2, sc, vJ x0, sc, vJ x1, sc, vI sel, vI (3 : Int32), vI (Int32.ofNat sv), vR (n0 + 0), vR (n0 + 1), vR (n0 + (N + 0)), vR (n0 + (N + 9)), vR (n0 + (N + 10)), vI (hfin (hfold [q0, q1, q2])), un, un, un, un, un, un, un, un, un, un]) w at_223 rfl rfl ?_
    refine s_aload (pc' := 227) w at_225 rfl rfl rfl ?_
    refine s_aload (pc' := 229) w at_227 rfl rfl rfl ?_
    refine s_iconst (pc' := 230) (0 : Int32) w at_229 (by decide) rfl ?_
    refine s_virtual (pc' := 233) (rest := []) 0 [(.ref (n0 + (N + 10))), (.int (0 : Int32))] w (c_hash3 hw l h0 n0 (n0 + (N + 0)) (n0 + (N + 10)) 0 _ q0 q1 q2 _ _ (Lk.new (lk_suf hN rfl)) rfl (Lk.new (lk_suf hN rfl)) (by decide) rfl rfl rfl) (Lk.new (lk_suf hN rfl)) (t185 hw) (t186 hw) (w.notFace (t188 hw)) (t188 hw) (t187 hw) (t93 hw) (t189 hw) (by decide) pd15 at_230 (by decide) rfl rfl rfl rfl (Nat.le_of_eq rfl) rfl ?_
    intro T v L' hQ w
    obtain ⟨rfl, hL⟩ := hQ
    replace hL := hL.symm
    subst hL
    dsimp only [oS, oN, cA, nA]
    refine s_istore (pc' := 235) (ls' := #[vJ q0, sc, vJ q1, sc, vJ q2, sc, vJ x0, sc, vJ x1, sc, vI sel, vI (3 : Int32), vI (Int32.ofNat sv), vR (n0 + 0), vR (n0 + 1), vR (n0 + (N + 0)), vR (n0 + (N + 9)), vR (n0 + (N + 10)), vI (hfin (hfold [q0, q1, q2])), vI (hfin (hfold [q0, q1, q2])), un, un, un, un, un, un, un, un, un]) w at_233 rfl rfl ?_
    refine s_ldc2 (pc' := 238) w (t192 hw) at_235 rfl ?_
    refine s_lstore (pc' := 240) (ls' := #[vJ q0, sc, vJ q1, sc, vJ q2, sc, vJ x0, sc, vJ x1, sc, vI sel, vI (3 : Int32), vI (Int32.ofNat sv), vR (n0 + 0), vR (n0 + 1), vR (n0 + (N + 0)), vR (n0 + (N + 9)), vR (n0 + (N + 10)), vI (hfin (hfold [q0, q1, q2])), vI (hfin (hfold [q0, q1, q2])), vJ (-7046029254386353131 : Int64), sc, un, un, un, un, un, un, un]) w at_238 rfl rfl ?_
    refine s_lload (pc' := 242) w at_240 rfl rfl ?_
    refine s_lload (pc' := 244) w at_242 rfl rfl ?_
    refine s_lmul (pc' := 245) w at_244 rfl ?_
    refine s_lstore (pc' := 247) (ls' := #[vJ q0, sc, vJ q1, sc, vJ q2, sc, vJ x0, sc, vJ x1, sc, vI sel, vI (3 : Int32), vI (Int32.ofNat sv), vR (n0 + 0), vR (n0 + 1), vR (n0 + (N + 0)), vR (n0 + (N + 9)), vR (n0 + (N + 10)), vI (hfin (hfold [q0, q1, q2])), vI (hfin (hfold [q0, q1, q2])), vJ (-7046029254386353131 : Int64), sc, vJ ((-7046029254386353131 : Int64) * (-7046029254386353131 : Int64)), sc, un, un, un, un, un]) w at_245 rfl rfl ?_
    refine s_lload (pc' := 249) w at_247 rfl rfl ?_
    refine s_lload (pc' := 251) w at_249 rfl rfl ?_
    refine s_lmul (pc' := 252) w at_251 rfl ?_
    refine s_lstore (pc' := 254) (ls' := #[vJ q0, sc, vJ q1, sc, vJ q2, sc, vJ x0, sc, vJ x1, sc, vI sel, vI (3 : Int32), vI (Int32.ofNat sv), vR (n0 + 0), vR (n0 + 1), vR (n0 + (N + 0)), vR (n0 + (N + 9)), vR (n0 + (N + 10)), vI (hfin (hfold [q0, q1, q2])), vI (hfin (hfold [q0, q1, q2])), vJ (-7046029254386353131 : Int64), sc, vJ ((-7046029254386353131 : Int64) * (-7046029254386353131 : Int64)), sc, vJ (((-7046029254386353131 : Int64) * (-7046029254386353131 : Int64)) * (-7046029254386353131 : Int64)), sc, un, un, un]) w at_252 rfl rfl ?_
    refine s_iload (pc' := 256) w at_254 rfl rfl ?_
    refine s_iconst (pc' := 257) (1 : Int32) w at_256 (by decide) rfl ?_
    refine s_icmpY (pc' := 269) w at_257 (Jvm.Free.XT.ii_ne_t (by decide)) (by decide) (by decide) ?_
    refine s_iload (pc' := 271) w at_269 rfl rfl ?_
    refine s_iconst (pc' := 272) (2 : Int32) w at_271 (by decide) rfl ?_
    refine s_icmpY (pc' := 289) w at_272 (Jvm.Free.XT.ii_ne_t (by decide)) (by decide) (by decide) ?_
    refine s_lloadN (pc' := 290) w at_289 rfl rfl ?_
    refine s_lload (pc' := 292) w at_290 rfl rfl ?_
    refine s_lmul (pc' := 293) w at_292 rfl ?_
    refine s_lloadN (pc' := 294) w at_293 rfl rfl ?_
    refine s_lload (pc' := 296) w at_294 rfl rfl ?_
    refine s_lmul (pc' := 297) w at_296 rfl ?_
    refine s_ladd (pc' := 298) w at_297 rfl ?_
    refine s_lload (pc' := 300) w at_298 rfl rfl ?_
    refine s_lload (pc' := 302) w at_300 rfl rfl ?_
    refine s_lmul (pc' := 303) w at_302 rfl ?_
    refine s_ladd (pc' := 304) w at_303 rfl ?_
    refine s_lstore (pc' := 306) (ls' := #[vJ q0, sc, vJ q1, sc, vJ q2, sc, vJ x0, sc, vJ x1, sc, vI sel, vI (3 : Int32), vI (Int32.ofNat sv), vR (n0 + 0), vR (n0 + 1), vR (n0 + (N + 0)), vR (n0 + (N + 9)), vR (n0 + (N + 10)), vI (hfin (hfold [q0, q1, q2])), vI (hfin (hfold [q0, q1, q2])), vJ (-7046029254386353131 : Int64), sc, vJ ((-7046029254386353131 : Int64) * (-7046029254386353131 : Int64)), sc, vJ (((-7046029254386353131 : Int64) * (-7046029254386353131 : Int64)) * (-7046029254386353131 : Int64)), sc, vJ (((q0 * (((-7046029254386353131 : Int64) * (-7046029254386353131 : Int64)) * (-7046029254386353131 : Int64))) + (q1 * ((-7046029254386353131 : Int64) * (-7046029254386353131 : Int64)))) + (q2 * (-7046029254386353131 : Int64))), sc, un]) w at_304 rfl rfl ?_
    refine s_lload (pc' := 308) w at_306 rfl rfl ?_
    refine s_static (pc' := 311) (rest := []) 0 [(.long (((q0 * (((-7046029254386353131 : Int64) * (-7046029254386353131 : Int64)) * (-7046029254386353131 : Int64))) + (q1 * ((-7046029254386353131 : Int64) * (-7046029254386353131 : Int64)))) + (q2 * (-7046029254386353131 : Int64))))] w (c_fin hw l h0 n0 (((q0 * (((-7046029254386353131 : Int64) * (-7046029254386353131 : Int64)) * (-7046029254386353131 : Int64))) + (q1 * ((-7046029254386353131 : Int64) * (-7046029254386353131 : Int64)))) + (q2 * (-7046029254386353131 : Int64))) _) (t193 hw) (t194 hw) (t195 hw) (t196 hw) (by decide) pd8 at_308 (by decide) rfl rfl rfl rfl (Nat.le_of_eq rfl) rfl ?_
    intro T v L' hQ w
    obtain ⟨rfl, hL⟩ := hQ
    replace hL := hL.symm
    subst hL
    dsimp only [oS, oN, cA, nA]
    rw [← sum3 q0 q1 q2]
    refine s_istore (pc' := 313) (ls' := #[vJ q0, sc, vJ q1, sc, vJ q2, sc, vJ x0, sc, vJ x1, sc, vI sel, vI (3 : Int32), vI (Int32.ofNat sv), vR (n0 + 0), vR (n0 + 1), vR (n0 + (N + 0)), vR (n0 + (N + 9)), vR (n0 + (N + 10)), vI (hfin (hfold [q0, q1, q2])), vI (hfin (hfold [q0, q1, q2])), vJ (-7046029254386353131 : Int64), sc, vJ ((-7046029254386353131 : Int64) * (-7046029254386353131 : Int64)), sc, vJ (((-7046029254386353131 : Int64) * (-7046029254386353131 : Int64)) * (-7046029254386353131 : Int64)), sc, vJ (((q0 * (((-7046029254386353131 : Int64) * (-7046029254386353131 : Int64)) * (-7046029254386353131 : Int64))) + (q1 * ((-7046029254386353131 : Int64) * (-7046029254386353131 : Int64)))) + (q2 * (-7046029254386353131 : Int64))), sc, vI (hfin (hfold [q0, q1, q2]))]) w at_311 rfl rfl ?_
    refine s_iload (pc' := 315) w at_313 rfl rfl ?_
    refine s_iload (pc' := 317) w at_315 rfl rfl ?_
    refine s_icmpN (pc' := 320) w at_317 (Jvm.Free.XT.ii_ne_f rfl) rfl ?_
    refine s_iload (pc' := 322) w at_320 rfl rfl ?_
    refine s_iload (pc' := 324) w at_322 rfl rfl ?_
    refine s_icmpN (pc' := 327) w at_324 (Jvm.Free.XT.ii_ne_f rfl) rfl ?_
    refine s_iconst (pc' := 328) (1 : Int32) w at_327 (by decide) rfl ?_
    refine s_goto (pc' := 332) w at_328 (by decide) (by decide) ?_
    exact s_zreturnW rfl w hS1 (by rw [List.length_append, hN]; omega) at_332 (by decide) (by decide) rfl
set_option maxRecDepth 65536 in
set_option maxHeartbeats 40000000 in
theorem comes_1 {Post : Tables → Env → Array Value → State → Outcome → State → Prop} (hpost : ∀ tb e args s v u, (limb_1_1.after args s (.returned v) u = true ∧ limb_1_2.after args s (.returned v) u = true ∧ True) → ReturnedEndW s (.returned v) u (Jvm.fieldLocs frame_1_writes args s ++ Jvm.arrayLocs frame_1_arrays args s ++ Jvm.staticLocs frame_1_statics s) 40 3328 → Post tb e args s (.returned v) u) :
    ArmFor flags0 classFile x code maxLocals ret World_1 tables_1 room_1 Calls_1 rest_1 Pre_1 Post := by
  intro l hfl _ _ p e ha hc hk s m args below hf hA hF happ hP
  obtain ⟨hcalls, hrest, hpre⟩ := hP
  obtain ⟨-, -, -, hnamed, -, -, -, hat⟩ := (Spec.applies_iff hf).mp happ
  obtain ⟨hg, hn⟩ := and_e (Cond.before_iff.mp (show (Jvm.Cond.and given_1 narrow_1).before args s = true from hpre))
  obtain ⟨hct, hg⟩ := and_e hg
  obtain ⟨hv0, hg⟩ := and_e hg
  obtain ⟨hv1, hg⟩ := and_e hg
  obtain ⟨hv2, hg⟩ := and_e hg
  obtain ⟨hv3, hg⟩ := and_e hg
  obtain ⟨hv4, hg⟩ := and_e hg
  have hv5 := hg
  obtain ⟨w0, w1, w2, w3, w4, w5, rfl⟩ : ∃ w0 w1 w2 w3 w4 w5 : Value, args = #[w0, w1, w2, w3, w4, w5] := by
    have hs : args.size = 6 := by simpa [Cond.value, given_1] using hct
    obtain ⟨L⟩ := args
    match L, hs with
    | [w0, w1, w2, w3, w4, w5], _ => exact ⟨w0, w1, w2, w3, w4, w5, rfl⟩
  have hw : Tw s _ := fun d (hd : d ∈ tables_1) => atoms_spec (ws := Jvm.Cond.code x code maxLocals ret :: tables_1) hat d (List.mem_cons_of_mem _ hd)
  have hfit : Fit s := fun {y c} hc i hi => by
    obtain ⟨ha, rfl⟩ := Array.getElem?_eq_some_iff.mp hc
    have q := List.all_eq_true.mp ((Array.all_eq_true_iff_forall_mem.mp hF) _ (Array.getElem_mem ha)) i (List.mem_range.mpr hi)
    simpa [Array.getElem?_eq_getElem hi] using q
  obtain ⟨hsets, hown0⟩ := atoms_of _ (rest_1_c_eq ▸ (show rest_1_c.before _ s = true from hrest))
  obtain ⟨i0, ei0⟩ := isL_v hv0
  obtain rfl : w0 = (.long i0) := Option.some.inj ei0
  obtain ⟨i1, ei1⟩ := isL_v hv1
  obtain rfl : w1 = (.long i1) := Option.some.inj ei1
  obtain ⟨i2, ei2⟩ := isL_v hv2
  obtain rfl : w2 = (.long i2) := Option.some.inj ei2
  obtain ⟨i3, ei3⟩ := isL_v hv3
  obtain rfl : w3 = (.long i3) := Option.some.inj ei3
  obtain ⟨i4, ei4⟩ := isL_v hv4
  obtain rfl : w4 = (.long i4) := Option.some.inj ei4
  obtain ⟨i5, ei5⟩ := is_v hv5
  obtain rfl : w5 = (.int i5) := Option.some.inj ei5
  have hs2 := hsets _ (List.mem_of_getElem? (i := 2) rfl)
  have hs6 := Cond.before_iff.mp (hsets _ (List.mem_of_getElem? (i := 6) rfl))
  have hs8 := Cond.before_iff.mp (hsets _ (List.mem_of_getElem? (i := 8) rfl))
  obtain ⟨de, ede⟩ := arr_v hs6
  have SD : Sta s s.heap "java/util/ArrayList" "DEFAULTCAPACITY_EMPTY_ELEMENTDATA" "[Ljava/lang/Object;" (.ref de) := Sta.start ede (Or.inr ⟨hw _ (List.mem_of_getElem? (i := 2) rfl), hs2⟩)
  obtain ⟨dcl, AD⟩ := Arr.start ede hs6
  have hdcl := own_len0 ede (AD.fin (Vm.Alike.refl _)) hs8
  obtain ⟨n, o, h1, h2, h3, _, L, rfl, ⟨Ls', rfl, N, -⟩, hq⟩ := c_law hw l s.heap s.heap.size i0 i1 i2 i3 i4 i5 de dcl SD AD hdcl s.heap (Hp.start s s) p e ha hc hk s m _ below hf ((Spec.applies_iff_loose hf).mp happ).1 ⟨rfl, State.Warmed39.refl s, rfl⟩ trivial
  refine ⟨n, _, h1, h2, h3, hpost _ _ _ _ _ _ ⟨Cond.after_iff.mpr rfl, Cond.after_iff.mpr (eq_i res_at (Term.int_eval (1)) rfl), trivial⟩ ⟨hq.1, hq.2.1, hq.2.2.1, (hq.2.2.2.sift fun y hy => Or.inr (N y hy)).mono (by decide) (by decide)⟩⟩
theorem main_1_1 : Claimed_1_1 := comes_1 fun _ _ _ _ _ _ h hF => ⟨h.1, hF⟩
theorem main_1_2 : Claimed_1_2 := comes_1 fun _ _ _ _ _ _ h hF => ⟨h.2.1, hF⟩
end Jvm.Pilot.@@N@@
namespace Jvm.Pilot.@@N@@
open Jvm Jvm.ClassFile Sem Op Lib Jvm.Free Jvm.Stand Jvm.Pilot.@@N@@.Jvm.D
/-! MADE BY PROGRAM (witnessworld.py) out of the Statement's table words and the real class files: 34 classes; the members and pool entries that the words name. The judged class is class 1, her method 2. -/
namespace start1
open Jvm.ClassFile
def u (s : String) : CpInfo := .utf8 (stringToUtf16 s)
/-- a pool by its gaps: so many unusable entries, then the entry; so many at the end -/
def gap : Nat → List CpInfo → List CpInfo
  | 0, r => r
  | n + 1, r => .unusable :: gap n r
def poolList (es : List (Nat × CpInfo)) (last : Nat) : List CpInfo := es.foldr (fun e r => gap e.1 (e.2 :: r)) (gap last [])
def pool (es : List (Nat × CpInfo)) (last : Nat) : Array CpInfo := ⟨poolList es last⟩
def fileOf (pool : Array CpInfo) (this : Nat) (attrs : Array Attribute := #[]) (ms : Array MethodInfo := #[]) (fl : Nat := 33) (sup : Nat := 0) (ifs : Array Nat := #[]) (fds : Array FieldInfo := #[]) : ClassFile where
  minorVersion := 0
  majorVersion := 65
  constantPool := pool
  accessFlags := fl
  thisClass := this
  superClass := sup
  interfaces := ifs
  fields := fds
  methods := ms
  attributes := attrs
def plain (name : String) (sup : Option ClassId) : Class where
  name := name
  kind := .ordinary
  loader := none
  accessFlags := 33
  super := sup
  interfaces := #[]
  cf := none
  fields := #[]
  methods := #[]
  instanceTypes := #[]
  staticTypes := #[]
  resolved := #[]
  callSites := []
  init := .initialized
  statics := none
  mirror := none

def pool0 : Array CpInfo := pool [(5, u "<init>"), (0, u "()V"), (1, .class_ 10), (1, u "java/lang/Object")] 113

def k0c0 : Code := { maxStack := 0, maxLocals := 1, code := object_method_1_code, exceptionTable := #[], attributes := #[] }
def k0m0 : Method := { name := "<init>", desc := "()V", sig := { parameters := [], returnType := none }, accessFlags := 1, code := some k0c0 }
/-- java/lang/Object -/
def k0 : Class := { plain "java/lang/Object" none with
  accessFlags := 33
  interfaces := #[]
  cf := some (fileOf pool0 8 #[] #[{ accessFlags := 1, nameIndex := 5, descriptorIndex := 6, attributes := #[] }] 33 0 #[] #[])
  fields := #[]
  methods := #[k0m0]
  instanceTypes := #[]
  staticTypes := #[]
  resolved := Array.replicate 124 none
  statics := none }

def pool1 : Array CpInfo := pool [(2, .class_ 4), (0, .nameAndType 5 6), (0, u "java/lang/Object"), (0, u "<init>"), (0, u "()V"), (0, .long 13787848793156543929), (1, .class_ 10), (0, u "java/util/ArrayList"), (0, .methodref 9 3), (0, .class_ 13), (0, u "com/example/ryazan/ryazan/model/Model$Variable"), (0, .string 15), (0, u "v"), (2, .integer 2147483648), (0, .integer 2147483647), (0, .methodref 12 21), (0, .nameAndType 5 22), (0, u "(Ljava/lang/String;Lcom/example/ryazan/ryazan/lang/Type;IIILcom/example/ryazan/ryazan/lang/SourcePosition;)V"), (0, .methodref 9 24), (0, .nameAndType 25 26), (0, u "add"), (0, u "(Ljava/lang/Object;)Z"), (0, .class_ 28), (0, u "com/example/ryazan/ryazan/statespace/StateStore"), (0, .methodref 27 30), (0, .nameAndType 5 31), (0, u "(Ljava/util/List;)V"), (0, .methodref 27 33), (0, .nameAndType 34 35), (0, u "wordsPerState"), (0, u "()I"), (0, .methodref 27 37), (0, .nameAndType 38 39), (0, u "hash"), (0, u "([JI)I"), (0, .long 11400714819323198485), (1, .methodref 43 44), (0, .class_ 45), (0, .nameAndType 46 47), (0, u "com/example/ryazan/ryazan/statespace/StateStoreHashPinLaw"), (0, u "fin"), (0, u "(J)I"), (2, u "law"), (0, u "(JJJJJI)Z")] 9

def k1m0 : Method := { name := "<init>", desc := "()V", sig := { parameters := [], returnType := none }, accessFlags := 2, code := none }
def k1c1 : Code := { maxStack := 5, maxLocals := 4, code := method_2_code, exceptionTable := #[], attributes := #[] }
def k1m1 : Method := { name := "fin", desc := "(J)I", sig := { parameters := [.long], returnType := some .int }, accessFlags := 10, code := some k1c1 }
def k1c2 : Code := { maxStack := 8, maxLocals := 29, code := code, exceptionTable := #[], attributes := #[] }
def k1m2 : Method := { name := "law", desc := "(JJJJJI)Z", sig := { parameters := [.long, .long, .long, .long, .long, .int], returnType := some .boolean }, accessFlags := 9, code := some k1c2 }
/-- com/example/ryazan/ryazan/statespace/StateStoreHashPinLaw -/
def k1 : Class := { plain "com/example/ryazan/ryazan/statespace/StateStoreHashPinLaw" (some 0) with
  accessFlags := 49
  interfaces := #[]
  cf := some (fileOf pool1 43 #[] #[{ accessFlags := 2, nameIndex := 5, descriptorIndex := 6, attributes := #[] }, { accessFlags := 10, nameIndex := 46, descriptorIndex := 47, attributes := #[] }, { accessFlags := 9, nameIndex := 50, descriptorIndex := 51, attributes := #[] }] 49 2 #[] #[])
  fields := #[]
  methods := #[k1m0, k1m1, k1m2]
  instanceTypes := #[]
  staticTypes := #[]
  resolved := Array.replicate 61 none
  statics := none }

def pool2 : Array CpInfo := pool [(8, .class_ 10), (1, u "java/lang/Iterable"), (24, .class_ 36), (0, u "java/lang/Object")] 25

/-- java/lang/Iterable -/
def k2 : Class := { plain "java/lang/Iterable" (some 0) with
  accessFlags := 1537
  interfaces := #[]
  cf := some (fileOf pool2 8 #[] #[] 1537 35 #[] #[])
  fields := #[]
  methods := #[]
  instanceTypes := #[]
  staticTypes := #[]
  resolved := Array.replicate 62 none
  statics := none }

def pool3 : Array CpInfo := pool [(10, .class_ 12), (1, u "java/util/Collection"), (47, .class_ 61), (0, u "java/lang/Object"), (0, .class_ 63), (0, u "java/lang/Iterable")] 51

/-- java/util/Collection -/
def k3 : Class := { plain "java/util/Collection" (some 0) with
  accessFlags := 1537
  interfaces := #[2]
  cf := some (fileOf pool3 10 #[] #[] 1537 60 #[62] #[])
  fields := #[]
  methods := #[]
  instanceTypes := #[]
  staticTypes := #[]
  resolved := Array.replicate 115 none
  statics := none }

def pool4 : Array CpInfo := pool [(1, .methodref 2 3), (0, .class_ 4), (0, .nameAndType 5 6), (0, u "java/lang/Object"), (0, u "<init>"), (0, u "()V"), (1, .class_ 10), (1, u "java/util/AbstractCollection"), (66, .class_ 78), (0, u "java/util/Collection")] 81

def k4c0 : Code := { maxStack := 1, maxLocals := 1, code := jdk_22_method_1_code, exceptionTable := #[], attributes := #[] }
def k4m0 : Method := { name := "<init>", desc := "()V", sig := { parameters := [], returnType := none }, accessFlags := 4, code := some k4c0 }
/-- java/util/AbstractCollection -/
def k4 : Class := { plain "java/util/AbstractCollection" (some 0) with
  accessFlags := 1057
  interfaces := #[3]
  cf := some (fileOf pool4 8 #[] #[{ accessFlags := 4, nameIndex := 5, descriptorIndex := 6, attributes := #[] }] 1057 2 #[77] #[])
  fields := #[]
  methods := #[k4m0]
  instanceTypes := #[]
  staticTypes := #[]
  resolved := Array.replicate 160 none
  statics := none }

def pool5 : Array CpInfo := pool [(8, .class_ 10), (1, u "java/util/SequencedCollection"), (15, .class_ 27), (0, u "java/lang/Object"), (0, .class_ 29), (0, u "java/util/Collection")] 27

/-- java/util/SequencedCollection -/
def k5 : Class := { plain "java/util/SequencedCollection" (some 0) with
  accessFlags := 1537
  interfaces := #[3]
  cf := some (fileOf pool5 8 #[] #[] 1537 26 #[28] #[])
  fields := #[]
  methods := #[]
  instanceTypes := #[]
  staticTypes := #[]
  resolved := Array.replicate 57 none
  statics := none }

def pool6 : Array CpInfo := pool [(8, .class_ 10), (1, u "java/util/List"), (64, u "get"), (0, u "(I)Ljava/lang/Object;"), (2, u "size"), (0, u "()I"), (22, .class_ 104), (0, u "java/lang/Object"), (15, .class_ 121), (0, u "java/util/SequencedCollection")] 129

def k6m0 : Method := { name := "size", desc := "()I", sig := { parameters := [], returnType := some .int }, accessFlags := 1025, code := none }
def k6m1 : Method := { name := "get", desc := "(I)Ljava/lang/Object;", sig := { parameters := [.int], returnType := some (.object "java/lang/Object") }, accessFlags := 1025, code := none }
/-- java/util/List -/
def k6 : Class := { plain "java/util/List" (some 0) with
  accessFlags := 1537
  interfaces := #[5]
  cf := some (fileOf pool6 8 #[] #[{ accessFlags := 1025, nameIndex := 79, descriptorIndex := 80, attributes := #[] }, { accessFlags := 1025, nameIndex := 75, descriptorIndex := 76, attributes := #[] }] 1537 103 #[120] #[])
  fields := #[]
  methods := #[k6m0, k6m1]
  instanceTypes := #[]
  staticTypes := #[]
  resolved := Array.replicate 251 none
  statics := none }

def pool7 : Array CpInfo := pool [(1, .methodref 2 3), (0, .class_ 4), (0, .nameAndType 5 6), (0, u "java/util/AbstractCollection"), (0, u "<init>"), (0, u "()V"), (0, .fieldref 8 9), (0, .class_ 10), (0, .nameAndType 11 12), (0, u "java/util/AbstractList"), (0, u "modCount"), (0, u "I"), (64, .class_ 78), (0, u "java/util/AbstractList$Itr"), (3, .class_ 83), (0, u "java/util/AbstractList$ListItr"), (9, .class_ 94), (0, u "java/util/AbstractList$RandomAccessSubList"), (3, .class_ 99), (0, u "java/util/AbstractList$SubList"), (33, .class_ 134), (0, u "java/util/List"), (73, .class_ 209), (0, u "java/util/AbstractList$SubList$1"), (0, .class_ 211), (0, u "java/util/AbstractList$RandomAccessSpliterator")] 6

def k7c0 : Code := { maxStack := 2, maxLocals := 1, code := jdk_39_method_1_code, exceptionTable := #[], attributes := #[] }
def k7m0 : Method := { name := "<init>", desc := "()V", sig := { parameters := [], returnType := none }, accessFlags := 4, code := some k7c0 }
/-- java/util/AbstractList -/
def k7 : Class := { plain "java/util/AbstractList" (some 4) with
  accessFlags := 1057
  interfaces := #[6]
  cf := some (fileOf pool7 8 #[.nestMembers #[93, 98, 208, 210, 82, 77]] #[{ accessFlags := 4, nameIndex := 5, descriptorIndex := 6, attributes := #[] }] 1057 2 #[133] #[{ accessFlags := 132, nameIndex := 11, descriptorIndex := 12, attributes := #[] }])
  fields := #[{ name := "modCount", type := .int, accessFlags := 132, slot := 0, constantValue := 0 }]
  methods := #[k7m0]
  instanceTypes := #[.int]
  staticTypes := #[]
  resolved := Array.replicate 218 none
  statics := none }

def pool8 : Array CpInfo := pool [(1, .class_ 2), (0, u "java/util/RandomAccess"), (0, .class_ 4), (0, u "java/lang/Object")] 2

/-- java/util/RandomAccess -/
def k8 : Class := { plain "java/util/RandomAccess" (some 0) with
  accessFlags := 1537
  interfaces := #[]
  cf := some (fileOf pool8 1 #[] #[] 1537 3 #[] #[])
  fields := #[]
  methods := #[]
  instanceTypes := #[]
  staticTypes := #[]
  resolved := Array.replicate 7 none
  statics := none }

def pool9 : Array CpInfo := pool [(1, .class_ 2), (0, u "java/lang/Cloneable"), (0, .class_ 4), (0, u "java/lang/Object")] 2

/-- java/lang/Cloneable -/
def k9 : Class := { plain "java/lang/Cloneable" (some 0) with
  accessFlags := 1537
  interfaces := #[]
  cf := some (fileOf pool9 1 #[] #[] 1537 3 #[] #[])
  fields := #[]
  methods := #[]
  instanceTypes := #[]
  staticTypes := #[]
  resolved := Array.replicate 7 none
  statics := none }

def pool10 : Array CpInfo := pool [(1, .class_ 2), (0, u "java/io/Serializable"), (0, .class_ 4), (0, u "java/lang/Object")] 2

/-- java/io/Serializable -/
def k10 : Class := { plain "java/io/Serializable" (some 0) with
  accessFlags := 1537
  interfaces := #[]
  cf := some (fileOf pool10 1 #[] #[] 1537 3 #[] #[])
  fields := #[]
  methods := #[]
  instanceTypes := #[]
  staticTypes := #[]
  resolved := Array.replicate 7 none
  statics := none }

def pool11 : Array CpInfo := pool [(1, .methodref 2 3), (0, .class_ 4), (0, .nameAndType 5 6), (0, u "java/util/AbstractList"), (0, u "<init>"), (0, u "()V"), (0, .class_ 8), (0, u "java/lang/Object"), (0, .fieldref 10 11), (0, .class_ 12), (0, .nameAndType 13 14), (0, u "java/util/ArrayList"), (0, u "elementData"), (0, u "[Ljava/lang/Object;"), (2, u "EMPTY_ELEMENTDATA"), (21, .fieldref 10 40), (0, .nameAndType 41 14), (0, u "DEFAULTCAPACITY_EMPTY_ELEMENTDATA"), (5, u "()[Ljava/lang/Object;"), (0, .fieldref 10 49), (0, .nameAndType 50 51), (0, u "size"), (0, u "I"), (11, .fieldref 10 64), (0, .nameAndType 65 51), (0, u "modCount"), (3, .methodref 10 70), (0, .nameAndType 71 72), (0, u "grow"), (0, u "(I)[Ljava/lang/Object;"), (6, .methodref 80 81), (0, .class_ 82), (0, .nameAndType 83 84), (0, u "java/lang/Math"), (0, u "max"), (0, u "(II)I"), (11, u "(Ljava/lang/Object;)Z"), (21, .methodref 119 120), (0, .class_ 121), (0, .nameAndType 122 84), (0, u "java/util/Objects"), (0, u "checkIndex"), (0, .methodref 10 124), (0, .nameAndType 13 125), (0, u "(I)Ljava/lang/Object;"), (3, .methodref 10 130), (0, .nameAndType 71 47), (0, .methodref 10 132), (0, .nameAndType 133 134), (0, u "add"), (0, u "(Ljava/lang/Object;[Ljava/lang/Object;I)V"), (13, .class_ 149), (0, u "java/util/List"), (36, u "()I"), (75, .class_ 263), (0, u "java/util/ArrayList$ListItr"), (3, .class_ 268), (0, u "java/util/ArrayList$Itr"), (7, .class_ 277), (0, u "java/util/ArrayList$SubList"), (12, .class_ 291), (0, u "java/util/ArrayList$ArrayListSpliterator"), (37, .class_ 330), (0, u "java/util/RandomAccess"), (0, .class_ 332), (0, u "java/lang/Cloneable"), (0, .class_ 334), (0, u "java/io/Serializable"), (0, u "serialVersionUID"), (0, u "J"), (3, u "DEFAULT_CAPACITY"), (40, u "get"), (118, .class_ 501), (0, u "java/util/ArrayList$SubList$2"), (0, .class_ 503), (0, u "java/util/ArrayList$SubList$1")] 5

def k11c0 : Code := { maxStack := 2, maxLocals := 1, code := jdk_38_method_2_code, exceptionTable := #[], attributes := #[] }
def k11m0 : Method := { name := "<init>", desc := "()V", sig := { parameters := [], returnType := none }, accessFlags := 1, code := some k11c0 }
def k11c1 : Code := { maxStack := 4, maxLocals := 4, code := jdk_38_method_6_code, exceptionTable := #[], attributes := #[] }
def k11m1 : Method := { name := "grow", desc := "(I)[Ljava/lang/Object;", sig := { parameters := [.int], returnType := some (.array (.object "java/lang/Object")) }, accessFlags := 2, code := some k11c1 }
def k11c2 : Code := { maxStack := 3, maxLocals := 1, code := jdk_38_method_7_code, exceptionTable := #[], attributes := #[] }
def k11m2 : Method := { name := "grow", desc := "()[Ljava/lang/Object;", sig := { parameters := [], returnType := some (.array (.object "java/lang/Object")) }, accessFlags := 2, code := some k11c2 }
def k11c3 : Code := { maxStack := 1, maxLocals := 1, code := jdk_38_method_8_code, exceptionTable := #[], attributes := #[] }
def k11m3 : Method := { name := "size", desc := "()I", sig := { parameters := [], returnType := some .int }, accessFlags := 1, code := some k11c3 }
def k11c4 : Code := { maxStack := 2, maxLocals := 2, code := jdk_38_method_18_code, exceptionTable := #[], attributes := #[] }
def k11m4 : Method := { name := "elementData", desc := "(I)Ljava/lang/Object;", sig := { parameters := [.int], returnType := some (.object "java/lang/Object") }, accessFlags := 0, code := some k11c4 }
def k11c5 : Code := { maxStack := 2, maxLocals := 2, code := jdk_38_method_20_code, exceptionTable := #[], attributes := #[] }
def k11m5 : Method := { name := "get", desc := "(I)Ljava/lang/Object;", sig := { parameters := [.int], returnType := some (.object "java/lang/Object") }, accessFlags := 1, code := some k11c5 }
def k11c6 : Code := { maxStack := 3, maxLocals := 4, code := jdk_38_method_24_code, exceptionTable := #[], attributes := #[] }
def k11m6 : Method := { name := "add", desc := "(Ljava/lang/Object;[Ljava/lang/Object;I)V", sig := { parameters := [(.object "java/lang/Object"), (.array (.object "java/lang/Object")), .int], returnType := none }, accessFlags := 2, code := some k11c6 }
def k11c7 : Code := { maxStack := 4, maxLocals := 2, code := jdk_38_method_25_code, exceptionTable := #[], attributes := #[] }
def k11m7 : Method := { name := "add", desc := "(Ljava/lang/Object;)Z", sig := { parameters := [(.object "java/lang/Object")], returnType := some .boolean }, accessFlags := 1, code := some k11c7 }
/-- java/util/ArrayList -/
def k11 : Class := { plain "java/util/ArrayList" (some 7) with
  accessFlags := 33
  interfaces := #[6, 8, 9, 10]
  cf := some (fileOf pool11 10 #[.nestMembers #[290, 276, 500, 502, 262, 267]] #[{ accessFlags := 1, nameIndex := 5, descriptorIndex := 6, attributes := #[] }, { accessFlags := 2, nameIndex := 71, descriptorIndex := 72, attributes := #[] }, { accessFlags := 2, nameIndex := 71, descriptorIndex := 47, attributes := #[] }, { accessFlags := 1, nameIndex := 50, descriptorIndex := 186, attributes := #[] }, { accessFlags := 0, nameIndex := 13, descriptorIndex := 125, attributes := #[] }, { accessFlags := 1, nameIndex := 381, descriptorIndex := 125, attributes := #[] }, { accessFlags := 2, nameIndex := 133, descriptorIndex := 134, attributes := #[] }, { accessFlags := 1, nameIndex := 133, descriptorIndex := 96, attributes := #[] }] 33 2 #[148, 329, 331, 333] #[{ accessFlags := 26, nameIndex := 335, descriptorIndex := 336, attributes := #[] }, { accessFlags := 26, nameIndex := 340, descriptorIndex := 51, attributes := #[] }, { accessFlags := 26, nameIndex := 17, descriptorIndex := 14, attributes := #[] }, { accessFlags := 26, nameIndex := 41, descriptorIndex := 14, attributes := #[] }, { accessFlags := 128, nameIndex := 13, descriptorIndex := 14, attributes := #[] }, { accessFlags := 2, nameIndex := 50, descriptorIndex := 51, attributes := #[] }])
  fields := #[{ name := "serialVersionUID", type := .long, accessFlags := 26, slot := 0, constantValue := 0 }, { name := "DEFAULT_CAPACITY", type := .int, accessFlags := 26, slot := 1, constantValue := 0 }, { name := "EMPTY_ELEMENTDATA", type := (.array (.object "java/lang/Object")), accessFlags := 26, slot := 2, constantValue := 0 }, { name := "DEFAULTCAPACITY_EMPTY_ELEMENTDATA", type := (.array (.object "java/lang/Object")), accessFlags := 26, slot := 3, constantValue := 0 }, { name := "elementData", type := (.array (.object "java/lang/Object")), accessFlags := 128, slot := 1, constantValue := 0 }, { name := "size", type := .int, accessFlags := 2, slot := 2, constantValue := 0 }]
  methods := #[k11m0, k11m1, k11m2, k11m3, k11m4, k11m5, k11m6, k11m7]
  instanceTypes := #[.int, (.array (.object "java/lang/Object")), .int]
  staticTypes := #[.long, .int, (.array (.object "java/lang/Object")), (.array (.object "java/lang/Object"))]
  resolved := Array.replicate 509 none
  statics := some 0 }

def pool12 : Array CpInfo := pool [(1, .methodref 2 3), (0, .class_ 4), (0, .nameAndType 5 6), (0, u "java/lang/Object"), (0, u "<init>"), (0, u "()V"), (0, .class_ 8), (0, u "java/lang/Record")] 13

def k12c0 : Code := { maxStack := 1, maxLocals := 1, code := jdk_30_method_1_code, exceptionTable := #[], attributes := #[] }
def k12m0 : Method := { name := "<init>", desc := "()V", sig := { parameters := [], returnType := none }, accessFlags := 4, code := some k12c0 }
/-- java/lang/Record -/
def k12 : Class := { plain "java/lang/Record" (some 0) with
  accessFlags := 1057
  interfaces := #[]
  cf := some (fileOf pool12 7 #[] #[{ accessFlags := 4, nameIndex := 5, descriptorIndex := 6, attributes := #[] }] 1057 2 #[] #[])
  fields := #[]
  methods := #[k12m0]
  instanceTypes := #[]
  staticTypes := #[]
  resolved := Array.replicate 22 none
  statics := none }

def pool13 : Array CpInfo := pool [(1, .methodref 2 3), (0, .class_ 4), (0, .nameAndType 5 6), (0, u "java/lang/Record"), (0, u "<init>"), (0, u "()V"), (0, .fieldref 8 9), (0, .class_ 10), (0, .nameAndType 11 12), (0, u "com/example/ryazan/ryazan/model/Model$Variable"), (0, u "name"), (0, u "Ljava/lang/String;"), (0, .fieldref 8 14), (0, .nameAndType 15 16), (0, u "type"), (0, u "Lcom/example/ryazan/ryazan/lang/Type;"), (0, .fieldref 8 18), (0, .nameAndType 19 20), (0, u "low"), (0, u "I"), (0, .fieldref 8 22), (0, .nameAndType 23 20), (0, u "high"), (0, .fieldref 8 25), (0, .nameAndType 26 20), (0, u "initial"), (0, .fieldref 8 28), (0, .nameAndType 29 30), (0, u "position"), (0, u "Lcom/example/ryazan/ryazan/lang/SourcePosition;"), (42, u "()I"), (10, u "(Ljava/lang/String;Lcom/example/ryazan/ryazan/lang/Type;IIILcom/example/ryazan/ryazan/lang/SourcePosition;)V"), (12, .class_ 98), (0, u "com/example/ryazan/ryazan/model/Model")] 24

def k13c0 : Code := { maxStack := 2, maxLocals := 7, code := prog_172_method_1_code, exceptionTable := #[], attributes := #[] }
def k13m0 : Method := { name := "<init>", desc := "(Ljava/lang/String;Lcom/example/ryazan/ryazan/lang/Type;IIILcom/example/ryazan/ryazan/lang/SourcePosition;)V", sig := { parameters := [(.object "java/lang/String"), (.object "com/example/ryazan/ryazan/lang/Type"), .int, .int, .int, (.object "com/example/ryazan/ryazan/lang/SourcePosition")], returnType := none }, accessFlags := 1, code := some k13c0 }
def k13c1 : Code := { maxStack := 1, maxLocals := 1, code := prog_172_method_9_code, exceptionTable := #[], attributes := #[] }
def k13m1 : Method := { name := "low", desc := "()I", sig := { parameters := [], returnType := some .int }, accessFlags := 1, code := some k13c1 }
def k13c2 : Code := { maxStack := 1, maxLocals := 1, code := prog_172_method_10_code, exceptionTable := #[], attributes := #[] }
def k13m2 : Method := { name := "high", desc := "()I", sig := { parameters := [], returnType := some .int }, accessFlags := 1, code := some k13c2 }
/-- com/example/ryazan/ryazan/model/Model$Variable -/
def k13 : Class := { plain "com/example/ryazan/ryazan/model/Model$Variable" (some 12) with
  accessFlags := 49
  interfaces := #[]
  cf := some (fileOf pool13 8 #[.nestHost 97] #[{ accessFlags := 1, nameIndex := 5, descriptorIndex := 84, attributes := #[] }, { accessFlags := 1, nameIndex := 19, descriptorIndex := 73, attributes := #[] }, { accessFlags := 1, nameIndex := 23, descriptorIndex := 73, attributes := #[] }] 49 2 #[] #[{ accessFlags := 18, nameIndex := 11, descriptorIndex := 12, attributes := #[] }, { accessFlags := 18, nameIndex := 15, descriptorIndex := 16, attributes := #[] }, { accessFlags := 18, nameIndex := 19, descriptorIndex := 20, attributes := #[] }, { accessFlags := 18, nameIndex := 23, descriptorIndex := 20, attributes := #[] }, { accessFlags := 18, nameIndex := 26, descriptorIndex := 20, attributes := #[] }, { accessFlags := 18, nameIndex := 29, descriptorIndex := 30, attributes := #[] }])
  fields := #[{ name := "name", type := (.object "java/lang/String"), accessFlags := 18, slot := 0, constantValue := 0 }, { name := "type", type := (.object "com/example/ryazan/ryazan/lang/Type"), accessFlags := 18, slot := 1, constantValue := 0 }, { name := "low", type := .int, accessFlags := 18, slot := 2, constantValue := 0 }, { name := "high", type := .int, accessFlags := 18, slot := 3, constantValue := 0 }, { name := "initial", type := .int, accessFlags := 18, slot := 4, constantValue := 0 }, { name := "position", type := (.object "com/example/ryazan/ryazan/lang/SourcePosition"), accessFlags := 18, slot := 5, constantValue := 0 }]
  methods := #[k13m0, k13m1, k13m2]
  instanceTypes := #[(.object "java/lang/String"), (.object "com/example/ryazan/ryazan/lang/Type"), .int, .int, .int, (.object "com/example/ryazan/ryazan/lang/SourcePosition")]
  staticTypes := #[]
  resolved := Array.replicate 123 none
  statics := none }

def pool14 : Array CpInfo := pool [(1, .class_ 2), (0, u "java/lang/Comparable"), (0, .class_ 4), (0, u "java/lang/Object")] 7

/-- java/lang/Comparable -/
def k14 : Class := { plain "java/lang/Comparable" (some 0) with
  accessFlags := 1537
  interfaces := #[]
  cf := some (fileOf pool14 1 #[] #[] 1537 3 #[] #[])
  fields := #[]
  methods := #[]
  instanceTypes := #[]
  staticTypes := #[]
  resolved := Array.replicate 12 none
  statics := none }

def pool15 : Array CpInfo := pool [(2, .class_ 4), (1, u "java/lang/CharSequence"), (42, .class_ 48), (0, u "java/lang/CharSequence$1CodePointIterator"), (10, .class_ 60), (0, u "java/lang/CharSequence$1CharIterator"), (5, .class_ 67), (0, u "java/lang/Object")] 63

/-- java/lang/CharSequence -/
def k15 : Class := { plain "java/lang/CharSequence" (some 0) with
  accessFlags := 1537
  interfaces := #[]
  cf := some (fileOf pool15 2 #[.nestMembers #[47, 59]] #[] 1537 66 #[] #[])
  fields := #[]
  methods := #[]
  instanceTypes := #[]
  staticTypes := #[]
  resolved := Array.replicate 131 none
  statics := none }

def pool16 : Array CpInfo := pool [(1, .class_ 2), (0, u "java/lang/constant/Constable"), (0, .class_ 4), (0, u "java/lang/Object")] 6

/-- java/lang/constant/Constable -/
def k16 : Class := { plain "java/lang/constant/Constable" (some 0) with
  accessFlags := 1537
  interfaces := #[]
  cf := some (fileOf pool16 1 #[] #[] 1537 3 #[] #[])
  fields := #[]
  methods := #[]
  instanceTypes := #[]
  staticTypes := #[]
  resolved := Array.replicate 11 none
  statics := none }

def pool17 : Array CpInfo := pool [(1, .class_ 2), (0, u "java/lang/constant/ConstantDesc"), (0, .class_ 4), (0, u "java/lang/Object")] 32

/-- java/lang/constant/ConstantDesc -/
def k17 : Class := { plain "java/lang/constant/ConstantDesc" (some 0) with
  accessFlags := 1537
  interfaces := #[]
  cf := some (fileOf pool17 1 #[] #[] 1537 3 #[] #[])
  fields := #[]
  methods := #[]
  instanceTypes := #[]
  staticTypes := #[]
  resolved := Array.replicate 37 none
  statics := none }

def pool18 : Array CpInfo := pool [(2, .class_ 4), (1, u "java/lang/Object"), (0, u "<init>"), (0, u "()V"), (3, .class_ 12), (1, u "java/lang/String"), (0, u "value"), (0, u "[B"), (2, u "coder"), (0, u "B"), (2, u "hash"), (0, u "I"), (2, u "hashIsZero"), (0, u "Z"), (13, u "COMPACT_STRINGS"), (534, .class_ 576), (0, u "java/lang/CharSequence"), (22, u "CASE_INSENSITIVE_ORDER"), (0, u "Ljava/util/Comparator;"), (500, u "serialPersistentFields"), (0, u "[Ljava/io/ObjectStreamField;"), (0, .class_ 1104), (0, u "java/lang/String$CaseInsensitiveComparator"), (1, .class_ 1107), (0, u "java/io/Serializable"), (0, .class_ 1109), (0, u "java/lang/Comparable"), (0, .class_ 1111), (0, u "java/lang/constant/Constable"), (0, .class_ 1113), (0, u "java/lang/constant/ConstantDesc"), (2, u "serialVersionUID"), (0, u "J"), (3, u "REPL"), (0, u "C"), (2, u "LATIN1"), (1, u "UTF16")] 323

def k18m0 : Method := { name := "<init>", desc := "()V", sig := { parameters := [], returnType := none }, accessFlags := 1, code := none }
/-- java/lang/String -/
def k18 : Class := { plain "java/lang/String" (some 0) with
  accessFlags := 49
  interfaces := #[10, 14, 15, 16, 17]
  cf := some (fileOf pool18 10 #[.nestMembers #[1103]] #[{ accessFlags := 1, nameIndex := 5, descriptorIndex := 6, attributes := #[] }] 49 2 #[1106, 1108, 575, 1110, 1112] #[{ accessFlags := 18, nameIndex := 13, descriptorIndex := 14, attributes := #[] }, { accessFlags := 18, nameIndex := 17, descriptorIndex := 18, attributes := #[] }, { accessFlags := 2, nameIndex := 21, descriptorIndex := 22, attributes := #[] }, { accessFlags := 2, nameIndex := 25, descriptorIndex := 26, attributes := #[] }, { accessFlags := 26, nameIndex := 1116, descriptorIndex := 1117, attributes := #[] }, { accessFlags := 24, nameIndex := 40, descriptorIndex := 26, attributes := #[] }, { accessFlags := 26, nameIndex := 1101, descriptorIndex := 1102, attributes := #[] }, { accessFlags := 26, nameIndex := 1121, descriptorIndex := 1122, attributes := #[] }, { accessFlags := 25, nameIndex := 599, descriptorIndex := 600, attributes := #[] }, { accessFlags := 24, nameIndex := 1125, descriptorIndex := 18, attributes := #[] }, { accessFlags := 24, nameIndex := 1127, descriptorIndex := 18, attributes := #[] }])
  fields := #[{ name := "value", type := (.array .byte), accessFlags := 18, slot := 0, constantValue := 0 }, { name := "coder", type := .byte, accessFlags := 18, slot := 1, constantValue := 0 }, { name := "hash", type := .int, accessFlags := 2, slot := 2, constantValue := 0 }, { name := "hashIsZero", type := .boolean, accessFlags := 2, slot := 3, constantValue := 0 }, { name := "serialVersionUID", type := .long, accessFlags := 26, slot := 0, constantValue := 0 }, { name := "COMPACT_STRINGS", type := .boolean, accessFlags := 24, slot := 1, constantValue := 0 }, { name := "serialPersistentFields", type := (.array (.object "java/io/ObjectStreamField")), accessFlags := 26, slot := 2, constantValue := 0 }, { name := "REPL", type := .char, accessFlags := 26, slot := 3, constantValue := 0 }, { name := "CASE_INSENSITIVE_ORDER", type := (.object "java/util/Comparator"), accessFlags := 25, slot := 4, constantValue := 0 }, { name := "LATIN1", type := .byte, accessFlags := 24, slot := 5, constantValue := 0 }, { name := "UTF16", type := .byte, accessFlags := 24, slot := 6, constantValue := 0 }]
  methods := #[k18m0]
  instanceTypes := #[(.array .byte), .byte, .int, .boolean]
  staticTypes := #[.long, .boolean, (.array (.object "java/io/ObjectStreamField")), .char, (.object "java/util/Comparator"), .byte, .byte]
  resolved := Array.replicate 1451 none
  statics := none }

def pool19 : Array CpInfo := pool [(1, .class_ 2), (0, u "java/lang/Math"), (1, .class_ 6), (1, u "java/lang/Object"), (0, u "<init>"), (0, u "()V"), (89, .class_ 100), (1, u "java/lang/Math$RandomNumberGeneratorHolder"), (71, u "negativeZeroFloatBits"), (0, u "J"), (2, u "negativeZeroDoubleBits"), (21, u "max"), (46, u "$assertionsDisabled"), (0, u "Z"), (88, u "(II)I"), (2, u "twoToTheDoubleScaleDown"), (0, u "D"), (4, u "twoToTheDoubleScaleUp"), (9, u "E"), (3, u "PI"), (2, u "TAU"), (2, u "DEGREES_TO_RADIANS"), (0, u "RADIANS_TO_DEGREES"), (39, u "toIntExact"), (0, u "(J)I")] 53

def k19m0 : Method := { name := "<init>", desc := "()V", sig := { parameters := [], returnType := none }, accessFlags := 2, code := none }
def k19c1 : Code := { maxStack := 4, maxLocals := 2, code := jdk_29_method_43_code, exceptionTable := #[], attributes := #[] }
def k19m1 : Method := { name := "toIntExact", desc := "(J)I", sig := { parameters := [.long], returnType := some .int }, accessFlags := 9, code := some k19c1 }
def k19c2 : Code := { maxStack := 2, maxLocals := 2, code := jdk_29_method_65_code, exceptionTable := #[], attributes := #[] }
def k19m2 : Method := { name := "max", desc := "(II)I", sig := { parameters := [.int, .int], returnType := some .int }, accessFlags := 9, code := some k19c2 }
/-- java/lang/Math -/
def k19 : Class := { plain "java/lang/Math" (some 0) with
  accessFlags := 49
  interfaces := #[]
  cf := some (fileOf pool19 1 #[.nestMembers #[98]] #[{ accessFlags := 2, nameIndex := 7, descriptorIndex := 8, attributes := #[] }, { accessFlags := 9, nameIndex := 405, descriptorIndex := 406, attributes := #[] }, { accessFlags := 9, nameIndex := 198, descriptorIndex := 335, attributes := #[] }] 49 4 #[] #[{ accessFlags := 25, nameIndex := 354, descriptorIndex := 339, attributes := #[] }, { accessFlags := 25, nameIndex := 358, descriptorIndex := 339, attributes := #[] }, { accessFlags := 25, nameIndex := 361, descriptorIndex := 339, attributes := #[] }, { accessFlags := 26, nameIndex := 364, descriptorIndex := 339, attributes := #[] }, { accessFlags := 26, nameIndex := 365, descriptorIndex := 339, attributes := #[] }, { accessFlags := 26, nameIndex := 172, descriptorIndex := 173, attributes := #[] }, { accessFlags := 26, nameIndex := 176, descriptorIndex := 173, attributes := #[] }, { accessFlags := 8, nameIndex := 344, descriptorIndex := 339, attributes := #[] }, { accessFlags := 8, nameIndex := 338, descriptorIndex := 339, attributes := #[] }, { accessFlags := 4120, nameIndex := 245, descriptorIndex := 246, attributes := #[] }])
  fields := #[{ name := "E", type := .double, accessFlags := 25, slot := 0, constantValue := 0 }, { name := "PI", type := .double, accessFlags := 25, slot := 1, constantValue := 0 }, { name := "TAU", type := .double, accessFlags := 25, slot := 2, constantValue := 0 }, { name := "DEGREES_TO_RADIANS", type := .double, accessFlags := 26, slot := 3, constantValue := 0 }, { name := "RADIANS_TO_DEGREES", type := .double, accessFlags := 26, slot := 4, constantValue := 0 }, { name := "negativeZeroFloatBits", type := .long, accessFlags := 26, slot := 5, constantValue := 0 }, { name := "negativeZeroDoubleBits", type := .long, accessFlags := 26, slot := 6, constantValue := 0 }, { name := "twoToTheDoubleScaleUp", type := .double, accessFlags := 8, slot := 7, constantValue := 0 }, { name := "twoToTheDoubleScaleDown", type := .double, accessFlags := 8, slot := 8, constantValue := 0 }, { name := "$assertionsDisabled", type := .boolean, accessFlags := 4120, slot := 9, constantValue := 0 }]
  methods := #[k19m0, k19m1, k19m2]
  instanceTypes := #[]
  staticTypes := #[.double, .double, .double, .double, .double, .long, .long, .double, .double, .boolean]
  resolved := Array.replicate 460 none
  statics := none }

def pool20 : Array CpInfo := pool [(1, .methodref 2 3), (0, .class_ 4), (0, .nameAndType 5 6), (0, u "java/lang/Object"), (0, u "<init>"), (0, u "()V"), (0, .fieldref 8 9), (0, .class_ 10), (0, .nameAndType 11 12), (0, u "com/example/ryazan/ryazan/statespace/StateStore"), (0, u "packed"), (0, u "[J"), (0, .fieldref 8 14), (0, .nameAndType 15 16), (0, u "slotBits"), (0, u "I"), (0, .methodref 8 18), (0, .nameAndType 19 20), (0, u "emptyTable"), (0, u "(I)[I"), (0, .fieldref 8 22), (0, .nameAndType 23 24), (0, u "table"), (0, u "[I"), (0, .fieldref 8 26), (0, .nameAndType 27 24), (0, u "hashes"), (0, .interfaceMethodref 29 30), (0, .class_ 31), (0, .nameAndType 32 33), (0, u "java/util/List"), (0, u "size"), (0, u "()I"), (0, .fieldref 8 35), (0, .nameAndType 36 24), (0, u "lows"), (0, .fieldref 8 38), (0, .nameAndType 39 24), (0, u "words"), (0, .fieldref 8 41), (0, .nameAndType 42 24), (0, u "shifts"), (0, .fieldref 8 44), (0, .nameAndType 45 12), (0, u "masks"), (0, .interfaceMethodref 29 47), (0, .nameAndType 48 49), (0, u "get"), (0, u "(I)Ljava/lang/Object;"), (0, .class_ 51), (0, u "com/example/ryazan/ryazan/model/Model$Variable"), (0, .methodref 50 53), (0, .nameAndType 54 33), (0, u "high"), (0, .methodref 50 56), (0, .nameAndType 57 33), (0, u "low"), (0, .methodref 59 60), (0, .class_ 61), (0, .nameAndType 62 63), (0, u "java/lang/Long"), (0, u "numberOfLeadingZeros"), (0, u "(J)I"), (0, .fieldref 8 65), (0, .nameAndType 66 16), (0, u "wordsPerState"), (0, .fieldref 8 68), (0, .nameAndType 69 12), (0, u "key"), (11, u "hash"), (0, u "([JI)I"), (5, .class_ 90), (1, u "java/lang/Math"), (17, .class_ 110), (1, u "java/util/Arrays"), (15, u "fill"), (11, u "read"), (13, .methodref 88 153), (0, .nameAndType 154 63), (0, u "toIntExact"), (0, .methodref 108 156), (0, .nameAndType 126 157), (0, u "([II)V"), (0, .long 11400714819323198485), (1, .long 13787848793156543929), (1, u "EMPTY"), (2, u "FIRST_SLOT_BITS"), (1, u "(Ljava/util/List;)V")] 23

def k20c0 : Code := { maxStack := 6, maxLocals := 10, code := prog_197_method_1_code, exceptionTable := #[], attributes := #[] }
def k20m0 : Method := { name := "<init>", desc := "(Ljava/util/List;)V", sig := { parameters := [(.object "java/util/List")], returnType := none }, accessFlags := 0, code := some k20c0 }
def k20c1 : Code := { maxStack := 1, maxLocals := 1, code := prog_197_method_4_code, exceptionTable := #[], attributes := #[] }
def k20m1 : Method := { name := "wordsPerState", desc := "()I", sig := { parameters := [], returnType := some .int }, accessFlags := 0, code := some k20c1 }
def k20c2 : Code := { maxStack := 3, maxLocals := 2, code := prog_197_method_24_code, exceptionTable := #[], attributes := #[] }
def k20m2 : Method := { name := "emptyTable", desc := "(I)[I", sig := { parameters := [.int], returnType := some (.array .int) }, accessFlags := 10, code := some k20c2 }
def k20c3 : Code := { maxStack := 5, maxLocals := 6, code := prog_197_method_25_code, exceptionTable := #[], attributes := #[] }
def k20m3 : Method := { name := "hash", desc := "([JI)I", sig := { parameters := [(.array .long), .int], returnType := some .int }, accessFlags := 0, code := some k20c3 }
/-- com/example/ryazan/ryazan/statespace/StateStore -/
def k20 : Class := { plain "com/example/ryazan/ryazan/statespace/StateStore" (some 0) with
  accessFlags := 48
  interfaces := #[]
  cf := some (fileOf pool20 8 #[] #[{ accessFlags := 0, nameIndex := 5, descriptorIndex := 167, attributes := #[] }, { accessFlags := 0, nameIndex := 66, descriptorIndex := 33, attributes := #[] }, { accessFlags := 10, nameIndex := 19, descriptorIndex := 20, attributes := #[] }, { accessFlags := 0, nameIndex := 81, descriptorIndex := 82, attributes := #[] }] 48 2 #[] #[{ accessFlags := 26, nameIndex := 162, descriptorIndex := 16, attributes := #[] }, { accessFlags := 26, nameIndex := 165, descriptorIndex := 16, attributes := #[] }, { accessFlags := 18, nameIndex := 36, descriptorIndex := 24, attributes := #[] }, { accessFlags := 18, nameIndex := 39, descriptorIndex := 24, attributes := #[] }, { accessFlags := 18, nameIndex := 42, descriptorIndex := 24, attributes := #[] }, { accessFlags := 18, nameIndex := 45, descriptorIndex := 12, attributes := #[] }, { accessFlags := 18, nameIndex := 66, descriptorIndex := 16, attributes := #[] }, { accessFlags := 18, nameIndex := 69, descriptorIndex := 12, attributes := #[] }, { accessFlags := 2, nameIndex := 11, descriptorIndex := 12, attributes := #[] }, { accessFlags := 2, nameIndex := 15, descriptorIndex := 16, attributes := #[] }, { accessFlags := 2, nameIndex := 23, descriptorIndex := 24, attributes := #[] }, { accessFlags := 2, nameIndex := 32, descriptorIndex := 16, attributes := #[] }, { accessFlags := 2, nameIndex := 27, descriptorIndex := 24, attributes := #[] }, { accessFlags := 2, nameIndex := 138, descriptorIndex := 16, attributes := #[] }])
  fields := #[{ name := "EMPTY", type := .int, accessFlags := 26, slot := 0, constantValue := 0 }, { name := "FIRST_SLOT_BITS", type := .int, accessFlags := 26, slot := 1, constantValue := 0 }, { name := "lows", type := (.array .int), accessFlags := 18, slot := 0, constantValue := 0 }, { name := "words", type := (.array .int), accessFlags := 18, slot := 1, constantValue := 0 }, { name := "shifts", type := (.array .int), accessFlags := 18, slot := 2, constantValue := 0 }, { name := "masks", type := (.array .long), accessFlags := 18, slot := 3, constantValue := 0 }, { name := "wordsPerState", type := .int, accessFlags := 18, slot := 4, constantValue := 0 }, { name := "key", type := (.array .long), accessFlags := 18, slot := 5, constantValue := 0 }, { name := "packed", type := (.array .long), accessFlags := 2, slot := 6, constantValue := 0 }, { name := "slotBits", type := .int, accessFlags := 2, slot := 7, constantValue := 0 }, { name := "table", type := (.array .int), accessFlags := 2, slot := 8, constantValue := 0 }, { name := "size", type := .int, accessFlags := 2, slot := 9, constantValue := 0 }, { name := "hashes", type := (.array .int), accessFlags := 2, slot := 10, constantValue := 0 }, { name := "read", type := .int, accessFlags := 2, slot := 11, constantValue := 0 }]
  methods := #[k20m0, k20m1, k20m2, k20m3]
  instanceTypes := #[(.array .int), (.array .int), (.array .int), (.array .long), .int, (.array .long), (.array .long), .int, (.array .int), .int, (.array .int), .int]
  staticTypes := #[.int, .int]
  resolved := Array.replicate 191 none
  statics := none }

def pool21 : Array CpInfo := pool [(2, .class_ 4), (1, u "java/lang/Object"), (0, u "<init>"), (0, u "()V"), (7, .class_ 16), (1, u "java/util/Arrays"), (57, .class_ 76), (1, u "java/util/Arrays$NaturalOrder"), (36, .class_ 115), (1, u "java/util/Arrays$LegacyMergeSort"), (1, u "Z"), (257, .class_ 376), (0, u "java/util/Arrays$ArrayList"), (68, u "$assertionsDisabled"), (269, u "MIN_ARRAY_SORT_GRAN"), (0, u "I"), (2, u "INSERTIONSORT_THRESHOLD"), (120, u "fill"), (4, u "([II)V"), (129, .class_ 976), (0, u "java/util/Arrays$ArrayItr")] 52

def k21m0 : Method := { name := "<init>", desc := "()V", sig := { parameters := [], returnType := none }, accessFlags := 2, code := none }
def k21c1 : Code := { maxStack := 3, maxLocals := 4, code := jdk_65_method_103_code, exceptionTable := #[], attributes := #[] }
def k21m1 : Method := { name := "fill", desc := "([II)V", sig := { parameters := [(.array .int), .int], returnType := none }, accessFlags := 9, code := some k21c1 }
/-- java/util/Arrays -/
def k21 : Class := { plain "java/util/Arrays" (some 0) with
  accessFlags := 49
  interfaces := #[]
  cf := some (fileOf pool21 14 #[.nestMembers #[975, 375, 113, 74]] #[{ accessFlags := 2, nameIndex := 5, descriptorIndex := 6, attributes := #[] }, { accessFlags := 9, nameIndex := 840, descriptorIndex := 845, attributes := #[] }] 49 2 #[] #[{ accessFlags := 26, nameIndex := 715, descriptorIndex := 716, attributes := #[] }, { accessFlags := 26, nameIndex := 719, descriptorIndex := 716, attributes := #[] }, { accessFlags := 4120, nameIndex := 445, descriptorIndex := 117, attributes := #[] }])
  fields := #[{ name := "MIN_ARRAY_SORT_GRAN", type := .int, accessFlags := 26, slot := 0, constantValue := 0 }, { name := "INSERTIONSORT_THRESHOLD", type := .int, accessFlags := 26, slot := 1, constantValue := 0 }, { name := "$assertionsDisabled", type := .boolean, accessFlags := 4120, slot := 2, constantValue := 0 }]
  methods := #[k21m0, k21m1]
  instanceTypes := #[]
  staticTypes := #[.int, .int, .boolean]
  resolved := Array.replicate 1029 none
  statics := none }

def pool22 : Array CpInfo := pool [(2, .class_ 4), (1, u "java/lang/Object"), (0, u "<init>"), (0, u "()V"), (35, .class_ 44), (1, u "java/util/Objects"), (60, .methodref 106 107), (0, .class_ 108), (0, .nameAndType 109 110), (0, u "jdk/internal/util/Preconditions"), (0, u "checkIndex"), (0, u "(IILjava/util/function/BiFunction;)I"), (60, u "(II)I")] 12

def k22m0 : Method := { name := "<init>", desc := "()V", sig := { parameters := [], returnType := none }, accessFlags := 2, code := none }
def k22c1 : Code := { maxStack := 3, maxLocals := 2, code := jdk_31_method_17_code, exceptionTable := #[], attributes := #[] }
def k22m1 : Method := { name := "checkIndex", desc := "(II)I", sig := { parameters := [.int, .int], returnType := some .int }, accessFlags := 9, code := some k22c1 }
/-- java/util/Objects -/
def k22 : Class := { plain "java/util/Objects" (some 0) with
  accessFlags := 49
  interfaces := #[]
  cf := some (fileOf pool22 42 #[] #[{ accessFlags := 2, nameIndex := 5, descriptorIndex := 6, attributes := #[] }, { accessFlags := 9, nameIndex := 109, descriptorIndex := 171, attributes := #[] }] 49 2 #[] #[])
  fields := #[]
  methods := #[k22m0, k22m1]
  instanceTypes := #[]
  staticTypes := #[]
  resolved := Array.replicate 184 none
  statics := none }

def pool23 : Array CpInfo := pool [(2, .class_ 4), (1, u "java/lang/Object"), (0, u "<init>"), (0, u "()V"), (17, .class_ 26), (1, u "jdk/internal/util/Preconditions"), (6, u "checkIndex"), (21, .class_ 56), (0, u "jdk/internal/util/Preconditions$4"), (57, .class_ 115), (0, u "jdk/internal/util/Preconditions$1"), (7, u "SIOOBE_FORMATTER"), (0, u "Ljava/util/function/BiFunction;"), (0, .class_ 126), (0, u "jdk/internal/util/Preconditions$2"), (3, u "AIOOBE_FORMATTER"), (0, .class_ 132), (0, u "jdk/internal/util/Preconditions$3"), (3, u "IOOBE_FORMATTER"), (41, u "(IILjava/util/function/BiFunction;)I")] 15

def k23m0 : Method := { name := "<init>", desc := "()V", sig := { parameters := [], returnType := none }, accessFlags := 1, code := none }
def k23c1 : Code := { maxStack := 3, maxLocals := 3, code := jdk_41_method_11_code, exceptionTable := #[], attributes := #[] }
def k23m1 : Method := { name := "checkIndex", desc := "(IILjava/util/function/BiFunction;)I", sig := { parameters := [.int, .int, (.object "java/util/function/BiFunction")], returnType := some .int }, accessFlags := 9, code := some k23c1 }
/-- jdk/internal/util/Preconditions -/
def k23 : Class := { plain "jdk/internal/util/Preconditions" (some 0) with
  accessFlags := 33
  interfaces := #[]
  cf := some (fileOf pool23 24 #[.nestMembers #[55, 131, 125, 114]] #[{ accessFlags := 1, nameIndex := 5, descriptorIndex := 6, attributes := #[] }, { accessFlags := 9, nameIndex := 33, descriptorIndex := 178, attributes := #[] }] 33 2 #[] #[{ accessFlags := 25, nameIndex := 123, descriptorIndex := 124, attributes := #[] }, { accessFlags := 25, nameIndex := 130, descriptorIndex := 124, attributes := #[] }, { accessFlags := 25, nameIndex := 136, descriptorIndex := 124, attributes := #[] }])
  fields := #[{ name := "SIOOBE_FORMATTER", type := (.object "java/util/function/BiFunction"), accessFlags := 25, slot := 0, constantValue := 0 }, { name := "AIOOBE_FORMATTER", type := (.object "java/util/function/BiFunction"), accessFlags := 25, slot := 1, constantValue := 0 }, { name := "IOOBE_FORMATTER", type := (.object "java/util/function/BiFunction"), accessFlags := 25, slot := 2, constantValue := 0 }]
  methods := #[k23m0, k23m1]
  instanceTypes := #[]
  staticTypes := #[(.object "java/util/function/BiFunction"), (.object "java/util/function/BiFunction"), (.object "java/util/function/BiFunction")]
  resolved := Array.replicate 194 none
  statics := none }

def pool24 : Array CpInfo := pool [(2, .class_ 4), (1, u "java/lang/Object"), (0, u "<init>"), (0, u "()V"), (1, .class_ 10), (1, u "java/lang/Number"), (2, .class_ 14), (0, u "java/io/Serializable"), (0, u "serialVersionUID"), (0, u "J")] 20

def k24m0 : Method := { name := "<init>", desc := "()V", sig := { parameters := [], returnType := none }, accessFlags := 1, code := none }
/-- java/lang/Number -/
def k24 : Class := { plain "java/lang/Number" (some 0) with
  accessFlags := 1057
  interfaces := #[10]
  cf := some (fileOf pool24 8 #[] #[{ accessFlags := 1, nameIndex := 5, descriptorIndex := 6, attributes := #[] }] 1057 2 #[13] #[{ accessFlags := 26, nameIndex := 15, descriptorIndex := 16, attributes := #[] }])
  fields := #[{ name := "serialVersionUID", type := .long, accessFlags := 26, slot := 0, constantValue := 0 }]
  methods := #[k24m0]
  instanceTypes := #[]
  staticTypes := #[.long]
  resolved := Array.replicate 37 none
  statics := none }

def pool25 : Array CpInfo := pool [(1, .class_ 2), (0, u "java/lang/Long"), (15, .class_ 20), (1, u "java/lang/Integer"), (79, u "numberOfLeadingZeros"), (0, u "(J)I"), (133, .class_ 237), (1, u "java/lang/Long$LongCache"), (33, .class_ 272), (0, u "java/lang/Number"), (2, u "value"), (0, u "J"), (31, .methodref 18 309), (0, .nameAndType 100 310), (0, u "(I)I"), (50, u "TYPE"), (0, u "Ljava/lang/Class;"), (0, .class_ 364), (0, u "java/lang/Comparable"), (0, .class_ 366), (0, u "java/lang/constant/Constable"), (0, .class_ 368), (0, u "java/lang/constant/ConstantDesc"), (0, u "MIN_VALUE"), (1, u "MAX_VALUE"), (4, u "SIZE"), (0, u "I"), (1, u "BYTES"), (1, u "serialVersionUID")] 142

def k25c0 : Code := { maxStack := 3, maxLocals := 3, code := jdk_35_method_48_code, exceptionTable := #[], attributes := #[] }
def k25m0 : Method := { name := "numberOfLeadingZeros", desc := "(J)I", sig := { parameters := [.long], returnType := some .int }, accessFlags := 9, code := some k25c0 }
/-- java/lang/Long -/
def k25 : Class := { plain "java/lang/Long" (some 24) with
  accessFlags := 49
  interfaces := #[14, 16, 17]
  cf := some (fileOf pool25 1 #[.nestMembers #[235]] #[{ accessFlags := 9, nameIndex := 100, descriptorIndex := 101, attributes := #[] }] 49 271 #[363, 365, 367] #[{ accessFlags := 25, nameIndex := 369, descriptorIndex := 276, attributes := #[] }, { accessFlags := 25, nameIndex := 371, descriptorIndex := 276, attributes := #[] }, { accessFlags := 25, nameIndex := 361, descriptorIndex := 362, attributes := #[] }, { accessFlags := 18, nameIndex := 275, descriptorIndex := 276, attributes := #[] }, { accessFlags := 25, nameIndex := 376, descriptorIndex := 377, attributes := #[] }, { accessFlags := 25, nameIndex := 379, descriptorIndex := 377, attributes := #[] }, { accessFlags := 26, nameIndex := 381, descriptorIndex := 276, attributes := #[] }])
  fields := #[{ name := "MIN_VALUE", type := .long, accessFlags := 25, slot := 0, constantValue := 0 }, { name := "MAX_VALUE", type := .long, accessFlags := 25, slot := 1, constantValue := 0 }, { name := "TYPE", type := (.object "java/lang/Class"), accessFlags := 25, slot := 2, constantValue := 0 }, { name := "value", type := .long, accessFlags := 18, slot := 0, constantValue := 0 }, { name := "SIZE", type := .int, accessFlags := 25, slot := 3, constantValue := 0 }, { name := "BYTES", type := .int, accessFlags := 25, slot := 4, constantValue := 0 }, { name := "serialVersionUID", type := .long, accessFlags := 26, slot := 5, constantValue := 0 }]
  methods := #[k25m0]
  instanceTypes := #[.long]
  staticTypes := #[.long, .long, (.object "java/lang/Class"), .int, .int, .long]
  resolved := Array.replicate 524 none
  statics := none }

def pool26 : Array CpInfo := pool [(1, .class_ 2), (0, u "java/lang/Integer"), (16, u "digits"), (0, u "[C"), (32, u "numberOfLeadingZeros"), (0, u "(I)I"), (30, u "DigitOnes"), (0, u "[B"), (2, u "DigitTens"), (99, .class_ 190), (0, u "java/lang/Integer$IntegerCache"), (3, u "I"), (8, .class_ 204), (0, u "java/lang/Number"), (2, u "value"), (94, u "TYPE"), (0, u "Ljava/lang/Class;"), (0, .class_ 305), (0, u "java/lang/Comparable"), (0, .class_ 307), (0, u "java/lang/constant/Constable"), (0, .class_ 309), (0, u "java/lang/constant/ConstantDesc"), (0, u "MIN_VALUE"), (1, u "MAX_VALUE"), (3, u "SIZE"), (1, u "BYTES"), (1, u "serialVersionUID"), (0, u "J")] 131

def k26c0 : Code := { maxStack := 3, maxLocals := 2, code := jdk_33_method_47_code, exceptionTable := #[], attributes := #[] }
def k26m0 : Method := { name := "numberOfLeadingZeros", desc := "(I)I", sig := { parameters := [.int], returnType := some .int }, accessFlags := 9, code := some k26c0 }
/-- java/lang/Integer -/
def k26 : Class := { plain "java/lang/Integer" (some 24) with
  accessFlags := 49
  interfaces := #[14, 16, 17]
  cf := some (fileOf pool26 1 #[.nestMembers #[189]] #[{ accessFlags := 9, nameIndex := 53, descriptorIndex := 54, attributes := #[] }] 49 203 #[304, 306, 308] #[{ accessFlags := 25, nameIndex := 310, descriptorIndex := 194, attributes := #[] }, { accessFlags := 25, nameIndex := 312, descriptorIndex := 194, attributes := #[] }, { accessFlags := 25, nameIndex := 302, descriptorIndex := 303, attributes := #[] }, { accessFlags := 24, nameIndex := 19, descriptorIndex := 20, attributes := #[] }, { accessFlags := 24, nameIndex := 89, descriptorIndex := 86, attributes := #[] }, { accessFlags := 24, nameIndex := 85, descriptorIndex := 86, attributes := #[] }, { accessFlags := 18, nameIndex := 207, descriptorIndex := 194, attributes := #[] }, { accessFlags := 25, nameIndex := 316, descriptorIndex := 194, attributes := #[] }, { accessFlags := 25, nameIndex := 318, descriptorIndex := 194, attributes := #[] }, { accessFlags := 26, nameIndex := 320, descriptorIndex := 321, attributes := #[] }])
  fields := #[{ name := "MIN_VALUE", type := .int, accessFlags := 25, slot := 0, constantValue := 0 }, { name := "MAX_VALUE", type := .int, accessFlags := 25, slot := 1, constantValue := 0 }, { name := "TYPE", type := (.object "java/lang/Class"), accessFlags := 25, slot := 2, constantValue := 0 }, { name := "digits", type := (.array .char), accessFlags := 24, slot := 3, constantValue := 0 }, { name := "DigitTens", type := (.array .byte), accessFlags := 24, slot := 4, constantValue := 0 }, { name := "DigitOnes", type := (.array .byte), accessFlags := 24, slot := 5, constantValue := 0 }, { name := "value", type := .int, accessFlags := 18, slot := 0, constantValue := 0 }, { name := "SIZE", type := .int, accessFlags := 25, slot := 6, constantValue := 0 }, { name := "BYTES", type := .int, accessFlags := 25, slot := 7, constantValue := 0 }, { name := "serialVersionUID", type := .long, accessFlags := 26, slot := 8, constantValue := 0 }]
  methods := #[k26m0]
  instanceTypes := #[.int]
  staticTypes := #[.int, .int, (.object "java/lang/Class"), (.array .char), (.array .byte), (.array .byte), .int, .int, .long]
  resolved := Array.replicate 453 none
  statics := none }

/-- the primitive byte -/
def k27 : Class := { plain "byte" none with kind := .primitive 'B', accessFlags := 0x411 }
/-- [B -/
def k28 : Class := { plain "[B" (some 0) with kind := .array 27 .byte, interfaces := #[9, 10], accessFlags := 1041 }

/-- the primitive int -/
def k29 : Class := { plain "int" none with kind := .primitive 'I', accessFlags := 0x411 }
/-- [I -/
def k30 : Class := { plain "[I" (some 0) with kind := .array 29 .int, interfaces := #[9, 10], accessFlags := 1041 }

/-- the primitive long -/
def k31 : Class := { plain "long" none with kind := .primitive 'J', accessFlags := 0x411 }
/-- [J -/
def k32 : Class := { plain "[J" (some 0) with kind := .array 31 .long, interfaces := #[9, 10], accessFlags := 1041 }

/-- [Ljava/lang/Object; -/
def k33 : Class := { plain "[Ljava/lang/Object;" (some 0) with kind := .array 0 (.object "java/lang/Object"), interfaces := #[9, 10], accessFlags := 1041 }

def heap : Heap := #[{ cls := 11, slots := #[.long 0, .int 0, .ref 1, .ref 2], vm := .statics 11 },
  { cls := 33, slots := #[], vm := .none },
  { cls := 33, slots := #[], vm := .none }]
def classes : Array Class := #[k0, k1, k2, k3, k4, k5, k6, k7, k8, k9, k10, k11, k12, k13, k14, k15, k16, k17, k18, k19, k20, k21, k22, k23, k24, k25, k26, k27, k28, k29, k30, k31, k32, k33]
def interned : List (Array UInt16 × Addr) := []
def slotsUsed : Nat := 4
def theMethod : MethodId := ⟨1, 2⟩
def args0 : Array Value := #[.long 5, .long 6, .long 7, .long 1, .long 2, .int 3]
def aboutOver (below : List Frame) : State where
  vm := { classes := classes, interned := interned.toArray }
  heap := heap
  slotsUsed := slotsUsed
  threads := #[{ frames := .invoking theMethod args0 :: below }]
def below0 : List Frame := [.native { method := ⟨0, 0⟩, args := #[] }]
def about1 : State := aboutOver below0
def p0 : Program := .bare "" "" ""
def e0 : Env := launch0.env 0 0 0
theorem w_frames : about1.frames = Frame.invoking theMethod args0 :: below0 := rfl
set_option maxRecDepth 65536 in
theorem w_args : argsFit about1.vm theMethod args0 = true := by decide +kernel
set_option maxRecDepth 65536 in
theorem w_heap : heapFits about1 = true := by decide +kernel
set_option maxRecDepth 65536 in
theorem w_runnable : about1.curStatus? = some .runnable := by decide +kernel
set_option maxRecDepth 65536 in
theorem w_alone : about1.alone = true := by decide +kernel
set_option maxRecDepth 65536 in
theorem w_named : about1.methodNamed? x = some theMethod := by decide +kernel
set_option maxRecDepth 65536 in
theorem w_hears : about1.hears theMethod below0 = true := by decide +kernel
set_option maxRecDepth 65536 in
theorem w_ripe : about1.ripe theMethod args0 below0 = true := by decide +kernel
theorem w_running : about1.status = .running := rfl
set_option maxRecDepth 65536 in
theorem w_room : about1.hasRoom e0.platform room_1 = true :=
  launch0.hasRoom_least _ room_1 (by decide +kernel) (by decide +kernel) (by decide +kernel) (by decide +kernel) (by decide +kernel) (by decide +kernel)
theorem allAtoms_all (ts : List Jvm.Cond) (a : Array Jvm.Value) (st : Jvm.State) : (allAtoms ts).before a st = ts.all (fun c => c.before a st) := by
  induction ts with
  | nil => rfl
  | cons c t ih =>
    show (Jvm.Cond.and c (allAtoms t)).before a st = _
    rw [Jvm.Cond.before_and, ih, List.all_cons]
def words1 : List Jvm.Cond := Jvm.Cond.code x code maxLocals ret :: tables_1
/-- a 'code' word, met by the world's own term for the bytes: nothing is compared byte by byte -/
theorem code_word {y : MethodName} {bytes : ByteArray} {mx : Nat} {rt : Option FieldType} {a : Array Value} {s : State} {m : MethodId} {meth : Method} {c : Code} (h1 : s.methodNamed? y = some m) (h2 : s.vm.method? m = some meth) (h3 : meth.code = some c) (h4 : c.code = bytes)
    (h5 : (c.maxLocals == mx && c.exceptionTable.isEmpty && decide (c.maxStack ≤ mostOperands) && decide (meth.sig.returnType = rt) && !meth.locks && decide (parseMethodDescriptor y.desc = some meth.sig)) = true) : (Jvm.Cond.code y bytes mx rt).before a s = true := by
  simp only [Bool.and_eq_true, beq_iff_eq, Bool.not_eq_true', decide_eq_true_eq] at h5
  obtain ⟨⟨⟨⟨⟨g1, g2⟩, g3⟩, g4⟩, g5⟩, g6⟩ := h5
  simp [Cond.before, Cond.holds, Cond.value, h1, h2, h3, h4, g1, g2, g3, g4, g5, g6]
def isCode : Jvm.Cond → Bool
  | .code _ _ _ _ => true
  | _ => false
theorem all_split {L : List Jvm.Cond} {P : Jvm.Cond → Bool} (h1 : L.all (fun c => isCode c || P c) = true) (h2 : ∀ c ∈ L.filter isCode, P c = true) : L.all P = true := by
  refine List.all_eq_true.mpr fun c hc => ?_
  have h := List.all_eq_true.mp h1 c hc
  rcases Bool.eq_false_or_eq_true (isCode c) with hi | hi
  · exact h2 c (List.mem_filter.mpr ⟨hc, hi⟩)
  · simpa [hi] using h
set_option maxRecDepth 65536 in
theorem w_c0 : (Jvm.Cond.code x code maxLocals ret).before args0 about1 = true := code_word (m := ⟨1, 2⟩) (meth := k1m2) (c := k1c2) (by decide +kernel) rfl rfl rfl (by decide +kernel)
set_option maxRecDepth 65536 in
theorem w_c1 : (Jvm.Cond.code ({ cls := "java/util/ArrayList", name := "<init>", desc := "()V" } : Jvm.MethodName) jdk_38_method_2_code (1 : Nat) (Option.none : Option Jvm.ClassFile.FieldType)).before args0 about1 = true := code_word (m := ⟨11, 0⟩) (meth := k11m0) (c := k11c0) (by decide +kernel) rfl rfl rfl (by decide +kernel)
set_option maxRecDepth 65536 in
theorem w_c2 : (Jvm.Cond.code ({ cls := "java/util/AbstractList", name := "<init>", desc := "()V" } : Jvm.MethodName) jdk_39_method_1_code (1 : Nat) (Option.none : Option Jvm.ClassFile.FieldType)).before args0 about1 = true := code_word (m := ⟨7, 0⟩) (meth := k7m0) (c := k7c0) (by decide +kernel) rfl rfl rfl (by decide +kernel)
set_option maxRecDepth 65536 in
theorem w_c3 : (Jvm.Cond.code ({ cls := "java/util/AbstractCollection", name := "<init>", desc := "()V" } : Jvm.MethodName) jdk_22_method_1_code (1 : Nat) (Option.none : Option Jvm.ClassFile.FieldType)).before args0 about1 = true := code_word (m := ⟨4, 0⟩) (meth := k4m0) (c := k4c0) (by decide +kernel) rfl rfl rfl (by decide +kernel)
set_option maxRecDepth 65536 in
theorem w_c4 : (Jvm.Cond.code ({ cls := "java/lang/Object", name := "<init>", desc := "()V" } : Jvm.MethodName) object_method_1_code (1 : Nat) (Option.none : Option Jvm.ClassFile.FieldType)).before args0 about1 = true := code_word (m := ⟨0, 0⟩) (meth := k0m0) (c := k0c0) (by decide +kernel) rfl rfl rfl (by decide +kernel)
set_option maxRecDepth 65536 in
theorem w_c5 : (Jvm.Cond.code ({ cls := "com/example/ryazan/ryazan/model/Model$Variable", name := "<init>", desc := "(Ljava/lang/String;Lcom/example/ryazan/ryazan/lang/Type;IIILcom/example/ryazan/ryazan/lang/SourcePosition;)V" } : Jvm.MethodName) prog_172_method_1_code (7 : Nat) (Option.none : Option Jvm.ClassFile.FieldType)).before args0 about1 = true := code_word (m := ⟨13, 0⟩) (meth := k13m0) (c := k13c0) (by decide +kernel) rfl rfl rfl (by decide +kernel)
set_option maxRecDepth 65536 in
theorem w_c6 : (Jvm.Cond.code ({ cls := "java/lang/Record", name := "<init>", desc := "()V" } : Jvm.MethodName) jdk_30_method_1_code (1 : Nat) (Option.none : Option Jvm.ClassFile.FieldType)).before args0 about1 = true := code_word (m := ⟨12, 0⟩) (meth := k12m0) (c := k12c0) (by decide +kernel) rfl rfl rfl (by decide +kernel)
set_option maxRecDepth 65536 in
theorem w_c7 : (Jvm.Cond.code ({ cls := "java/util/ArrayList", name := "add", desc := "(Ljava/lang/Object;)Z" } : Jvm.MethodName) jdk_38_method_25_code (2 : Nat) (Option.some Jvm.ClassFile.FieldType.boolean)).before args0 about1 = true := code_word (m := ⟨11, 7⟩) (meth := k11m7) (c := k11c7) (by decide +kernel) rfl rfl rfl (by decide +kernel)
set_option maxRecDepth 65536 in
theorem w_c8 : (Jvm.Cond.code ({ cls := "java/util/ArrayList", name := "add", desc := "(Ljava/lang/Object;[Ljava/lang/Object;I)V" } : Jvm.MethodName) jdk_38_method_24_code (4 : Nat) (Option.none : Option Jvm.ClassFile.FieldType)).before args0 about1 = true := code_word (m := ⟨11, 6⟩) (meth := k11m6) (c := k11c6) (by decide +kernel) rfl rfl rfl (by decide +kernel)
set_option maxRecDepth 65536 in
theorem w_c9 : (Jvm.Cond.code ({ cls := "java/util/ArrayList", name := "grow", desc := "()[Ljava/lang/Object;" } : Jvm.MethodName) jdk_38_method_7_code (1 : Nat) (Option.some (Jvm.ClassFile.FieldType.array (Jvm.ClassFile.FieldType.object "java/lang/Object")))).before args0 about1 = true := code_word (m := ⟨11, 2⟩) (meth := k11m2) (c := k11c2) (by decide +kernel) rfl rfl rfl (by decide +kernel)
set_option maxRecDepth 65536 in
theorem w_c10 : (Jvm.Cond.code ({ cls := "java/util/ArrayList", name := "grow", desc := "(I)[Ljava/lang/Object;" } : Jvm.MethodName) jdk_38_method_6_code (4 : Nat) (Option.some (Jvm.ClassFile.FieldType.array (Jvm.ClassFile.FieldType.object "java/lang/Object")))).before args0 about1 = true := code_word (m := ⟨11, 1⟩) (meth := k11m1) (c := k11c1) (by decide +kernel) rfl rfl rfl (by decide +kernel)
set_option maxRecDepth 65536 in
theorem w_c11 : (Jvm.Cond.code ({ cls := "java/lang/Math", name := "max", desc := "(II)I" } : Jvm.MethodName) jdk_29_method_65_code (2 : Nat) (Option.some Jvm.ClassFile.FieldType.int)).before args0 about1 = true := code_word (m := ⟨19, 2⟩) (meth := k19m2) (c := k19c2) (by decide +kernel) rfl rfl rfl (by decide +kernel)
set_option maxRecDepth 65536 in
theorem w_c12 : (Jvm.Cond.code ({ cls := "com/example/ryazan/ryazan/statespace/StateStore", name := "<init>", desc := "(Ljava/util/List;)V" } : Jvm.MethodName) prog_197_method_1_code (10 : Nat) (Option.none : Option Jvm.ClassFile.FieldType)).before args0 about1 = true := code_word (m := ⟨20, 0⟩) (meth := k20m0) (c := k20c0) (by decide +kernel) rfl rfl rfl (by decide +kernel)
set_option maxRecDepth 65536 in
theorem w_c13 : (Jvm.Cond.code ({ cls := "com/example/ryazan/ryazan/statespace/StateStore", name := "emptyTable", desc := "(I)[I" } : Jvm.MethodName) prog_197_method_24_code (2 : Nat) (Option.some (Jvm.ClassFile.FieldType.array Jvm.ClassFile.FieldType.int))).before args0 about1 = true := code_word (m := ⟨20, 2⟩) (meth := k20m2) (c := k20c2) (by decide +kernel) rfl rfl rfl (by decide +kernel)
set_option maxRecDepth 65536 in
theorem w_c14 : (Jvm.Cond.code ({ cls := "java/lang/Math", name := "toIntExact", desc := "(J)I" } : Jvm.MethodName) jdk_29_method_43_code (2 : Nat) (Option.some Jvm.ClassFile.FieldType.int)).before args0 about1 = true := code_word (m := ⟨19, 1⟩) (meth := k19m1) (c := k19c1) (by decide +kernel) rfl rfl rfl (by decide +kernel)
set_option maxRecDepth 65536 in
theorem w_c15 : (Jvm.Cond.code ({ cls := "java/util/Arrays", name := "fill", desc := "([II)V" } : Jvm.MethodName) jdk_65_method_103_code (4 : Nat) (Option.none : Option Jvm.ClassFile.FieldType)).before args0 about1 = true := code_word (m := ⟨21, 1⟩) (meth := k21m1) (c := k21c1) (by decide +kernel) rfl rfl rfl (by decide +kernel)
set_option maxRecDepth 65536 in
theorem w_c16 : (Jvm.Cond.code ({ cls := "java/util/ArrayList", name := "size", desc := "()I" } : Jvm.MethodName) jdk_38_method_8_code (1 : Nat) (Option.some Jvm.ClassFile.FieldType.int)).before args0 about1 = true := code_word (m := ⟨11, 3⟩) (meth := k11m3) (c := k11c3) (by decide +kernel) rfl rfl rfl (by decide +kernel)
set_option maxRecDepth 65536 in
theorem w_c17 : (Jvm.Cond.code ({ cls := "java/util/ArrayList", name := "get", desc := "(I)Ljava/lang/Object;" } : Jvm.MethodName) jdk_38_method_20_code (2 : Nat) (Option.some (Jvm.ClassFile.FieldType.object "java/lang/Object"))).before args0 about1 = true := code_word (m := ⟨11, 5⟩) (meth := k11m5) (c := k11c5) (by decide +kernel) rfl rfl rfl (by decide +kernel)
set_option maxRecDepth 65536 in
theorem w_c18 : (Jvm.Cond.code ({ cls := "java/util/Objects", name := "checkIndex", desc := "(II)I" } : Jvm.MethodName) jdk_31_method_17_code (2 : Nat) (Option.some Jvm.ClassFile.FieldType.int)).before args0 about1 = true := code_word (m := ⟨22, 1⟩) (meth := k22m1) (c := k22c1) (by decide +kernel) rfl rfl rfl (by decide +kernel)
set_option maxRecDepth 65536 in
theorem w_c19 : (Jvm.Cond.code ({ cls := "jdk/internal/util/Preconditions", name := "checkIndex", desc := "(IILjava/util/function/BiFunction;)I" } : Jvm.MethodName) jdk_41_method_11_code (3 : Nat) (Option.some Jvm.ClassFile.FieldType.int)).before args0 about1 = true := code_word (m := ⟨23, 1⟩) (meth := k23m1) (c := k23c1) (by decide +kernel) rfl rfl rfl (by decide +kernel)
set_option maxRecDepth 65536 in
theorem w_c20 : (Jvm.Cond.code ({ cls := "java/util/ArrayList", name := "elementData", desc := "(I)Ljava/lang/Object;" } : Jvm.MethodName) jdk_38_method_18_code (2 : Nat) (Option.some (Jvm.ClassFile.FieldType.object "java/lang/Object"))).before args0 about1 = true := code_word (m := ⟨11, 4⟩) (meth := k11m4) (c := k11c4) (by decide +kernel) rfl rfl rfl (by decide +kernel)
set_option maxRecDepth 65536 in
theorem w_c21 : (Jvm.Cond.code ({ cls := "com/example/ryazan/ryazan/model/Model$Variable", name := "high", desc := "()I" } : Jvm.MethodName) prog_172_method_10_code (1 : Nat) (Option.some Jvm.ClassFile.FieldType.int)).before args0 about1 = true := code_word (m := ⟨13, 2⟩) (meth := k13m2) (c := k13c2) (by decide +kernel) rfl rfl rfl (by decide +kernel)
set_option maxRecDepth 65536 in
theorem w_c22 : (Jvm.Cond.code ({ cls := "com/example/ryazan/ryazan/model/Model$Variable", name := "low", desc := "()I" } : Jvm.MethodName) prog_172_method_9_code (1 : Nat) (Option.some Jvm.ClassFile.FieldType.int)).before args0 about1 = true := code_word (m := ⟨13, 1⟩) (meth := k13m1) (c := k13c1) (by decide +kernel) rfl rfl rfl (by decide +kernel)
set_option maxRecDepth 65536 in
theorem w_c23 : (Jvm.Cond.code ({ cls := "java/lang/Long", name := "numberOfLeadingZeros", desc := "(J)I" } : Jvm.MethodName) jdk_35_method_48_code (3 : Nat) (Option.some Jvm.ClassFile.FieldType.int)).before args0 about1 = true := code_word (m := ⟨25, 0⟩) (meth := k25m0) (c := k25c0) (by decide +kernel) rfl rfl rfl (by decide +kernel)
set_option maxRecDepth 65536 in
theorem w_c24 : (Jvm.Cond.code ({ cls := "java/lang/Integer", name := "numberOfLeadingZeros", desc := "(I)I" } : Jvm.MethodName) jdk_33_method_47_code (2 : Nat) (Option.some Jvm.ClassFile.FieldType.int)).before args0 about1 = true := code_word (m := ⟨26, 0⟩) (meth := k26m0) (c := k26c0) (by decide +kernel) rfl rfl rfl (by decide +kernel)
set_option maxRecDepth 65536 in
theorem w_c25 : (Jvm.Cond.code ({ cls := "com/example/ryazan/ryazan/statespace/StateStore", name := "wordsPerState", desc := "()I" } : Jvm.MethodName) prog_197_method_4_code (1 : Nat) (Option.some Jvm.ClassFile.FieldType.int)).before args0 about1 = true := code_word (m := ⟨20, 1⟩) (meth := k20m1) (c := k20c1) (by decide +kernel) rfl rfl rfl (by decide +kernel)
set_option maxRecDepth 65536 in
theorem w_c26 : (Jvm.Cond.code ({ cls := "com/example/ryazan/ryazan/statespace/StateStore", name := "hash", desc := "([JI)I" } : Jvm.MethodName) prog_197_method_25_code (6 : Nat) (Option.some Jvm.ClassFile.FieldType.int)).before args0 about1 = true := code_word (m := ⟨20, 3⟩) (meth := k20m3) (c := k20c3) (by decide +kernel) rfl rfl rfl (by decide +kernel)
set_option maxRecDepth 65536 in
theorem w_c27 : (Jvm.Cond.code ({ cls := "com/example/ryazan/ryazan/statespace/StateStoreHashPinLaw", name := "fin", desc := "(J)I" } : Jvm.MethodName) method_2_code (4 : Nat) (Option.some Jvm.ClassFile.FieldType.int)).before args0 about1 = true := code_word (m := ⟨1, 1⟩) (meth := k1m1) (c := k1c1) (by decide +kernel) rfl rfl rfl (by decide +kernel)
def codes1 : List Jvm.Cond := [Jvm.Cond.code x code maxLocals ret, Jvm.Cond.code ({ cls := "java/util/ArrayList", name := "<init>", desc := "()V" } : Jvm.MethodName) jdk_38_method_2_code (1 : Nat) (Option.none : Option Jvm.ClassFile.FieldType), Jvm.Cond.code ({ cls := "java/util/AbstractList", name := "<init>", desc := "()V" } : Jvm.MethodName) jdk_39_method_1_code (1 : Nat) (Option.none : Option Jvm.ClassFile.FieldType), Jvm.Cond.code ({ cls := "java/util/AbstractCollection", name := "<init>", desc := "()V" } : Jvm.MethodName) jdk_22_method_1_code (1 : Nat) (Option.none : Option Jvm.ClassFile.FieldType), Jvm.Cond.code ({ cls := "java/lang/Object", name := "<init>", desc := "()V" } : Jvm.MethodName) object_method_1_code (1 : Nat) (Option.none : Option Jvm.ClassFile.FieldType), Jvm.Cond.code ({ cls := "com/example/ryazan/ryazan/model/Model$Variable", name := "<init>", desc := "(Ljava/lang/String;Lcom/example/ryazan/ryazan/lang/Type;IIILcom/example/ryazan/ryazan/lang/SourcePosition;)V" } : Jvm.MethodName) prog_172_method_1_code (7 : Nat) (Option.none : Option Jvm.ClassFile.FieldType), Jvm.Cond.code ({ cls := "java/lang/Record", name := "<init>", desc := "()V" } : Jvm.MethodName) jdk_30_method_1_code (1 : Nat) (Option.none : Option Jvm.ClassFile.FieldType), Jvm.Cond.code ({ cls := "java/util/ArrayList", name := "add", desc := "(Ljava/lang/Object;)Z" } : Jvm.MethodName) jdk_38_method_25_code (2 : Nat) (Option.some Jvm.ClassFile.FieldType.boolean), Jvm.Cond.code ({ cls := "java/util/ArrayList", name := "add", desc := "(Ljava/lang/Object;[Ljava/lang/Object;I)V" } : Jvm.MethodName) jdk_38_method_24_code (4 : Nat) (Option.none : Option Jvm.ClassFile.FieldType), Jvm.Cond.code ({ cls := "java/util/ArrayList", name := "grow", desc := "()[Ljava/lang/Object;" } : Jvm.MethodName) jdk_38_method_7_code (1 : Nat) (Option.some (Jvm.ClassFile.FieldType.array (Jvm.ClassFile.FieldType.object "java/lang/Object"))), Jvm.Cond.code ({ cls := "java/util/ArrayList", name := "grow", desc := "(I)[Ljava/lang/Object;" } : Jvm.MethodName) jdk_38_method_6_code (4 : Nat) (Option.some (Jvm.ClassFile.FieldType.array (Jvm.ClassFile.FieldType.object "java/lang/Object"))), Jvm.Cond.code ({ cls := "java/lang/Math", name := "max", desc := "(II)I" } : Jvm.MethodName) jdk_29_method_65_code (2 : Nat) (Option.some Jvm.ClassFile.FieldType.int), Jvm.Cond.code ({ cls := "com/example/ryazan/ryazan/statespace/StateStore", name := "<init>", desc := "(Ljava/util/List;)V" } : Jvm.MethodName) prog_197_method_1_code (10 : Nat) (Option.none : Option Jvm.ClassFile.FieldType), Jvm.Cond.code ({ cls := "com/example/ryazan/ryazan/statespace/StateStore", name := "emptyTable", desc := "(I)[I" } : Jvm.MethodName) prog_197_method_24_code (2 : Nat) (Option.some (Jvm.ClassFile.FieldType.array Jvm.ClassFile.FieldType.int)), Jvm.Cond.code ({ cls := "java/lang/Math", name := "toIntExact", desc := "(J)I" } : Jvm.MethodName) jdk_29_method_43_code (2 : Nat) (Option.some Jvm.ClassFile.FieldType.int), Jvm.Cond.code ({ cls := "java/util/Arrays", name := "fill", desc := "([II)V" } : Jvm.MethodName) jdk_65_method_103_code (4 : Nat) (Option.none : Option Jvm.ClassFile.FieldType), Jvm.Cond.code ({ cls := "java/util/ArrayList", name := "size", desc := "()I" } : Jvm.MethodName) jdk_38_method_8_code (1 : Nat) (Option.some Jvm.ClassFile.FieldType.int), Jvm.Cond.code ({ cls := "java/util/ArrayList", name := "get", desc := "(I)Ljava/lang/Object;" } : Jvm.MethodName) jdk_38_method_20_code (2 : Nat) (Option.some (Jvm.ClassFile.FieldType.object "java/lang/Object")), Jvm.Cond.code ({ cls := "java/util/Objects", name := "checkIndex", desc := "(II)I" } : Jvm.MethodName) jdk_31_method_17_code (2 : Nat) (Option.some Jvm.ClassFile.FieldType.int), Jvm.Cond.code ({ cls := "jdk/internal/util/Preconditions", name := "checkIndex", desc := "(IILjava/util/function/BiFunction;)I" } : Jvm.MethodName) jdk_41_method_11_code (3 : Nat) (Option.some Jvm.ClassFile.FieldType.int), Jvm.Cond.code ({ cls := "java/util/ArrayList", name := "elementData", desc := "(I)Ljava/lang/Object;" } : Jvm.MethodName) jdk_38_method_18_code (2 : Nat) (Option.some (Jvm.ClassFile.FieldType.object "java/lang/Object")), Jvm.Cond.code ({ cls := "com/example/ryazan/ryazan/model/Model$Variable", name := "high", desc := "()I" } : Jvm.MethodName) prog_172_method_10_code (1 : Nat) (Option.some Jvm.ClassFile.FieldType.int), Jvm.Cond.code ({ cls := "com/example/ryazan/ryazan/model/Model$Variable", name := "low", desc := "()I" } : Jvm.MethodName) prog_172_method_9_code (1 : Nat) (Option.some Jvm.ClassFile.FieldType.int), Jvm.Cond.code ({ cls := "java/lang/Long", name := "numberOfLeadingZeros", desc := "(J)I" } : Jvm.MethodName) jdk_35_method_48_code (3 : Nat) (Option.some Jvm.ClassFile.FieldType.int), Jvm.Cond.code ({ cls := "java/lang/Integer", name := "numberOfLeadingZeros", desc := "(I)I" } : Jvm.MethodName) jdk_33_method_47_code (2 : Nat) (Option.some Jvm.ClassFile.FieldType.int), Jvm.Cond.code ({ cls := "com/example/ryazan/ryazan/statespace/StateStore", name := "wordsPerState", desc := "()I" } : Jvm.MethodName) prog_197_method_4_code (1 : Nat) (Option.some Jvm.ClassFile.FieldType.int), Jvm.Cond.code ({ cls := "com/example/ryazan/ryazan/statespace/StateStore", name := "hash", desc := "([JI)I" } : Jvm.MethodName) prog_197_method_25_code (6 : Nat) (Option.some Jvm.ClassFile.FieldType.int), Jvm.Cond.code ({ cls := "com/example/ryazan/ryazan/statespace/StateStoreHashPinLaw", name := "fin", desc := "(J)I" } : Jvm.MethodName) method_2_code (4 : Nat) (Option.some Jvm.ClassFile.FieldType.int)]
set_option maxRecDepth 65536 in
theorem codes_eq : words1.filter isCode = codes1 := rfl
theorem w_codes : ∀ c ∈ words1.filter isCode, c.before args0 about1 = true := by
  rw [codes_eq]
  intro c hc
  simp only [codes1, List.mem_cons, List.not_mem_nil, or_false] at hc
  rcases hc with rfl | rfl | rfl | rfl | rfl | rfl | rfl | rfl | rfl | rfl | rfl | rfl | rfl | rfl | rfl | rfl | rfl | rfl | rfl | rfl | rfl | rfl | rfl | rfl | rfl | rfl | rfl | rfl
  · exact w_c0
  · exact w_c1
  · exact w_c2
  · exact w_c3
  · exact w_c4
  · exact w_c5
  · exact w_c6
  · exact w_c7
  · exact w_c8
  · exact w_c9
  · exact w_c10
  · exact w_c11
  · exact w_c12
  · exact w_c13
  · exact w_c14
  · exact w_c15
  · exact w_c16
  · exact w_c17
  · exact w_c18
  · exact w_c19
  · exact w_c20
  · exact w_c21
  · exact w_c22
  · exact w_c23
  · exact w_c24
  · exact w_c25
  · exact w_c26
  · exact w_c27
set_option maxRecDepth 65536 in
theorem w_t1 : (words1.take 24).all (fun c => isCode c || c.before args0 about1) = true := by decide +kernel
set_option maxRecDepth 65536 in
theorem w_t2 : ((words1.drop 24).take 24).all (fun c => isCode c || c.before args0 about1) = true := by decide +kernel
set_option maxRecDepth 65536 in
theorem w_t3 : (((words1.drop 24).drop 24).take 24).all (fun c => isCode c || c.before args0 about1) = true := by decide +kernel
set_option maxRecDepth 65536 in
theorem w_t4 : ((((words1.drop 24).drop 24).drop 24).take 24).all (fun c => isCode c || c.before args0 about1) = true := by decide +kernel
set_option maxRecDepth 65536 in
theorem w_t5 : (((((words1.drop 24).drop 24).drop 24).drop 24).take 24).all (fun c => isCode c || c.before args0 about1) = true := by decide +kernel
set_option maxRecDepth 65536 in
theorem w_t6 : ((((((words1.drop 24).drop 24).drop 24).drop 24).drop 24).take 24).all (fun c => isCode c || c.before args0 about1) = true := by decide +kernel
set_option maxRecDepth 65536 in
theorem w_t7 : (((((((words1.drop 24).drop 24).drop 24).drop 24).drop 24).drop 24).take 24).all (fun c => isCode c || c.before args0 about1) = true := by decide +kernel
set_option maxRecDepth 65536 in
theorem w_t8 : ((((((((words1.drop 24).drop 24).drop 24).drop 24).drop 24).drop 24).drop 24).take 24).all (fun c => isCode c || c.before args0 about1) = true := by decide +kernel
set_option maxRecDepth 65536 in
theorem w_t9 : ((((((((words1.drop 24).drop 24).drop 24).drop 24).drop 24).drop 24).drop 24).drop 24).all (fun c => isCode c || c.before args0 about1) = true := by decide +kernel
theorem w_tables : (allAtoms (Jvm.Cond.code x code maxLocals ret :: tables_1)).before args0 about1 = true := by
  rw [allAtoms_all]
  show words1.all (fun c => c.before args0 about1) = true
  refine all_split ?_ w_codes
  rw [← List.take_append_drop 24 words1, List.all_append, w_t1, ← List.take_append_drop 24 (words1.drop 24), List.all_append, w_t2, ← List.take_append_drop 24 ((words1.drop 24).drop 24), List.all_append, w_t3, ← List.take_append_drop 24 (((words1.drop 24).drop 24).drop 24), List.all_append, w_t4, ← List.take_append_drop 24 ((((words1.drop 24).drop 24).drop 24).drop 24), List.all_append, w_t5, ← List.take_append_drop 24 (((((words1.drop 24).drop 24).drop 24).drop 24).drop 24), List.all_append, w_t6, ← List.take_append_drop 24 ((((((words1.drop 24).drop 24).drop 24).drop 24).drop 24).drop 24), List.all_append, w_t7, ← List.take_append_drop 24 (((((((words1.drop 24).drop 24).drop 24).drop 24).drop 24).drop 24).drop 24), List.all_append, w_t8, w_t9]
  rfl
set_option maxRecDepth 65536 in
theorem w_rest : rest_1_c.before args0 about1 = true := by decide +kernel
set_option maxRecDepth 65536 in
theorem w_case : (Jvm.Cond.and given_1 narrow_1).before args0 about1 = true := by decide +kernel
theorem w_applies : (headSpec (Jvm.Cond.code x code maxLocals ret :: tables_1) room_1).applies x e0.platform about1 = true :=
  (Spec.applies_iff w_frames).mpr ⟨w_running, w_runnable, w_alone, w_named, w_hears, w_ripe, w_room, w_tables⟩
theorem atStart : AtStart classFile x code maxLocals ret World_1 tables_1 room_1 Calls_1 rest_1 Pre_1 launch0 p0 e0 about1 theMethod args0 below0 :=
  ⟨lists_1, trivial, launch0.admits_env _ _ _, launch0.least_env, fairChoices_fair.cas, fairChoices_fair.clock, w_frames, w_args, w_heap, w_applies, trivial, w_rest, w_case⟩
end start1
theorem witness_1 : WitnessClaimed_1 := ⟨start1.p0, start1.e0, start1.about1, start1.theMethod, start1.args0, start1.below0, start1.atStart⟩
end Jvm.Pilot.@@N@@
