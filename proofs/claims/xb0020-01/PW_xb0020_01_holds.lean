import PyProof.Rows.All
import Wide.All
import OpenK.AllK
import Wide.FinOn
import Lean
import PySem.Challenge.RW_xb0020_01
set_option Elab.async false
set_option linter.unusedVariables false
set_option compiler.extract_closed false

section
set_option maxRecDepth 100000
open PySem PySem.Calls PyProof.Rows PySem.W PySem.Builtin PySem.Builtin.Str
namespace Mine

-- sums over Nat, written out: a bound from bounds, by coefficients
inductive Ln where
  | n (k : Nat)
  | v (i : Nat)
  | a (x y : Ln)
  | m (k : Nat) (x : Ln)
noncomputable def Ln.d (c : Nat → Nat) : Ln → Nat
  | .n k => k
  | .v i => c i
  | .a x y => x.d c + y.d c
  | .m k x => k * x.d c
noncomputable def vadd : List Nat → List Nat → List Nat
  | [], l => l
  | l, [] => l
  | x :: l, y :: r => (x + y) :: vadd l r
noncomputable def vone : Nat → List Nat
  | 0 => [1]
  | i + 1 => 0 :: vone i
noncomputable def Ln.co : Ln → List Nat
  | .n k => [k]
  | .v i => 0 :: vone i
  | .a x y => vadd x.co y.co
  | .m k x => x.co.map fun y => k * y
noncomputable def vle : List Nat → List Nat → Bool
  | [], _ => true
  | x :: l, [] => x.ble 0 && vle l []
  | x :: l, y :: r => x.ble y && vle l r
noncomputable def vev (c : Nat → Nat) : List Nat → Nat
  | [] => 0
  | x :: l => x * c 0 + vev (fun i => c (i + 1)) l
noncomputable def cz (c : Nat → Nat) : Nat → Nat
  | 0 => 1
  | i + 1 => c i
theorem vev_add : ∀ (l r : List Nat) (c : Nat → Nat), vev c (vadd l r) = vev c l + vev c r
  | [], r, c => (Nat.zero_add _).symm
  | x :: l, [], c => rfl
  | x :: l, y :: r, c => (congrArg ((x + y) * c 0 + ·) (vev_add l r _)).trans ((congrArg (· + _) (Nat.add_mul x y (c 0))).trans (Nat.add_add_add_comm _ _ _ _))
theorem vev_mul (k : Nat) : ∀ (l : List Nat) (c : Nat → Nat), vev c (l.map fun y => k * y) = k * vev c l
  | [], c => rfl
  | x :: l, c => (congrArg (k * x * c 0 + ·) (vev_mul k l _)).trans ((congrArg (· + _) (Nat.mul_assoc k x _)).trans (Nat.mul_add k _ _).symm)
theorem vev_one : ∀ (i : Nat) (c : Nat → Nat), vev c (vone i) = c i
  | 0, c => Nat.one_mul _
  | i + 1, c => (congrArg (· + _) (Nat.zero_mul _)).trans ((Nat.zero_add _).trans (vev_one i _))
theorem vev_le : ∀ (l r : List Nat) (c : Nat → Nat), vle l r = true → vev c l ≤ vev c r
  | [], r, c, _ => Nat.zero_le _
  | x :: l, [], c, h => by
    have h := (Bool.and_eq_true _ _).mp h
    have e : x = 0 := Nat.eq_zero_of_le_zero (Nat.le_of_ble_eq_true h.1)
    subst e
    exact Nat.add_le_add (Nat.le_of_eq (Nat.zero_mul _)) (vev_le l [] _ h.2)
  | x :: l, y :: r, c, h => by
    have h := (Bool.and_eq_true _ _).mp h
    exact Nat.add_le_add (Nat.mul_le_mul_right _ (Nat.le_of_ble_eq_true h.1)) (vev_le l r _ h.2)
theorem Ln.co_d (c : Nat → Nat) : ∀ e : Ln, vev (cz c) e.co = e.d c
  | .n k => Nat.mul_one k
  | .v i => (congrArg (· + _) (Nat.zero_mul _)).trans ((Nat.zero_add _).trans (vev_one i _))
  | .a x y => (vev_add _ _ _).trans (congr (congrArg (· + ·) (co_d c x)) (co_d c y))
  | .m k x => (vev_mul k _ _).trans (congrArg (k * ·) (co_d c x))
theorem le0 (c : Nat → Nat) (a b : Ln) (e : vle a.co b.co = true := by rfl) : a.d c ≤ b.d c := by
  rw [← a.co_d, ← b.co_d]; exact vev_le _ _ _ e
theorem le1 (c : Nat → Nat) (p q a b : Ln) (h : p.d c ≤ q.d c) (e : vle (Ln.a a q).co (Ln.a b p).co = true := by rfl) : a.d c ≤ b.d c := by
  have h1 : a.d c + q.d c ≤ b.d c + p.d c := le0 c (.a a q) (.a b p) e
  exact Nat.le_of_add_le_add_right (Nat.le_trans h1 (Nat.add_le_add_left h _))
theorem le2 (c : Nat → Nat) (p q r s a b : Ln) (h : p.d c ≤ q.d c) (h2 : r.d c ≤ s.d c) (e : vle (Ln.a a (.a q s)).co (Ln.a b (.a p r)).co = true := by rfl) : a.d c ≤ b.d c :=
  le1 c (.a p r) (.a q s) a b (Nat.add_le_add h h2) e
theorem le3 (c : Nat → Nat) (p q r s t u a b : Ln) (h : p.d c ≤ q.d c) (h2 : r.d c ≤ s.d c) (h3 : t.d c ≤ u.d c) (e : vle (Ln.a a (.a (.a q s) u)).co (Ln.a b (.a (.a p r) t)).co = true := by rfl) : a.d c ≤ b.d c :=
  le2 c (.a p r) (.a q s) t u a b (Nat.add_le_add h h2) h3 e
theorem le4 (c : Nat → Nat) (p q r s t u v w a b : Ln) (h : p.d c ≤ q.d c) (h2 : r.d c ≤ s.d c) (h3 : t.d c ≤ u.d c) (h4 : v.d c ≤ w.d c) (e : vle (Ln.a a (.a (.a (.a q s) u) w)).co (Ln.a b (.a (.a (.a p r) t) v)).co = true := by rfl) : a.d c ≤ b.d c :=
  le3 c (.a p r) (.a q s) t u v w a b (Nat.add_le_add h h2) h3 h4 e
theorem le5 (c : Nat → Nat) (p q r s t u v w x y a b : Ln) (h : p.d c ≤ q.d c) (h2 : r.d c ≤ s.d c) (h3 : t.d c ≤ u.d c) (h4 : v.d c ≤ w.d c) (h5 : x.d c ≤ y.d c) (e : vle (Ln.a a (.a (.a (.a (.a q s) u) w) y)).co (Ln.a b (.a (.a (.a (.a p r) t) v) x)).co = true := by rfl) : a.d c ≤ b.d c :=
  le4 c (.a p r) (.a q s) t u v w x y a b (Nat.add_le_add h h2) h3 h4 h5 e
noncomputable def c1 (a : Nat) (_ : Nat) : Nat := a
noncomputable def c2 (a b : Nat) (i : Nat) : Nat := match i with
  | 0 => a
  | _ + 1 => b
noncomputable def c3 (a b c : Nat) (i : Nat) : Nat := match i with
  | 0 => a
  | i + 1 => c2 b c i
noncomputable def c4 (a b c d : Nat) (i : Nat) : Nat := match i with
  | 0 => a
  | i + 1 => c3 b c d i
noncomputable def c5 (a b c d e : Nat) (i : Nat) : Nat := match i with
  | 0 => a
  | i + 1 => c4 b c d e i
noncomputable def c6 (a b c d e f : Nat) (i : Nat) : Nat := match i with
  | 0 => a
  | i + 1 => c5 b c d e f i
theorem no10 {P : Prop} (h : 1 ≤ 0) : P := (Nat.not_succ_le_zero 0 h).elim

end Mine
end

section
open PySem PySem.Calls PyProof.Rows PySem.W
namespace Mine

/-- clean values -/
inductive V where
  | none
  | bool (b : Bool)
  | int (i : Int)
  | str (s : Str)
  | tup (l : List V)
  | list (l : List V)
  | dict (l : List (Str × Int))
  | inst (c : Addr) (v : V)
  | glob (v : Value)

noncomputable abbrev FM := Addr → Option Obj

noncomputable abbrev lstO (xs : List Value) (n : Nat) : Obj := { cls := .type "list", dict := none, data := .seq xs.toArray n, slots := #[] }
noncomputable abbrev tupO (xs : List Value) (n : Nat) : Obj := { cls := .type "tuple", dict := none, data := .seq xs.toArray n, slots := #[] }
noncomputable abbrev insO (C dx : Addr) (sl : Array (Option Value)) : Obj := ⟨.ref C, some dx, .plain, sl⟩

/-- the grounds: the program, the world, the heap at the law's call -/
structure Gd where
  prog : Program
  w : World
  hB : Heap
  mg : Str → Option Value
  mb : Str → Option Value
  hmg : hB.Ns mainGlobals mg
  hmb : hB.Ns builtinsNs mb
  hbb : ∀ x : Str, x ≠ "__name__" → mb x = bootBuiltins x
  nolimit : hB.NoLimit
  nodigits : ∃ mc, hB.Ns cStatics mc ∧ mc "sys.int_max_str_digits" = none
  hsys : (hB.get? sysModules).isSome = true

inductive IntVals : List (Str × Int) → List (Str × Value) → Prop
  | nil : IntVals [] []
  | cons {k i t l kvs} : IntVals l kvs → IntVals ((k, i) :: l) ((k, .int i t) :: kvs)

mutual
inductive Real (g : Gd) (Φ : FM) : V → Value → Prop
  | none : Real g Φ .none .none
  | bool (b) : Real g Φ (.bool b) (.bool b)
  | int (i t) : Real g Φ (.int i) (.int i t)
  | str (s t) : Real g Φ (.str s) (.str s t)
  | glob (v) : Real g Φ (.glob v) v
  | tup {l a o xs n} : Φ a = some o → o.cls = .type "tuple" → o.data = .seq xs.toArray n → Reals g Φ l xs → Real g Φ (.tup l) (.ref a)
  | list {l a xs n} : Φ a = some (lstO xs n) → Reals g Φ l xs → Real g Φ (.list l) (.ref a)
  | dict {l a o kvs} : Φ a = some o → o.IsDictOf (strKind g.prog g.w) kvs → IntVals l kvs → (a == sysModules) = false → Real g Φ (.dict l) (.ref a)
  | inst {C v a dx sl hsh nm t x n} : Φ a = some (insO C dx sl) → Φ dx = some (dictOf [⟨hsh, .str nm t, x⟩] n) → nm = ("comp_select_list" : Str) → Real g Φ v x → Real g Φ (.inst C v) (.ref a)
inductive Reals (g : Gd) (Φ : FM) : List V → List Value → Prop
  | nil : Reals g Φ [] []
  | cons {v x l xs} : Real g Φ v x → Reals g Φ l xs → Reals g Φ (v :: l) (x :: xs)
end

noncomputable def FLe (Φ Φ' : FM) : Prop := ∀ a o, Φ a = some o → Φ' a = some o
theorem FLe.rfl' (Φ : FM) : FLe Φ Φ := fun _ _ h => h
theorem FLe.trans {Φ Φ' Φ'' : FM} (x : FLe Φ Φ') (y : FLe Φ' Φ'') : FLe Φ Φ'' := fun a o h => y a o (x a o h)

theorem Real.mono {g : Gd} {Φ Φ' : FM} (m : FLe Φ Φ') {v : V} {x : Value} (r : Real g Φ v x) : Real g Φ' v x :=
  Real.rec (motive_1 := fun v x _ => Real g Φ' v x) (motive_2 := fun l xs _ => Reals g Φ' l xs) .none .bool .int .str .glob (fun h c d _ r => .tup (m _ _ h) c d r) (fun h _ r => .list (m _ _ h) r) (fun h d i q => .dict (m _ _ h) d i q) (fun h1 h2 e _ r => .inst (m _ _ h1) (m _ _ h2) e r) .nil (fun _ _ h r => .cons h r) r
theorem Reals.uncons {g : Gd} {Φ : FM} {v : V} {l : List V} {xs : List Value} (h : Reals g Φ (v :: l) xs) : ∃ x r, xs = x :: r ∧ Real g Φ v x ∧ Reals g Φ l r := by
  cases h with
  | cons a b => exact ⟨_, _, rfl, a, b⟩
theorem Reals.unnil {g : Gd} {Φ : FM} {xs : List Value} (h : Reals g Φ [] xs) : xs = [] := by cases h; rfl
@[elab_as_elim] theorem Reals.on1 {g : Gd} {Φ : FM} {v : V} {xs : List Value} {P : List Value → Prop} (r : Reals g Φ [v] xs) (k : ∀ x, Real g Φ v x → P [x]) : P xs := by
  obtain ⟨x, xs, rfl, a, r⟩ := r.uncons
  rw [r.unnil]; exact k x a
@[elab_as_elim] theorem Reals.on2 {g : Gd} {Φ : FM} {v u : V} {xs : List Value} {P : List Value → Prop} (r : Reals g Φ [v, u] xs) (k : ∀ x y, Real g Φ v x → Real g Φ u y → P [x, y]) : P xs := by
  obtain ⟨x, xs, rfl, a, r⟩ := r.uncons
  exact r.on1 (P := fun l => P (x :: l)) fun y b => k x y a b
@[elab_as_elim] theorem Reals.on4 {g : Gd} {Φ : FM} {v u w t : V} {xs : List Value} {P : List Value → Prop} (r : Reals g Φ [v, u, w, t] xs) (k : ∀ x y z q, Real g Φ v x → Real g Φ u y → Real g Φ w z → Real g Φ t q → P [x, y, z, q]) : P xs := by
  obtain ⟨x, xs, rfl, a, r⟩ := r.uncons
  obtain ⟨y, xs, rfl, b, r⟩ := r.uncons
  exact r.on2 (P := fun l => P (x :: y :: l)) fun z q c d => k x y z q a b c d
theorem real_str {g : Gd} {Φ : FM} {k : Str} {x : Value} (r : Real g Φ (.str k) x) : ∃ t, x = .str k t := by cases r; exact ⟨_, rfl⟩
theorem real_int {g : Gd} {Φ : FM} {k : Int} {x : Value} (r : Real g Φ (.int k) x) : ∃ t, x = .int k t := by cases r; exact ⟨_, rfl⟩
@[elab_as_elim] theorem Real.onS {g : Gd} {Φ : FM} {a : Str} {x : Value} {P : Value → Prop} (r : Real g Φ (.str a) x) (k : ∀ t, P (.str a t)) : P x := by cases r; exact k _
@[elab_as_elim] theorem Real.onI {g : Gd} {Φ : FM} {a : Int} {x : Value} {P : Value → Prop} (r : Real g Φ (.int a) x) (k : ∀ t, P (.int a t)) : P x := by cases r; exact k _
@[elab_as_elim] theorem Real.onG {g : Gd} {Φ : FM} {a : Value} {x : Value} {P : Value → Prop} (r : Real g Φ (.glob a) x) (k : P a) : P x := by cases r; exact k
@[elab_as_elim] theorem Real.onL {g : Gd} {Φ : FM} {l : List V} {x : Value} {P : Value → Prop} (r : Real g Φ (.list l) x) (k : ∀ a xs n, Φ a = some (lstO xs n) → Reals g Φ l xs → P (.ref a)) : P x := by cases r with | list h r => exact k _ _ _ h r
@[elab_as_elim] theorem Real.onB {g : Gd} {Φ : FM} {b : Bool} {x : Value} {P : Value → Prop} (r : Real g Φ (.bool b) x) (k : P (.bool b)) : P x := by cases r; exact k
@[elab_as_elim] theorem Real.onT {g : Gd} {Φ : FM} {l : List V} {x : Value} {P : Value → Prop} (r : Real g Φ (.tup l) x) (k : ∀ a o xs n, Φ a = some o → o.cls = .type "tuple" → o.data = .seq xs.toArray n → Reals g Φ l xs → P (.ref a)) : P x := by cases r with | tup h c d r => exact k _ _ _ _ h c d r
@[elab_as_elim] theorem Real.onD {g : Gd} {Φ : FM} {l : List (Str × Int)} {x : Value} {P : Value → Prop} (r : Real g Φ (.dict l) x) (k : ∀ a o kvs, Φ a = some o → o.IsDictOf (strKind g.prog g.w) kvs → IntVals l kvs → (a == sysModules) = false → P (.ref a)) : P x := by cases r with | dict h d i q => exact k _ _ _ h d i q
theorem Reals.mono {g : Gd} {Φ Φ' : FM} (m : FLe Φ Φ') {v : List V} {x : List Value} (r : Reals g Φ v x) : Reals g Φ' v x := by
  induction v generalizing x with
  | nil => rw [r.unnil]; exact .nil
  | cons v l ih =>
    obtain ⟨x, xs, rfl, a, r⟩ := r.uncons
    exact .cons (a.mono m) (ih r)
theorem Reals.length {g : Gd} {Φ : FM} {l : List V} {xs : List Value} (r : Reals g Φ l xs) : xs.length = l.length := by
  induction l generalizing xs with
  | nil => rw [r.unnil]; rfl
  | cons v l ih =>
    obtain ⟨x, xs, rfl, _, r⟩ := r.uncons
    exact congrArg (· + 1) (ih r)
theorem Reals.get {g : Gd} {Φ : FM} {l : List V} {xs : List Value} (r : Reals g Φ l xs) {i : Nat} {v : V} (h : l[i]? = some v) : ∃ x, xs[i]? = some x ∧ Real g Φ v x := by
  induction l generalizing xs i with
  | nil => cases h
  | cons u l ih =>
    obtain ⟨x, xs, rfl, a, r⟩ := r.uncons
    cases i with
    | zero => exact ⟨x, rfl, Option.some.inj h ▸ a⟩
    | succ i => exact ih r h
theorem Reals.append {g : Gd} {Φ : FM} {l l' : List V} {xs xs' : List Value} (r : Reals g Φ l xs) (r' : Reals g Φ l' xs') : Reals g Φ (l ++ l') (xs ++ xs') := by
  induction l generalizing xs with
  | nil => rw [r.unnil]; exact r'
  | cons v l ih =>
    obtain ⟨x, xs, rfl, a, r⟩ := r.uncons
    exact .cons a (ih r)
theorem Reals.take {g : Gd} {Φ : FM} {l : List V} {xs : List Value} (r : Reals g Φ l xs) (n : Nat) : Reals g Φ (l.take n) (xs.take n) := by
  induction l generalizing xs n with
  | nil => rw [r.unnil, List.take_nil, List.take_nil]; exact .nil
  | cons v l ih =>
    obtain ⟨x, xs, rfl, a, r⟩ := r.uncons
    cases n with
    | zero => exact .nil
    | succ n => exact .cons a (ih r n)
theorem Reals.drop {g : Gd} {Φ : FM} {l : List V} {xs : List Value} (r : Reals g Φ l xs) (n : Nat) : Reals g Φ (l.drop n) (xs.drop n) := by
  induction l generalizing xs n with
  | nil => rw [r.unnil, List.drop_nil, List.drop_nil]; exact .nil
  | cons v l ih =>
    cases n with
    | zero => exact r
    | succ n =>
      obtain ⟨x, xs, rfl, a, r⟩ := r.uncons
      exact ih r n

/-- how a step may change heap and frozen part; W: addresses it may write, G: generators it may move -/
structure Tr (W : Addr → Prop) (G : Nat → Prop) (Φ : FM) (s : Shared) (Φ' : FM) (s' : Shared) : Prop where
  keep : ∀ a o, s.heap.get? a = some o → ¬ W a → s'.heap.get? a = some o
  mono : FLe Φ Φ'
  new : ∀ a o, Φ' a = some o → Φ a = some o ∨ s.heap.get? a = none ∨ W a
  held : ∀ a o, Φ' a = some o → s'.heap.get? a = some o
  gens : ∀ i st, ¬ G i → s.gens[i]? = some st → s'.gens[i]? = some st
  bare : AllBare s.gens → AllBare s'.gens
  os : s'.os = s.os

noncomputable abbrev no1 : Addr → Prop := fun _ => False
noncomputable abbrev Ext := Tr no1 no1

theorem Tr.refl {W G Φ s} (h : ∀ a o, Φ a = some o → s.heap.get? a = some o) : Tr W G Φ s Φ s :=
  ⟨fun _ _ h _ => h, .rfl' _, fun _ _ h => .inl h, h, fun _ _ _ h => h, id, rfl⟩
theorem Tr.mono_W {W W' G G' Φ s Φ' s'} (t : Tr W G Φ s Φ' s') (hW : ∀ a, W a → W' a) (hG : ∀ a, G a → G' a) : Tr W' G' Φ s Φ' s' :=
  ⟨fun a o h n => t.keep a o h fun q => n (hW a q), t.mono, fun a o h => (t.new a o h).imp id fun q => q.imp id (hW a), t.held, fun i st n h => t.gens i st (fun q => n (hG i q)) h, t.bare, t.os⟩
/-- the second step's writes are the first's or at new places -/
theorem Tr.trans {W G W' G' Φ s Φ' s' Φ'' s''} (t : Tr W G Φ s Φ' s') (u : Tr W' G' Φ' s' Φ'' s'')
    (hW : ∀ a, W' a → W a ∨ s.heap.get? a = none) (hG : ∀ a, G' a → G a ∨ s.gens[a]? = none) : Tr W G Φ s Φ'' s'' := by
  refine ⟨fun a o h n => u.keep a o (t.keep a o h n) fun q => (hW a q).elim n fun q => (by rw [q] at h; cases h), t.mono.trans u.mono, fun a o h => ?_, u.held,
    fun i st n h => u.gens i st (fun q => (hG i q).elim n fun q => (by rw [q] at h; cases h)) (t.gens i st n h), fun b => u.bare (t.bare b), u.os.trans t.os⟩
  rcases u.new a o h with q | q | q
  · exact t.new a o q
  · by_cases w : W a
    · exact .inr (.inr w)
    · refine .inr (.inl ?_)
      cases e : s.heap.get? a with
      | none => rfl
      | some o' => rw [t.keep a o' e w] at q; cases q
  · exact (hW a q).elim (fun q => .inr (.inr q)) fun q => .inr (.inl q)
theorem Tr.ext {W G Φ s Φ' s' Φ'' s''} (t : Tr W G Φ s Φ' s') (u : Ext Φ' s' Φ'' s'') : Tr W G Φ s Φ'' s'' := t.trans u (fun _ q => q.elim) fun _ q => q.elim
theorem Tr.of_ext {W G Φ s Φ' s'} (t : Ext Φ s Φ' s') : Tr W G Φ s Φ' s' := t.mono_W (fun _ q => q.elim) fun _ q => q.elim
theorem Tr.toks {W G Φ s Φ' s'} (t : Tr W G Φ s Φ' s') (k : Nat) : Tr W G Φ s Φ' { s' with toks := k } := ⟨t.keep, t.mono, t.new, t.held, t.gens, t.bare, t.os⟩
theorem Ext.kept {Φ s Φ' s'} (t : Ext Φ s Φ' s') : ∀ a o, s.heap.get? a = some o → s'.heap.get? a = some o := fun a o h => t.keep a o h id
theorem size_none (h : Heap) : h.get? h.objs.size = none := by
  cases e : h.get? h.objs.size with
  | none => rfl
  | some o => exact absurd (Heap.lt_size e) (Nat.lt_irrefl _)
theorem above_none {h : Heap} {a : Addr} (q : h.objs.size ≤ a) : h.get? a = none := by
  cases e : h.get? a with
  | none => rfl
  | some o => exact absurd (Heap.lt_size e) (Nat.not_lt.mpr q)

/-- Φ with one address more -/
noncomputable def FM.put (Φ : FM) (a : Addr) (o : Obj) : FM := fun b => if b = a then some o else Φ b
theorem FM.put_self (Φ : FM) (a : Addr) (o : Obj) : Φ.put a o a = some o := by simp [FM.put]
theorem FM.put_le {Φ : FM} {a : Addr} {o : Obj} (h : Φ a = none) : FLe Φ (Φ.put a o) := fun b o' e => by
  unfold FM.put
  by_cases q : b = a
  · subst q; rw [h] at e; cases e
  · simp [q, e]
theorem FM.put_cases {Φ : FM} {a b : Addr} {o o' : Obj} (h : Φ.put a o b = some o') : (b = a ∧ o = o') ∨ (b ≠ a ∧ Φ b = some o') := by
  unfold FM.put at h
  by_cases q : b = a
  · simp [q] at h; exact .inl ⟨q, h⟩
  · simp [q] at h; exact .inr ⟨q, h⟩

/-- the state's heap holds the frozen part, which holds the ground -/
structure Inv (g : Gd) (Φ : FM) (s : Shared) : Prop where
  sup : ∀ a o, g.hB.get? a = some o → Φ a = some o
  held : ∀ a o, Φ a = some o → s.heap.get? a = some o
theorem Inv.ext {g : Gd} {W G Φ s Φ' s'} (i : Inv g Φ s) (t : Tr W G Φ s Φ' s') : Inv g Φ' s' := ⟨fun a o h => t.mono a o (i.sup a o h), t.held⟩
theorem Inv.none {g : Gd} {Φ s} (i : Inv g Φ s) {a : Addr} (h : s.heap.get? a = none) : Φ a = none := by
  cases e : Φ a with
  | none => rfl
  | some o => rw [i.held a o e] at h; cases h
theorem Inv.base {g : Gd} {Φ s} (i : Inv g Φ s) : ∀ a o, g.hB.get? a = some o → s.heap.get? a = some o := fun a o h => i.held a o (i.sup a o h)
theorem Inv.tok {g : Gd} {Φ s} (i : Inv g Φ s) (k : Nat) : Inv g Φ { s with toks := k } := ⟨i.sup, i.held⟩

/-- an object that stands and may be frozen (it was new since the step's start, or among its own) -/
theorem Tr.freeze {g : Gd} {W G Φ s Φ' s' a o} (t : Tr W G Φ s Φ' s') (i : Inv g Φ' s') (h : s'.heap.get? a = some o) (hf : Φ' a = none) (hn : s.heap.get? a = none ∨ W a) : Tr W G Φ s (Φ'.put a o) s' := by
  refine ⟨t.keep, t.mono.trans (FM.put_le hf), fun b o' e => ?_, fun b o' e => ?_, t.gens, t.bare, t.os⟩
  · rcases FM.put_cases e with ⟨q, _⟩ | ⟨_, q⟩
    · rw [q]; exact .inr hn
    · exact t.new b o' q
  · rcases FM.put_cases e with ⟨q, r⟩ | ⟨_, q⟩
    · rw [q, ← r]; exact h
    · exact t.held b o' q
/-- a new object, not frozen -/
theorem Ext.push' {g : Gd} {Φ s} (i : Inv g Φ s) (o : Obj) (k : Nat) : Ext Φ s Φ { s with heap := s.heap.push o, toks := k } :=
  ⟨fun a o' h _ => Heap.get?_push_of_some _ h, .rfl' _, fun a o' h => .inl h, fun a o' h => Heap.get?_push_of_some _ (i.held a o' h), fun _ _ _ h => h, id, rfl⟩
/-- a new object, frozen -/
theorem Ext.push {g : Gd} {Φ s} (i : Inv g Φ s) (o : Obj) (hf : o.isFreed = false) (k : Nat) : Ext Φ s (Φ.put s.heap.objs.size o) { s with heap := s.heap.push o, toks := k } :=
  (Ext.push' i o k).freeze (i.ext (Ext.push' i o k)) (Heap.get?_push_size _ hf) (i.none (size_none _)) (.inl (size_none _))
theorem Ext.tok {g : Gd} {Φ s} (i : Inv g Φ s) (k : Nat) : Ext Φ s Φ { s with toks := k } := (Tr.refl i.held).toks k
/-- a heap that keeps what stood -/
theorem Ext.keeps {g : Gd} {Φ s} (i : Inv g Φ s) {h' : Heap} (hk : ∀ a o, s.heap.get? a = some o → h'.get? a = some o) (k : Nat) : Ext Φ s Φ { s with heap := h', toks := k } :=
  ⟨fun a o' h _ => hk a o' h, .rfl' _, fun a o' h => .inl h, fun a o' h => hk a o' (i.held a o' h), fun _ _ _ h => h, id, rfl⟩
/-- a heap that keeps what stood but for the places that may be written (none of them frozen) -/
theorem Tr.keeps {g : Gd} {W G Φ s} (i : Inv g Φ s) {h' : Heap} (hk : ∀ a o, ¬ W a → s.heap.get? a = some o → h'.get? a = some o) (hw : ∀ a, W a → Φ a = none) (k : Nat) : Tr W G Φ s Φ { s with heap := h', toks := k } :=
  ⟨fun a o' h n => hk a o' n h, .rfl' _, fun a o' h => .inl h, fun a o' h => hk a o' (fun q => by rw [hw a q] at h; cases h) (i.held a o' h), fun _ _ _ h => h, id, rfl⟩

noncomputable def AOk (d : Nat) (A : Around) : Prop := A.handled = none ∧ A.depth + d ≤ 990 ∧ A.units + 10 * d ≤ 9800
theorem AOk.room {d A} (h : AOk d A) : A.depth < recursionLimit := by have := h.2.1; show A.depth < 1000; exact le1 (c2 _ _) (.a (.v 0) (.v 1)) (.n 990) (.a (.v 0) (.n 1)) (.n 1000) this
theorem AOk.units {d A} (h : AOk d A) : A.units < cLine := by have := h.2.2; show A.units < 9900; exact le1 (c2 _ _) (.a (.v 0) (.m 10 (.v 1))) (.n 9800) (.a (.v 0) (.n 1)) (.n 9900) this
theorem AOk.in1 {d A} (h : AOk (d + 1) A) : AOk d A.in1 := ⟨h.1, by have := h.2.1; show A.depth + d ≤ 990; exact le1 (c2 _ _) (.a (.v 0) (.a (.v 1) (.n 1))) (.n 990) (.a (.v 0) (.v 1)) (.n 990) this, by have := h.2.2; show A.units + 1 + 10 * d ≤ 9800; exact le1 (c2 _ _) (.a (.v 0) (.m 10 (.a (.v 1) (.n 1)))) (.n 9800) (.a (.a (.v 0) (.n 1)) (.m 10 (.v 1))) (.n 9800) this⟩
theorem AOk.deeper {d A env} (h : AOk (d + 1) A) : AOk d (A.deeper env) := ⟨h.1, by have := h.2.1; show A.depth + 1 + d ≤ 990; exact le1 (c2 _ _) (.a (.v 0) (.a (.v 1) (.n 1))) (.n 990) (.a (.a (.v 0) (.n 1)) (.v 1)) (.n 990) this, by have := h.2.2; show A.units + 3 + 10 * d ≤ 9800; exact le1 (c2 _ _) (.a (.v 0) (.m 10 (.a (.v 1) (.n 1)))) (.n 9800) (.a (.a (.v 0) (.n 3)) (.m 10 (.v 1))) (.n 9800) this⟩
theorem AOk.le {d d' A} (h : AOk d A) (hd : d' ≤ d) : AOk d' A := ⟨h.1, by have := h.2.1; exact le2 (c3 _ _ _) (.v 0) (.v 1) (.a (.v 2) (.v 1)) (.n 990) (.a (.v 2) (.v 0)) (.n 990) hd this, by have := h.2.2; exact le2 (c3 _ _ _) (.m 10 (.v 0)) (.m 10 (.v 1)) (.a (.v 2) (.m 10 (.v 1))) (.n 9800) (.a (.v 2) (.m 10 (.v 0))) (.n 9800) (Nat.mul_le_mul_left 10 hd) this⟩
theorem mark_none (A : Around) : A.mark none = A := by cases A; rfl

inductive Slot where
  | val (v : V)
  | own (l : List V)
  | ownd (l : List (Str × Int))
noncomputable abbrev Sg := List (Str × Slot)

/-- where a name of a frame stands -/
noncomputable def Holds (env : Env) (h : Heap) (x : Str) (val : Value) : Prop :=
  (env.kindOf x = some .local ∧ ∃ m, h.Ns env.locals m ∧ m x = some val) ∨
  ((env.kindOf x = some .cell ∨ env.kindOf x = some .free) ∧ ∃ c, env.cells.lookup x = some c ∧ h.IsCell c (some val))
theorem Holds.keeps {env h h' x val} (H : Holds env h x val) (hk : ∀ a o, h.get? a = some o → h'.get? a = some o) : Holds env h' x val := by
  rcases H with ⟨a, m, n, e⟩ | ⟨a, c, e, q⟩
  · exact .inl ⟨a, m, n.keeps hk, e⟩
  · exact .inr ⟨a, c, e, q.keeps hk⟩

noncomputable def SReal (g : Gd) (Φ : FM) (h : Heap) : Slot → Value → Prop
  | .val v, x => Real g Φ v x
  | .own l, x => ∃ a xs n, x = .ref a ∧ Φ a = none ∧ h.get? a = some (lstO xs n) ∧ Reals g Φ l xs
  | .ownd l, x => ∃ a o kvs, x = .ref a ∧ Φ a = none ∧ h.get? a = some o ∧ o.IsDictOf (strKind g.prog g.w) kvs ∧ IntVals l kvs ∧ (a == sysModules) = false

structure EnvOk (env : Env) : Prop where
  fn : env.scope.kind = .function
  gl : env.globals = mainGlobals
  bi : env.builtins = builtinsNs

/-- the state as a reader sees it -/
structure Rd (g : Gd) (env : Env) (σ : Sg) (Φ : FM) (s : Shared) : Prop extends Inv g Φ s where
  ok : EnvOk env
  cs : ∀ x c, (x, c) ∈ env.cells → Φ c = none ∧ (∃ v, s.heap.IsCell c v)
  apart : env.cells.Pairwise fun x y => x.2 ≠ y.2
  vars : ∀ x sl, σ.lookup x = some sl → ∃ val, Holds env s.heap x val ∧ SReal g Φ s.heap sl val

theorem SReal.keeps {g Φ Φ' h h' sl x} (H : SReal g Φ h sl x) (m : FLe Φ Φ') (hk : ∀ a o, h.get? a = some o → h'.get? a = some o) (hn : ∀ a, Φ a = none → (h.get? a).isSome = true → Φ' a = none) : SReal g Φ' h' sl x := by
  cases sl with
  | val v => exact Real.mono m H
  | own l =>
    obtain ⟨a, xs, n, rfl, f, o, r⟩ := H
    exact ⟨a, xs, n, rfl, hn a f (by rw [o]; rfl), hk _ _ o, r.mono m⟩
  | ownd l =>
    obtain ⟨a, o, kvs, rfl, f, ho, r⟩ := H
    exact ⟨a, o, kvs, rfl, hn a f (by rw [ho]; rfl), hk _ _ ho, r⟩

theorem Tr.fresh {W G Φ s Φ' s'} (t : Tr W G Φ s Φ' s') : ∀ a, Φ a = none → (s.heap.get? a).isSome = true → ¬ W a → Φ' a = none := fun a f hs hw => by
  cases e : Φ' a with
  | none => rfl
  | some o =>
    rcases t.new a o e with q | q | q
    · rw [f] at q; cases q
    · rw [q] at hs; cases hs
    · exact (hw q).elim
theorem Ext.fresh {Φ s Φ' s'} (t : Ext Φ s Φ' s') : ∀ a, Φ a = none → (s.heap.get? a).isSome = true → Φ' a = none := fun a f hs => Tr.fresh t a f hs id
theorem Rd.ext {g env σ Φ s Φ' s'} (R : Rd g env σ Φ s) (t : Ext Φ s Φ' s') : Rd g env σ Φ' s' :=
  { toInv := R.toInv.ext t, ok := R.ok, apart := R.apart,
    cs := fun x c h => let ⟨f, v, o, ho, hd⟩ := R.cs x c h; ⟨t.fresh c f (by rw [ho]; rfl), v, o, t.kept c o ho, hd⟩,
    vars := fun x sl h => let ⟨v, H, S⟩ := R.vars x sl h; ⟨v, H.keeps t.kept, S.keeps t.mono t.kept t.fresh⟩ }

noncomputable abbrev bot : Value → Shared → Prop := fun _ _ => False

/-- what an expression's tree gives -/
inductive Post (g : Gd) (Φ : FM) (s : Shared) (K : V → Prop) (x : Value) (s' : Shared) : Prop
  | mk (Φ' : FM) (v : V) : Ext Φ s Φ' s' → Real g Φ' v x → K v → Post g Φ s K x s'
inductive PostL (g : Gd) (Φ : FM) (s : Shared) (K : List V → Prop) (xs : List Value) (s' : Shared) : Prop
  | mk (Φ' : FM) (vs : List V) : Ext Φ s Φ' s' → Reals g Φ' vs xs → K vs → PostL g Φ s K xs s'
inductive PostB (Φ : FM) (s : Shared) (K : Bool → Prop) (b : Bool) (s' : Shared) : Prop
  | mk (Φ' : FM) : Ext Φ s Φ' s' → K b → PostB Φ s K b s'
noncomputable def Wp (g : Gd) (A : Around) (t : Sem Value) (Φ : FM) (s : Shared) (K : V → Prop) : Prop := wpAny (model g.prog g.w) A t (Post g Φ s K) bot s

theorem Wp.after {g A t Φ s Φ₁ s₁ K} (h : Wp g A t Φ₁ s₁ K) (x : Ext Φ s Φ₁ s₁) : wpAny (model g.prog g.w) A t (Post g Φ s K) bot s₁ :=
  wpAny_mono h (fun _ _ ⟨Φ', v, e, r, k⟩ => ⟨Φ', v, Tr.ext x e, r, k⟩) fun _ _ f => f
theorem Wp.mono {g A t Φ s} {K K' : V → Prop} (h : Wp g A t Φ s K) (hk : ∀ v, K v → K' v) : Wp g A t Φ s K' :=
  wpAny_mono h (fun _ _ ⟨Φ', v, e, r, k⟩ => ⟨Φ', v, e, r, hk v k⟩) fun _ _ f => f

noncomputable def Ev (g : Gd) (d : Nat) (env : Env) (σ : Sg) (e : Expr) (K : V → Prop) : Prop :=
  ∀ A Φ s, AOk d A → Rd g env σ Φ s → Wp g A (eval e env) Φ s K
noncomputable def Evs (g : Gd) (d : Nat) (env : Env) (σ : Sg) (es : List Expr) (K : List V → Prop) : Prop :=
  ∀ A Φ s pos, AOk d A → Rd g env σ Φ s → wpAny (model g.prog g.w) A (spliced (backTo pos (starEach es env))) (PostL g Φ s K) bot s
/-- a test -/
noncomputable def Ts (g : Gd) (d : Nat) (env : Env) (σ : Sg) (e : Expr) (K : Bool → Prop) : Prop :=
  ∀ A Φ s, AOk d A → Rd g env σ Φ s → wpAny (model g.prog g.w) A (isTrue e env (eval e env)) (PostB Φ s K) bot s

noncomputable def BinOk (g : Gd) (d : Nat) (op : Operator) (a b : V) (K : V → Prop) : Prop :=
  ∀ A Φ s x y, AOk d A → Inv g Φ s → Real g Φ a x → Real g Φ b y → Wp g A (binaryOp op x y) Φ s K
noncomputable def CmpOk (g : Gd) (d : Nat) (op : CmpOp) (a b : V) (K : V → Prop) : Prop :=
  ∀ A Φ s x y, AOk d A → Inv g Φ s → Real g Φ a x → Real g Φ b y → Wp g A (compareOp op x y) Φ s K
noncomputable def UnOk (g : Gd) (d : Nat) (op : UnaryOp) (a : V) (K : V → Prop) : Prop :=
  ∀ A Φ s x, AOk d A → Inv g Φ s → Real g Φ a x → Wp g A (unaryOp op x) Φ s K
noncomputable def CallOk (g : Gd) (d : Nat) (f : Value) (vs : List V) (K : V → Prop) : Prop :=
  ∀ A Φ s xs, AOk d A → Inv g Φ s → Reals g Φ vs xs → Wp g A (call f xs) Φ s K
noncomputable def TrueOk (g : Gd) (d : Nat) (a : V) (K : Bool → Prop) : Prop :=
  ∀ A Φ s x, AOk d A → Inv g Φ s → Real g Φ a x → wpAny (model g.prog g.w) A (truthy x) (PostB Φ s K) bot s

section
variable {g : Gd} {d : Nat} {env : Env} {σ : Sg} {K : V → Prop}

theorem ev_int {i k pos} (h : K (.int i)) : Ev g d env σ (.Constant (.int i) k pos) K := fun A Φ s _ R =>
  wpAny_Constant_int ⟨Φ, _, .tok R.toInv _, .int _ _, h⟩
theorem ev_str {x k pos} (h : K (.str x)) : Ev g d env σ (.Constant (.str x) k pos) K := fun A Φ s _ R =>
  Calls.Constant_str ⟨Φ, _, .tok R.toInv _, .str _ _, h⟩
theorem ev_none {k pos} (h : K .none) : Ev g d env σ (.Constant .none k pos) K := fun A Φ s _ R Γ p _ =>
  ⟨Φ, _, .refl R.held, .none, h⟩
theorem ev_bool {b k pos} (h : K (.bool b)) : Ev g d env σ (.Constant (.bool b) k pos) K := fun A Φ s _ R Γ p _ =>
  ⟨Φ, _, .refl R.held, .bool b, h⟩

theorem Holds.load {h : Heap} {A : Around} {s : Shared} {x : Str} {pos : Pos} {val : Value} {Q : Value → Shared → Prop} {E : Value → Shared → Prop} {M : Model} (ok : EnvOk env) (H : Holds env s.heap x val) (q : Q val s)
    (hd : (x == ("__debug__" : Str)) = false) (hn : (x == ("__classdict__" : Str)) = false) : wpAny M A (eval (.Name x pos) env) Q E s := by
  rcases H with ⟨a, m, n, e⟩ | ⟨a | a, c, e, i⟩
  · exact wpAny_Name (wpAny_loadName_local ok.fn a n e q) hd
  · exact wpAny_Name (wpAny_loadName_cell ok.fn a e i q) hd
  · exact wpAny_Name (wpAny_loadName_free ok.fn a e i q hn) hd

theorem ev_var {x pos v} (hv : σ.lookup x = some (.val v)) (h : K v) (hd : (x == ("__debug__" : Str)) = false := by decide) (hn : (x == ("__classdict__" : Str)) = false := by decide) :
    Ev g d env σ (.Name x pos) K := fun A Φ s _ R => by
  obtain ⟨val, H, S⟩ := R.vars x _ hv
  exact Holds.load (h := s.heap) R.ok H ⟨Φ, v, .refl R.held, S, h⟩ hd hn
/-- a global name of the text's own -/
theorem ev_glob {x pos v} (hk : env.kindOf x = some .globalImplicit) (hv : g.mg x = some v) (h : K (.glob v)) (hd : (x == ("__debug__" : Str)) = false := by decide) :
    Ev g d env σ (.Name x pos) K := fun A Φ s _ R =>
  Name_function_global R.ok.fn hk (loadGlobal_global (env := env) (by rw [R.ok.gl]; exact g.hmg.keeps R.toInv.base) hv ⟨Φ, _, .refl R.held, .glob v, h⟩) hd
/-- a global name bound to a str -/
theorem ev_globs {x pos u t} (hk : env.kindOf x = some .globalImplicit) (hv : g.mg x = some (.str u t)) (h : K (.str u)) (hd : (x == ("__debug__" : Str)) = false := by decide) :
    Ev g d env σ (.Name x pos) K := fun A Φ s _ R =>
  Name_function_global R.ok.fn hk (loadGlobal_global (env := env) (by rw [R.ok.gl]; exact g.hmg.keeps R.toInv.base) hv ⟨Φ, _, .refl R.held, .str u t, h⟩) hd
theorem ev_bi {x pos v} (hk : env.kindOf x = some .globalImplicit) (hm : g.mg x = none) (hv : bootBuiltins x = some v) (hx : x ≠ "__name__") (h : K (.glob v)) (hd : (x == ("__debug__" : Str)) = false := by decide) :
    Ev g d env σ (.Name x pos) K := fun A Φ s _ R =>
  Name_function_global R.ok.fn hk (loadGlobal_builtin (env := env) (by rw [R.ok.gl]; exact g.hmg.keeps R.toInv.base) hm (by rw [R.ok.bi]; exact g.hmb.keeps R.toInv.base) ((g.hbb x hx).trans hv) ⟨Φ, _, .refl R.held, .glob v, h⟩) hd

theorem ev_bin {l op r pos} (h : Ev g d env σ l fun a => Ev g d env σ r fun b => BinOk g d op a b K) : Ev g d env σ (.BinOp l op r pos) K := fun A Φ s a R => by
  refine wpAny_BinOp (wpAny_mono (h A Φ s a R) (fun x s₁ ⟨Φ₁, v, e₁, r₁, k₁⟩ => wpAny_mono (k₁ A Φ₁ s₁ a (R.ext e₁)) (fun y s₂ ⟨Φ₂, u, e₂, r₂, k₂⟩ => ?_) fun _ _ f => f) fun _ _ f => f)
  exact (k₂ A Φ₂ s₂ x y a ((R.ext e₁).ext e₂).toInv (r₁.mono e₂.mono) r₂).after (Tr.ext e₁ e₂)
theorem ev_cmp {l op r pos} (h : Ev g d env σ l fun a => Ev g d env σ r fun b => CmpOk g d op a b K) (hm : behindInMarks op r = false := by with_unfolding_all rfl) : Ev g d env σ (.Compare l [op] [r] pos) K := fun A Φ s a R => by
  refine wpAny_Compare1 (wpAny_mono (h A Φ s a R) (fun x s₁ ⟨Φ₁, v, e₁, r₁, k₁⟩ => wpAny_mono (k₁ A Φ₁ s₁ a (R.ext e₁)) (fun y s₂ ⟨Φ₂, u, e₂, r₂, k₂⟩ => ?_) fun _ _ f => f) fun _ _ f => f) hm
  exact (k₂ A Φ₂ s₂ x y a ((R.ext e₁).ext e₂).toInv (r₁.mono e₂.mono) r₂).after (Tr.ext e₁ e₂)
theorem ev_un {op x pos} (h : Ev g d env σ x fun a => UnOk g d op a K) : Ev g d env σ (.UnaryOp op x pos) K := fun A Φ s a R => by
  refine wpAny_UnaryOp (wpAny_mono (h A Φ s a R) (fun x s₁ ⟨Φ₁, v, e₁, r₁, k₁⟩ => ?_) fun _ _ f => f)
  exact (k₁ A Φ₁ s₁ x a (R.ext e₁).toInv r₁).after e₁
theorem ev_ite {t b o pos} (h : Ts g d env σ t fun c => (c = true → Ev g d env σ b K) ∧ (c = false → Ev g d env σ o K)) : Ev g d env σ (.IfExp t b o pos) K := fun A Φ s a R => by
  refine wpAny_IfExp (wpAny_mono (h A Φ s a R) (fun c s₁ ⟨Φ₁, e₁, k₁⟩ => ?_) fun _ _ f => f)
  cases c with
  | true => exact (k₁.1 rfl A Φ₁ s₁ a (R.ext e₁) : Wp ..).after e₁
  | false => exact (k₁.2 rfl A Φ₁ s₁ a (R.ext e₁) : Wp ..).after e₁

theorem evs_nil {K : List V → Prop} (h : K []) : Evs g d env σ [] K := fun A Φ s pos _ R => spliced_nil ⟨Φ, [], .refl R.held, .nil, h⟩
theorem evs_cons {e es} {K : List V → Prop} (h : Ev g d env σ e fun v => Evs g d env σ es fun vs => K (v :: vs)) (he : starEach (e :: es) env = (false, eval e env) :: starEach es env := by with_unfolding_all rfl) : Evs g d env σ (e :: es) K := fun A Φ s pos a R => by
  rw [he]
  refine spliced_cons (wpAny_mono (h A Φ s a R) (fun x s₁ ⟨Φ₁, v, e₁, r₁, k₁⟩ => wpAny_mono (k₁ A Φ₁ s₁ pos a (R.ext e₁)) (fun xs s₂ ⟨Φ₂, vs, e₂, r₂, k₂⟩ => ?_) fun _ _ f => f) fun _ _ f => f)
  exact ⟨Φ₂, v :: vs, Tr.ext e₁ e₂, .cons (r₁.mono e₂.mono) r₂, k₂⟩

theorem wp_newTuple {A : Around} {Φ : FM} {s : Shared} {vs : List V} {xs : List Value} {K : V → Prop} (i : Inv g Φ s) (r : Reals g Φ vs xs) (hs : vs.length ≤ sizeLine) (h : K (.tup vs)) : Wp g A (newTuple xs) Φ s K :=
  wpAny_newTuple ⟨_, _, Ext.push i _ rfl _, (.tup (n := 0) (FM.put_self ..) rfl rfl (r.mono (FM.put_le (i.none (size_none _))))), h⟩ (by rw [r.length]; exact hs)
theorem wp_newList {A : Around} {Φ : FM} {s : Shared} {vs : List V} {xs : List Value} {K : V → Prop} (i : Inv g Φ s) (r : Reals g Φ vs xs) (hs : vs.length ≤ sizeLine) (h : K (.list vs)) : Wp g A (newList xs) Φ s K :=
  wpAny_newList ⟨_, _, Ext.push i _ rfl _, .list (n := 0) (FM.put_self ..) (r.mono (FM.put_le (i.none (size_none _)))), h⟩ (by rw [r.length]; exact hs)
theorem ev_tup {es k pos} (h : Evs g d env σ es fun vs => vs.length ≤ sizeLine ∧ K (.tup vs)) : Ev g d env σ (.Tuple es k pos) K := fun A Φ s a R =>
  Tuple_ (wpAny_mono (h A Φ s pos a R) (fun _ _ ⟨_, _, e₁, r₁, k₁⟩ => (wp_newTuple (R.ext e₁).toInv r₁ k₁.1 k₁.2).after e₁) fun _ _ f => f)
theorem ev_list {es pos} (h : Evs g d env σ es fun vs => vs.length ≤ sizeLine ∧ K (.list vs)) : Ev g d env σ (.List es pos) K := fun A Φ s a R =>
  List_ (wpAny_mono (h A Φ s pos a R) (fun _ _ ⟨_, _, e₁, r₁, k₁⟩ => (wp_newList (R.ext e₁).toInv r₁ k₁.1 k₁.2).after e₁) fun _ _ f => f)

theorem ts_cmp {l op r pos} {K : Bool → Prop} (h : Ev g d env σ l fun a => Ev g d env σ r fun b => CmpOk g d op a b fun v => TrueOk g d v K) (hm : behindInMarks op r = false := by with_unfolding_all rfl) : Ts g d env σ (.Compare l [op] [r] pos) K := fun A Φ s a R => by
  refine wpAny_isTrue_Compare1 (wpAny_mono (h A Φ s a R) (fun x s₁ ⟨Φ₁, v, e₁, r₁, k₁⟩ => wpAny_mono (k₁ A Φ₁ s₁ a (R.ext e₁)) (fun y s₂ ⟨Φ₂, u, e₂, r₂, k₂⟩ => ?_) fun _ _ f => f) fun _ _ f => f) hm
  refine wpAny_mono (k₂ A Φ₂ s₂ x y a ((R.ext e₁).ext e₂).toInv (r₁.mono e₂.mono) r₂ : Wp ..) (fun z s₃ ⟨Φ₃, w, e₃, r₃, k₃⟩ => ?_) fun _ _ f => f
  exact wpAny_mono (k₃ A Φ₃ s₃ z a (((R.ext e₁).ext e₂).ext e₃).toInv r₃) (fun b s₄ ⟨Φ₄, e₄, k₄⟩ => ⟨Φ₄, (((Tr.ext e₁ e₂).ext e₃).ext e₄), k₄⟩) fun _ _ f => f
theorem ts_not {x pos} {K : Bool → Prop} (h : Ts g d env σ x fun b => K (!b)) : Ts g d env σ (.UnaryOp .Not x pos) K := fun A Φ s a R =>
  wpAny_isTrue_Not (wpAny_mono (h A Φ s a R) (fun _ _ ⟨Φ', e, k⟩ => ⟨Φ', e, k⟩) fun _ _ f => f)
theorem ts_of {e} {K : Bool → Prop} (h : Ev g d env σ e fun v => TrueOk g d v K) (he : isTrue e env (eval e env) = (do let v ← eval e env; standAt e.pos; holding [v] (truthy v)) := by with_unfolding_all rfl) : Ts g d env σ e K := fun A Φ s a R => by
  rw [he]
  refine wpAny_bind (wpAny_mono (h A Φ s a R) (fun x s₁ ⟨Φ₁, v, e₁, r₁, k₁⟩ => wpAny_bind (wpAny_standAt (wpAny_holding ?_))) fun _ _ f => f)
  exact wpAny_mono (k₁ A Φ₁ s₁ x a (R.ext e₁).toInv r₁) (fun b s₄ ⟨Φ₄, e₄, k₄⟩ => ⟨Φ₄, Tr.ext e₁ e₄, k₄⟩) fun _ _ f => f
theorem ts_and_nil {K : Bool → Prop} {pos} (h : K true) : Ts g d env σ (.BoolOp .And [] pos) K := fun A Φ s a R => by
  rw [arm_isTrue_BoolOp, arm_allTrue_nil]; exact wpAny_pure ⟨Φ, .refl R.held, h⟩
theorem ts_or_nil {K : Bool → Prop} {pos} (h : K false) : Ts g d env σ (.BoolOp .Or [] pos) K := fun A Φ s a R => by
  rw [arm_isTrue_BoolOp, arm_allTrue_nil]; exact wpAny_pure ⟨Φ, .refl R.held, h⟩
theorem ts_and {x rest pos} {K : Bool → Prop} (h : Ts g d env σ x fun b => (b = false → K false) ∧ (b = true → Ts g d env σ (.BoolOp .And rest pos) K)) : Ts g d env σ (.BoolOp .And (x :: rest) pos) K := fun A Φ s a R => by
  rw [arm_isTrue_BoolOp, arm_allTrue_cons]
  refine wpAny_bind (wpAny_mono (h A Φ s a R) (fun b s₁ ⟨Φ₁, e₁, k₁⟩ => ?_) fun _ _ f => f)
  cases b with
  | false => exact wpAny_pure ⟨Φ₁, e₁, k₁.1 rfl⟩
  | true =>
    have := k₁.2 rfl A Φ₁ s₁ a (R.ext e₁)
    rw [arm_isTrue_BoolOp] at this
    exact wpAny_mono this (fun b s₄ ⟨Φ₄, e₄, k₄⟩ => ⟨Φ₄, Tr.ext e₁ e₄, k₄⟩) fun _ _ f => f
theorem ts_or {x rest pos} {K : Bool → Prop} (h : Ts g d env σ x fun b => (b = true → K true) ∧ (b = false → Ts g d env σ (.BoolOp .Or rest pos) K)) : Ts g d env σ (.BoolOp .Or (x :: rest) pos) K := fun A Φ s a R => by
  rw [arm_isTrue_BoolOp, arm_allTrue_cons]
  refine wpAny_bind (wpAny_mono (h A Φ s a R) (fun b s₁ ⟨Φ₁, e₁, k₁⟩ => ?_) fun _ _ f => f)
  cases b with
  | true => exact wpAny_pure ⟨Φ₁, e₁, k₁.1 rfl⟩
  | false =>
    have := k₁.2 rfl A Φ₁ s₁ a (R.ext e₁)
    rw [arm_isTrue_BoolOp] at this
    exact wpAny_mono this (fun b s₄ ⟨Φ₄, e₄, k₄⟩ => ⟨Φ₄, Tr.ext e₁ e₄, k₄⟩) fun _ _ f => f
end
end Mine
end

section
open PySem PySem.Calls PyProof.Rows PySem.W
namespace Mine

noncomputable def Slot.isOwn : Slot → Bool
  | .val _ => false
  | _ => true

/-- a frame's state -/
structure St (g : Gd) (env : Env) (σ : Sg) (O : List Addr) (Φ : FM) (s : Shared) : Prop extends Inv g Φ s where
  ok : EnvOk env
  ns : ∃ m, s.heap.Ns env.locals m
  lf : Φ env.locals = none
  cs : ∀ x c, (x, c) ∈ env.cells → Φ c = none ∧ (∃ v, s.heap.IsCell c v) ∧ c ≠ env.locals
  apart : env.cells.Pairwise fun x y => x.2 ≠ y.2
  ow : ∀ a ∈ O, Φ a = none ∧ (s.heap.get? a).isSome = true ∧ a ≠ env.locals ∧ ∀ x c, (x, c) ∈ env.cells → a ≠ c
  vars : ∀ x sl, σ.lookup x = some sl → ∃ val, Holds env s.heap x val ∧ SReal g Φ s.heap sl val ∧ (sl.isOwn = true → ∀ a, val = .ref a → a ∈ O)
  sep : ∀ x y sl sl' a, x ≠ y → σ.lookup x = some sl → sl.isOwn = true → σ.lookup y = some sl' → sl'.isOwn = true → Holds env s.heap x (.ref a) → Holds env s.heap y (.ref a) → False

/-- the places a frame's statement may write -/
noncomputable def Wr (env : Env) (O : List Addr) (a : Addr) : Prop := a = env.locals ∨ (∃ x, (x, a) ∈ env.cells) ∨ a ∈ O

theorem Holds.det {env h x v v'} (H : Holds env h x v) (H' : Holds env h x v') : v = v' := by
  rcases H with ⟨a, m, n, e⟩ | ⟨a, c, e, i⟩ <;> rcases H' with ⟨a', m', n', e'⟩ | ⟨a', c', e', i'⟩
  · obtain ⟨o, es, ep, ho, hd, _, hf⟩ := n
    obtain ⟨o', es', ep', ho', hd', _, hf'⟩ := n'
    rw [ho] at ho'; cases ho'
    rw [hd] at hd'; cases hd'
    rw [← hf] at e; rw [← hf', e] at e'; cases e'; rfl
  · rw [a] at a'; rcases a' with q | q <;> cases q
  · rw [a'] at a; rcases a with q | q <;> cases q
  · rw [e] at e'; cases e'
    obtain ⟨o, ho, hd⟩ := i
    obtain ⟨o', ho', hd'⟩ := i'
    rw [ho] at ho'; cases ho'
    rw [hd] at hd'; cases hd'; rfl

section
variable {g : Gd} {env : Env} {σ : Sg} {O : List Addr} {Φ : FM} {s : Shared}

theorem St.rd (S : St g env σ O Φ s) : Rd g env σ Φ s := { toInv := S.toInv, ok := S.ok, apart := S.apart, cs := fun x c h => ⟨(S.cs x c h).1, (S.cs x c h).2.1⟩, vars := fun x sl h => let ⟨v, H, R, _⟩ := S.vars x sl h; ⟨v, H, R⟩ }

theorem wr_none (S : St g env σ O Φ s) {a} (h : Wr env O a) : Φ a = none := by
  rcases h with rfl | ⟨x, h⟩ | h
  · exact S.lf
  · exact (S.cs x a h).1
  · exact (S.ow a h).1

theorem St.inheap (S : St g env σ O Φ s) {a} (h : Wr env O a) : (s.heap.get? a).isSome = true := by
  rcases h with rfl | ⟨x, h⟩ | h
  · obtain ⟨m, o, es, ep, ho, _⟩ := S.ns; rw [ho]; rfl
  · obtain ⟨_, ⟨v, o, ho, _⟩, _⟩ := S.cs x a h; rw [ho]; rfl
  · exact (S.ow a h).2.1
theorem in_out {h : Heap} {a : Addr} {P : Prop} (h1 : (h.get? a).isSome = true) (h2 : h.get? a = none) : P := by rw [h2] at h1; cases h1
theorem in_some {h : Heap} {a : Addr} {o : Obj} (e : h.get? a = some o) : (h.get? a).isSome = true := e ▸ rfl

theorem Tr.upN {W G Φ₀ s₀ Φ s} (t : Tr W G Φ₀ s₀ Φ s) {b : Addr} (h : s.heap.get? b = none) (hW : ¬ W b) : s₀.heap.get? b = none := by
  cases e : s₀.heap.get? b with
  | none => rfl
  | some o => exact in_out (in_some (t.keep b o e hW)) h
theorem St.apart_own {a} (S : St g env σ O Φ s) {O₀ : List Addr} (w : Wr env O₀ a) : a ∈ O₀ ∨ ¬ (a ∈ O) := by
  rcases w with w | ⟨x, w⟩ | w
  · exact .inr fun q => (S.ow a q).2.2.1 w
  · exact .inr fun q => (S.ow a q).2.2.2 x a w rfl
  · exact .inl w

/-- a step that writes elsewhere leaves the frame -/
theorem St.tr {W G Φ' s'} (S : St g env σ O Φ s) (t : Tr W G Φ s Φ' s') (hW : ∀ a, Wr env O a → ¬ W a) : St g env σ O Φ' s' := by
  have keepW : ∀ a o, Wr env O a → s.heap.get? a = some o → s'.heap.get? a = some o := fun a o h e => t.keep a o e (hW a h)
  have freshW : ∀ a, Wr env O a → (s.heap.get? a).isSome = true → Φ' a = none := fun a h e => t.fresh a (wr_none S h) e (hW a h)
  have hkeep : ∀ x val, Holds env s.heap x val → Holds env s'.heap x val := fun x val H => by
    rcases H with ⟨a, m, n, e⟩ | ⟨a, c, e, q⟩
    · exact .inl ⟨a, m, n.at' fun o h => keepW _ o (.inl rfl) h, e⟩
    · obtain ⟨o, ho, hd⟩ := q
      exact .inr ⟨a, c, e, o, keepW c o (.inr (.inl ⟨x, mem_of_lookup e⟩)) ho, hd⟩
  have hback : ∀ x sl val, σ.lookup x = some sl → Holds env s'.heap x val → Holds env s.heap x val := fun x sl val h H => by
    obtain ⟨v, H0, _⟩ := S.vars x sl h
    rw [Holds.det H (hkeep x v H0)]; exact H0
  refine { toInv := S.toInv.ext t, ok := S.ok, ns := ?_, lf := ?_, cs := ?_, apart := S.apart, ow := ?_, vars := ?_, sep := ?_ }
  · obtain ⟨m, n⟩ := S.ns; exact ⟨m, n.at' fun o h => keepW _ o (.inl rfl) h⟩
  · obtain ⟨m, o, es, ep, ho, _⟩ := S.ns
    exact freshW _ (.inl rfl) (by rw [ho]; rfl)
  · intro x c hc
    obtain ⟨f, ⟨v, o, ho, hd⟩, hl⟩ := S.cs x c hc
    exact ⟨freshW _ (.inr (.inl ⟨x, hc⟩)) (by rw [ho]; rfl), ⟨v, o, keepW c o (.inr (.inl ⟨x, hc⟩)) ho, hd⟩, hl⟩
  · intro a ha
    obtain ⟨f, hs, r⟩ := S.ow a ha
    obtain ⟨o, ho⟩ := Option.isSome_iff_exists.mp hs
    exact ⟨freshW _ (.inr (.inr ha)) hs, by rw [keepW a o (.inr (.inr ha)) ho]; rfl, r⟩
  · intro x sl h
    obtain ⟨v, H, R, hO⟩ := S.vars x sl h
    refine ⟨v, hkeep x v H, ?_, hO⟩
    cases sl with
    | val u => exact Real.mono t.mono R
    | own l =>
      obtain ⟨a, xs, n, rfl, f, o, r⟩ := R
      have ha := hO rfl a rfl
      exact ⟨a, xs, n, rfl, freshW a (.inr (.inr ha)) (by rw [o]; rfl), keepW a _ (.inr (.inr ha)) o, r.mono t.mono⟩
    | ownd l =>
      obtain ⟨a, o, kvs, rfl, f, ho, r⟩ := R
      have ha := hO rfl a rfl
      exact ⟨a, o, kvs, rfl, freshW a (.inr (.inr ha)) (by rw [ho]; rfl), keepW a _ (.inr (.inr ha)) ho, r⟩
  · intro x y sl sl' a hxy hx hxo hy hyo H1 H2
    exact S.sep x y sl sl' a hxy hx hxo hy hyo (hback x sl _ hx H1) (hback y sl' _ hy H2)
theorem St.ext {Φ' s'} (S : St g env σ O Φ s) (t : Ext Φ s Φ' s') : St g env σ O Φ' s' := S.tr t fun _ _ h => h

/-- fewer names -/
theorem St.weak {σ'} (S : St g env σ O Φ s) (h : ∀ x sl, σ'.lookup x = some sl → σ.lookup x = some sl) : St g env σ' O Φ s :=
  { S with vars := fun x sl e => S.vars x sl (h x sl e), sep := fun x y sl sl' a n e1 o1 e2 o2 => S.sep x y sl sl' a n (h x sl e1) o1 (h y sl' e2) o2 }

noncomputable def isVar (env : Env) (x : Str) : Bool := match env.kindOf x with
  | some .local => true
  | some .cell => (env.cells.lookup x).isSome
  | _ => false

theorem lookup_cons_ne {x y : Str} {sl : Slot} {σ : Sg} (h : y ≠ x) : List.lookup y ((x, sl) :: σ) = List.lookup y σ := by
  rw [List.lookup_cons]
  have : (y == x) = false := by simpa using h
  rw [this]
theorem lookup_cons_eq {x : Str} {sl : Slot} {σ : Sg} : List.lookup x ((x, sl) :: σ) = some sl := by
  rw [List.lookup_cons]; simp

/-- the place that a name's store writes -/
noncomputable def Wx (env : Env) (x : Str) (a : Addr) : Prop := (env.kindOf x = some .local ∧ a = env.locals) ∨ (env.kindOf x = some .cell ∧ env.cells.lookup x = some a)
theorem wx_wr {env : Env} {O : List Addr} {x : Str} : ∀ a, Wx env x a → Wr env O a := fun a h => h.elim (fun q => .inl q.2) fun q => .inr (.inl ⟨x, mem_of_lookup q.2⟩)
/-- a store into a name of the frame -/
theorem St.storeY {M : Model} {A : Around} {E : Value → Shared → Prop} {x : Str} {val : Value} {sl : Slot} {Q : Unit → Shared → Prop} (S : St g env σ O Φ s) (hx : isVar env x = true) (hsl : SReal g Φ s.heap sl val)
    (how : sl.isOwn = true → ∀ a, val = .ref a → a ∈ O ∧ ∀ y sl', y ≠ x → σ.lookup y = some sl' → sl'.isOwn = true → ¬ Holds env s.heap y (.ref a))
    (h : ∀ s', St g env ((x, sl) :: σ) O Φ s' → Tr (Wx env x) no1 Φ s Φ s' → Holds env s'.heap x val → (∀ y v, y ≠ x → Holds env s.heap y v → Holds env s'.heap y v) → s'.heap.objs.size = s.heap.objs.size → Q () s') : wpAny M A (storeName env x val) Q E s := by
  -- both kinds: the written place d, a new heap that parts from the old at d alone, and the name holds val
  have core : ∀ (d : Addr) (h' : Heap) (k : Nat), Wx env x d → d ∉ O → Heap.SameBut d s.heap h' → Holds env h' x val → (∃ m, h'.Ns env.locals m) →
      (∀ y c, (y, c) ∈ env.cells → ∃ v, h'.IsCell c v) → (∀ y v, y ≠ x → Holds env s.heap y v → Holds env h' y v) → Q () { s with heap := h', toks := k } := by
    intro d h' k hd hdO hs hH hn hc hk
    have i : Inv g Φ s := S.toInv
    have tr : Tr (Wx env x) no1 Φ s Φ { s with heap := h', toks := k } :=
      Tr.keeps i (fun a o hw e => (hs.2 a fun q => hw (q ▸ hd)).trans e) (fun a hw => wr_none S (O := O) (wx_wr a hw)) k
    have keepO : ∀ a ∈ O, h'.get? a = s.heap.get? a := fun a ha => hs.2 a fun q => hdO (q ▸ ha)
    refine h _ ?_ tr hH hk hs.1
    have sr : ∀ sl val, SReal g Φ s.heap sl val → (sl.isOwn = true → ∀ a, val = .ref a → a ∈ O) → SReal g Φ h' sl val := fun sl val R hO => by
      cases sl with
      | val u => exact R
      | own l =>
        obtain ⟨a, xs, n, rfl, f, o, r⟩ := R
        exact ⟨a, xs, n, rfl, f, (keepO a (hO rfl a rfl)).trans o, r⟩
      | ownd l =>
        obtain ⟨a, o, kvs, rfl, f, ho, r⟩ := R
        exact ⟨a, o, kvs, rfl, f, (keepO a (hO rfl a rfl)).trans ho, r⟩
    have back : ∀ y sl v, y ≠ x → σ.lookup y = some sl → Holds env h' y v → Holds env s.heap y v := fun y sl v hy e H => by
      obtain ⟨v0, H0, _⟩ := S.vars y sl e
      rw [Holds.det H (hk y v0 hy H0)]; exact H0
    refine { toInv := i.ext tr, ok := S.ok, ns := hn, lf := S.lf, cs := fun y c hyc => ⟨(S.cs y c hyc).1, hc y c hyc, (S.cs y c hyc).2.2⟩, apart := S.apart,
             ow := fun a ha => ⟨(S.ow a ha).1, by rw [show ({ s with heap := h', toks := k } : Shared).heap = h' from rfl, keepO a ha]; exact (S.ow a ha).2.1, (S.ow a ha).2.2⟩, vars := ?_, sep := ?_ }
    · intro y sl' e
      by_cases hy : y = x
      · subst hy
        rw [lookup_cons_eq] at e; cases e
        exact ⟨val, hH, sr _ _ hsl fun q a e => (how q a e).1, fun q a e => (how q a e).1⟩
      · rw [lookup_cons_ne hy] at e
        obtain ⟨v, H, R, hO⟩ := S.vars y sl' e
        exact ⟨v, hk y v hy H, sr _ _ R hO, hO⟩
    · intro y z sl1 sl2 a hyz e1 o1 e2 o2 H1 H2
      by_cases hy : y = x
      · subst hy
        have hz : z ≠ y := Ne.symm hyz
        rw [lookup_cons_eq] at e1; cases e1
        rw [lookup_cons_ne hz] at e2
        have hv := Holds.det H1 hH
        exact (how o1 a hv.symm).2 z sl2 hz e2 o2 (back z sl2 _ hz e2 H2)
      · rw [lookup_cons_ne hy] at e1
        by_cases hz : z = x
        · subst hz
          rw [lookup_cons_eq] at e2; cases e2
          have hv := Holds.det H2 hH
          exact (how o2 a hv.symm).2 y sl1 hy e1 o1 (back y sl1 _ hy e1 H1)
        · rw [lookup_cons_ne hz] at e2
          exact S.sep y z sl1 sl2 a hyz e1 o1 e2 o2 (back y sl1 _ hy e1 H1) (back z sl2 _ hz e2 H2)
  unfold isVar at hx
  split at hx
  · rename_i hk
    obtain ⟨m, hm⟩ := S.ns
    refine wpAny_storeName_local hk hm (fun h' hn hs => ?_) (by rw [S.ok.fn]; rfl)
    refine core env.locals h' _ (.inl ⟨hk, rfl⟩) (fun q => (S.ow _ q).2.2.1 rfl) hs (.inl ⟨hk, _, hn, by simp⟩) ⟨_, hn⟩ (fun y c hyc => ?_) fun y v hy H => ?_
    · obtain ⟨_, ⟨u, i⟩, hl⟩ := S.cs y c hyc
      exact ⟨u, i.sameBut hs hl⟩
    · rcases H with ⟨a, m', n', e⟩ | ⟨a, c, e, i⟩
      · refine .inl ⟨a, _, hn, ?_⟩
        rw [if_neg hy]
        obtain ⟨o, es, ep, ho, hd, _, hf⟩ := hm
        obtain ⟨o', es', ep', ho', hd', _, hf'⟩ := n'
        rw [ho] at ho'; cases ho'
        rw [hd] at hd'; cases hd'
        rw [← hf, hf', e]
      · exact .inr ⟨a, c, e, i.sameBut hs (S.cs y c (mem_of_lookup e)).2.2⟩
  · rename_i hk
    obtain ⟨c, hc⟩ := Option.isSome_iff_exists.mp hx
    have hmem := mem_of_lookup hc
    obtain ⟨_, ⟨v0, i0⟩, hcl⟩ := S.cs x c hmem
    refine wpAny_storeName_cell S.ok.fn hk hc i0 fun h' hi hs => ?_
    have hdO : c ∉ O := fun q => (S.ow c q).2.2.2 x c hmem rfl
    have := core c h' s.toks (.inr ⟨hk, hc⟩) hdO hs (.inr ⟨.inl hk, c, hc, hi⟩) (by obtain ⟨m, hm⟩ := S.ns; exact ⟨m, hm.sameBut hs (Ne.symm hcl)⟩) (fun y c' hyc => ?_) fun y v hy H => ?_
    · exact this
    · by_cases q : c' = c
      · subst q; exact ⟨_, hi⟩
      · obtain ⟨_, ⟨u, i⟩, _⟩ := S.cs y c' hyc
        exact ⟨u, i.sameBut hs q⟩
    · rcases H with ⟨a, m', n', e⟩ | ⟨a, c', e, i⟩
      · exact .inl ⟨a, m', n'.sameBut hs (Ne.symm hcl), e⟩
      · refine .inr ⟨a, c', e, i.sameBut hs fun q => hy ?_⟩
        exact name_of_addr S.apart (mem_of_lookup e) (q ▸ hmem)
  · cases hx
theorem St.storeX {M : Model} {A : Around} {E : Value → Shared → Prop} {x : Str} {val : Value} {sl : Slot} {Q : Unit → Shared → Prop} (S : St g env σ O Φ s) (hx : isVar env x = true) (hsl : SReal g Φ s.heap sl val)
    (how : sl.isOwn = true → ∀ a, val = .ref a → a ∈ O ∧ ∀ y sl', y ≠ x → σ.lookup y = some sl' → sl'.isOwn = true → ¬ Holds env s.heap y (.ref a))
    (h : ∀ s', St g env ((x, sl) :: σ) O Φ s' → Tr (Wx env x) no1 Φ s Φ s' → Q () s') : wpAny M A (storeName env x val) Q E s :=
  S.storeY hx hsl how fun s' S' t _ _ _ => h s' S' t
theorem St.store {M : Model} {A : Around} {E : Value → Shared → Prop} {x : Str} {val : Value} {sl : Slot} {Q : Unit → Shared → Prop} (S : St g env σ O Φ s) (hx : isVar env x = true) (hsl : SReal g Φ s.heap sl val)
    (how : sl.isOwn = true → ∀ a, val = .ref a → a ∈ O ∧ ∀ y sl', y ≠ x → σ.lookup y = some sl' → sl'.isOwn = true → ¬ Holds env s.heap y (.ref a))
    (h : ∀ s', St g env ((x, sl) :: σ) O Φ s' → Tr (Wr env O) no1 Φ s Φ s' → Q () s') : wpAny M A (storeName env x val) Q E s :=
  S.storeX hx hsl how fun s' S' t => h s' S' (t.mono_W (fun a w => wx_wr a w) fun _ w => w)
end

inductive Fl where
  | next | brk | cont
  | ret (v : V)
noncomputable def FReal (g : Gd) (Φ : FM) : Fl → Flow → Prop
  | .next, .next => True
  | .brk, .brk => True
  | .cont, .cont => True
  | .ret v, .ret x => Real g Φ v x
  | _, _ => False

theorem FReal.by {g : Gd} {Φ : FM} {P : Fl → Flow → Prop} {fv : Fl} {f : Flow} (h : FReal g Φ fv f) (n : P .next .next) (b : P .brk .brk) (c : P .cont .cont) (r : ∀ v x, Real g Φ v x → P (.ret v) (.ret x)) : P fv f := by
  cases fv <;> cases f <;> first | exact False.elim h | assumption | exact r _ _ h

inductive SPost (g : Gd) (env : Env) (O : List Addr) (Φ : FM) (s : Shared) (K : Fl → Sg → Prop) (f : Flow) (s' : Shared) : Prop
  | mk (Φ' : FM) (σ' : Sg) (O' : List Addr) (fv : Fl) : Tr (Wr env O) no1 Φ s Φ' s' → (∀ a ∈ O', a ∈ O ∨ s.heap.get? a = none) → St g env σ' O' Φ' s' → FReal g Φ' fv f → K fv σ' → SPost g env O Φ s K f s'
noncomputable def Ex (g : Gd) (d : Nat) (env : Env) (σ : Sg) (st : Stmt) (K : Fl → Sg → Prop) : Prop :=
  ∀ A Φ s O, AOk d A → St g env σ O Φ s → wpAny (model g.prog g.w) A (exec st env) (SPost g env O Φ s K) bot s
noncomputable def Exs (g : Gd) (d : Nat) (env : Env) (σ : Sg) (ss : List Stmt) (K : Fl → Sg → Prop) : Prop :=
  ∀ A Φ s O, AOk d A → St g env σ O Φ s → wpAny (model g.prog g.w) A (execs ss env) (SPost g env O Φ s K) bot s

theorem wr_osub {env : Env} {O O' : List Addr} {s : Shared} (h : ∀ a ∈ O', a ∈ O ∨ s.heap.get? a = none) : ∀ a, Wr env O' a → Wr env O a ∨ s.heap.get? a = none := fun a q => by
  rcases q with q | q | q
  · exact .inl (.inl q)
  · exact .inl (.inr (.inl q))
  · exact (h a q).imp (fun q => .inr (.inr q)) id
theorem osub_trans {O O' O'' : List Addr} {W G Φ s Φ' s'} (t : Tr W G Φ s Φ' s') (hW : ∀ a, W a → a ∈ O ∨ ¬ (a ∈ O'')) (h : ∀ a ∈ O', a ∈ O ∨ s.heap.get? a = none) (h' : ∀ a ∈ O'', a ∈ O' ∨ s'.heap.get? a = none) : ∀ a ∈ O'', a ∈ O ∨ s.heap.get? a = none := fun a q => by
  rcases h' a q with r | r
  · exact h a r
  · by_cases w : W a
    · rcases hW a w with z | z
      · exact .inl z
      · exact absurd q z
    · cases e : s.heap.get? a with
      | none => exact .inr rfl
      | some o => rw [t.keep a o e w] at r; cases r

section
variable {g : Gd} {d : Nat} {env : Env} {σ : Sg} {K : Fl → Sg → Prop}

/-- one step behind another -/
theorem SPost.then {A : Around} {Φ : FM} {s : Shared} {O : List Addr} {Φ₁ : FM} {s₁ : Shared} {O₁ : List Addr} {σ₁ : Sg} {α : Type} {t : Sem Flow}
    (S : St g env σ O Φ s) (S₁ : St g env σ₁ O₁ Φ₁ s₁) (tr : Tr (Wr env O) no1 Φ s Φ₁ s₁) (ho : ∀ a ∈ O₁, a ∈ O ∨ s.heap.get? a = none) {f : Flow} {s' : Shared} (h : SPost g env O₁ Φ₁ s₁ K f s') : SPost g env O Φ s K f s' := by
  obtain ⟨Φ', σ', O', fv, tr', ho', S', hf, hk⟩ := h
  exact ⟨Φ', σ', O', fv, tr.trans tr' (wr_osub ho) (fun _ q => q.elim), osub_trans tr (fun a w => S'.apart_own w) ho ho', S', hf, hk⟩

theorem exs_nil (h : K .next σ) : Exs g d env σ [] K := fun A Φ s O _ S => wpAny_execs_nil ⟨Φ, σ, O, .next, .refl S.held, fun _ h => .inl h, S, trivial, h⟩
noncomputable def seqK (g : Gd) (d : Nat) (env : Env) (rest : List Stmt) (K : Fl → Sg → Prop) : Fl → Sg → Prop := fun f σ' => match f with
  | .next => Exs g d env σ' rest K
  | f => K f σ'
theorem exs_cons {st rest} (h : Ex g d env σ st (seqK g d env rest K)) : Exs g d env σ (st :: rest) K := fun A Φ s O a S => by
  refine wpAny_execs_cons (wpAny_mono (h A Φ s O a S) (fun f s₁ ⟨Φ₁, σ₁, O₁, fv, tr, ho, S₁, hf, hk⟩ => ?_) fun _ _ f => f)
  refine hf.by (P := fun fv f => seqK g d env rest K fv σ₁ → match (generalizing := false) f with | .next => wpAny (model g.prog g.w) A (execs rest env) (SPost g env O Φ s K) bot s₁ | f => SPost g env O Φ s K f s₁)
    (fun hk => wpAny_mono (hk A Φ₁ s₁ O₁ a S₁) (fun f s₂ h₂ => SPost.then (A := A) (α := Unit) (t := pure .next) S S₁ tr ho h₂) fun _ _ f => f)
    (fun hk => ⟨Φ₁, σ₁, O₁, .brk, tr, ho, S₁, trivial, hk⟩) (fun hk => ⟨Φ₁, σ₁, O₁, .cont, tr, ho, S₁, trivial, hk⟩) (fun v x r hk => ⟨Φ₁, σ₁, O₁, .ret v, tr, ho, S₁, r, hk⟩) hk
theorem exs_weak {ss σ'} (h : Exs g d env σ' ss K) (hw : ∀ x sl, σ'.lookup x = some sl → σ.lookup x = some sl) : Exs g d env σ ss K := fun A Φ s O a S => h A Φ s O a (S.weak hw)

/-- the end of a step that stores nothing more -/
theorem spost_end (fv : Fl) {Φ s O Φ' s' σ'} {f : Flow} (tr : Tr (Wr env O) no1 Φ s Φ' s') (S' : St g env σ' O Φ' s') (hf : FReal g Φ' fv f) (hk : K fv σ') : SPost g env O Φ s K f s' := ⟨Φ', σ', O, fv, tr, fun _ h => .inl h, S', hf, hk⟩

theorem ex_assign {x pos' value pos} (h : Ev g d env σ value fun v => K .next ((x, .val v) :: σ)) (hx : isVar env x = true) (hs : swapsWith value (some (.Name x pos')) pos.line env = pure false := by with_unfolding_all rfl) :
    Ex g d env σ (.Assign [.Name x pos'] value pos) K := fun A Φ s O a S => by
  refine wpAny_Assign_Name (wpAny_mono (h A Φ s a S.rd) (fun val s₁ ⟨Φ₁, v, e₁, r₁, k₁⟩ => ?_) fun _ _ f => f) hs
  exact (S.ext e₁).store (sl := .val v) hx r₁ (fun q => by cases q) fun s' S' tr => spost_end .next (Tr.trans (Tr.of_ext e₁) tr (fun _ q => .inl q) fun _ q => .inl q) S' trivial k₁
theorem ex_return {e pos} (h : Ev g d env σ e fun v => K (.ret v) σ) : Ex g d env σ (.Return (some e) pos) K := fun A Φ s O a S =>
  wpAny_Return_some (wpAny_mono (h A Φ s a S.rd) (fun val s₁ ⟨Φ₁, v, e₁, r₁, k₁⟩ => spost_end (.ret v) (.of_ext e₁) (S.ext e₁) r₁ k₁) fun _ _ f => f)
theorem ex_if {t b o pos} (h : Ts g d env σ t fun c => (c = true → Exs g d env σ b K) ∧ (c = false → Exs g d env σ o K)) : Ex g d env σ (.If t b o pos) K := fun A Φ s O a S => by
  refine wpAny_If (wpAny_mono (h A Φ s a S.rd) (fun c s₁ ⟨Φ₁, e₁, k₁⟩ => ?_) fun _ _ f => f)
  cases c with
  | true => exact wpAny_mono (k₁.1 rfl A Φ₁ s₁ O a (S.ext e₁)) (fun f s₂ h₂ => SPost.then (A := A) (α := Unit) (t := pure .next) S (S.ext e₁) (.of_ext e₁) (fun _ h => .inl h) h₂) fun _ _ f => f
  | false => exact wpAny_mono (k₁.2 rfl A Φ₁ s₁ O a (S.ext e₁)) (fun f s₂ h₂ => SPost.then (A := A) (α := Unit) (t := pure .next) S (S.ext e₁) (.of_ext e₁) (fun _ h => .inl h) h₂) fun _ _ f => f
theorem ex_assert {t m pos} (h : Ts g d env σ t fun c => c = true ∧ K .next σ) : Ex g d env σ (.Assert t m pos) K := fun A Φ s O a S =>
  wpAny_Assert_holds (wpAny_mono (h A Φ s a S.rd) (fun c s₁ ⟨Φ₁, e₁, k₁⟩ => ⟨k₁.1, spost_end .next (.of_ext e₁) (S.ext e₁) trivial k₁.2⟩) fun _ _ f => f)
noncomputable def InpOk (g : Gd) (d : Nat) (op : Operator) (a b : V) (K : V → Prop) : Prop :=
  ∀ A Φ s x y, AOk d A → Inv g Φ s → Real g Φ a x → Real g Φ b y → Wp g A (inplaceOp op x y) Φ s K
theorem Holds.loadN {A : Around} {s : Shared} {x : Str} {val : Value} {Q : Value → Shared → Prop} {E : Value → Shared → Prop} {M : Model} (ok : EnvOk env) (H : Holds env s.heap x val) (q : Q val s)
    (hn : (x == ("__classdict__" : Str)) = false) : wpAny M A (loadName env x) Q E s := by
  rcases H with ⟨a, m, n, e⟩ | ⟨a | a, c, e, i⟩
  · exact wpAny_loadName_local ok.fn a n e q
  · exact wpAny_loadName_cell ok.fn a e i q
  · exact wpAny_loadName_free ok.fn a e i q hn
theorem ex_aug {x pos' op value pos old} (ho : σ.lookup x = some (.val old)) (h : Ev g d env σ value fun v => InpOk g d op old v fun r => K .next ((x, .val r) :: σ)) (hx : isVar env x = true)
    (hn : (x == ("__classdict__" : Str)) = false := by decide) : Ex g d env σ (.AugAssign (.Name x pos') op value pos) K := fun A Φ s O a S => by
  obtain ⟨ov, H, R⟩ := S.rd.vars x _ ho
  refine wpAny_AugAssign_Name (H.loadN S.ok (wpAny_mono (h A Φ s a S.rd) (fun val s₁ ⟨Φ₁, v, e₁, r₁, k₁⟩ => ?_) fun _ _ f => f) hn)
  refine wpAny_mono (k₁ A Φ₁ s₁ ov val a (S.ext e₁).toInv (Real.mono e₁.mono R) r₁ : Wp ..) (fun r s₂ ⟨Φ₂, u, e₂, r₂, k₂⟩ => ?_) fun _ _ f => f
  have e₁₂ := Tr.ext e₁ e₂
  exact (S.ext e₁₂).store (sl := .val u) hx r₂ (fun q => by cases q) fun s' S' tr => spost_end .next (Tr.trans (Tr.of_ext e₁₂) tr (fun _ q => .inl q) fun _ q => .inl q) S' trivial k₂
/-- an own list ends: it is frozen where it stands -/
theorem exs_freeze {ss x l} (hl : σ.lookup x = some (.own l)) (h : Exs g d env ((x, .val (.list l)) :: σ) ss K) : Exs g d env σ ss K := fun A Φ s O a S => by
  obtain ⟨val, H, ⟨b, xs, n, rfl, f, o, r⟩, hO⟩ := S.vars x _ hl
  have hb := hO rfl b rfl
  have tr : Tr (Wr env O) no1 Φ s (Φ.put b (lstO xs n)) s := (Tr.refl S.held).freeze (g := g) S.toInv o f (.inr (.inr (.inr hb)))
  have S₁ : St g env ((x, .val (.list l)) :: σ) (O.filter fun a => a ≠ b) (Φ.put b (lstO xs n)) s := by
    have none_ : ∀ a, a ≠ b → Φ a = none → Φ.put b (lstO xs n) a = none := fun a h e => by simp [FM.put, h, e]
    refine { toInv := S.toInv.ext tr, ok := S.ok, ns := S.ns, lf := none_ _ (fun q => (S.ow b hb).2.2.1 q.symm) S.lf, cs := fun y c hc => ⟨none_ _ (fun q => (S.ow b hb).2.2.2 y c hc q.symm) (S.cs y c hc).1, (S.cs y c hc).2⟩,
             apart := S.apart, ow := fun a ha => ?_, vars := fun y sl e => ?_, sep := fun y z sl sl' a' n' e1 o1 e2 o2 H1 H2 => ?_ }
    · have ha' := List.mem_filter.mp ha
      exact ⟨none_ a (by simpa using ha'.2) (S.ow a ha'.1).1, (S.ow a ha'.1).2⟩
    · by_cases hy : y = x
      · subst hy
        rw [lookup_cons_eq] at e; cases e
        exact ⟨.ref b, H, .list (FM.put_self ..) (r.mono tr.mono), fun q => by cases q⟩
      · rw [lookup_cons_ne hy] at e
        obtain ⟨v, H', R', hO'⟩ := S.vars y sl e
        cases sl with
        | val u => exact ⟨v, H', Real.mono tr.mono R', fun q => by cases q⟩
        | own l' =>
          obtain ⟨c, xs', n', rfl, f', o', r'⟩ := R'
          have hcb : c ≠ b := fun q => by subst q; exact S.sep x y _ _ c (Ne.symm hy) hl rfl e rfl H H'
          exact ⟨_, H', ⟨c, xs', n', rfl, none_ c hcb f', o', r'.mono tr.mono⟩, fun _ a' ea => by cases ea; exact List.mem_filter.mpr ⟨hO' rfl c rfl, by simpa using hcb⟩⟩
        | ownd l' =>
          obtain ⟨c, o', kvs, rfl, f', ho', r'⟩ := R'
          have hcb : c ≠ b := fun q => by subst q; exact S.sep x y _ _ c (Ne.symm hy) hl rfl e rfl H H'
          exact ⟨_, H', ⟨c, o', kvs, rfl, none_ c hcb f', ho', r'⟩, fun _ a' ea => by cases ea; exact List.mem_filter.mpr ⟨hO' rfl c rfl, by simpa using hcb⟩⟩
    · have hy : y ≠ x := fun q => by subst q; rw [lookup_cons_eq] at e1; cases e1; cases o1
      have hz : z ≠ x := fun q => by subst q; rw [lookup_cons_eq] at e2; cases e2; cases o2
      rw [lookup_cons_ne hy] at e1
      rw [lookup_cons_ne hz] at e2
      exact S.sep y z sl sl' a' n' e1 o1 e2 o2 H1 H2
  have ho : ∀ a ∈ (O.filter fun a => a ≠ b), a ∈ O ∨ s.heap.get? a = none := fun a q => .inl (List.mem_filter.mp q).1
  exact wpAny_mono (h A _ s _ a S₁) (fun f s₂ h₂ => SPost.then (A := A) (α := Unit) (t := pure .next) S S₁ tr ho h₂) fun _ _ f => f
end
end Mine
end

section
open PySem PySem.Calls PyProof.Rows PySem.W
namespace Mine

inductive NextS (g : Gd) (fp : Addr → Prop) (gi : Nat → Prop) (Φ : FM) (s : Shared) (v : V) (x : Value) (J : FM → Shared → Prop) (s₂ : Shared) : Prop
  | mk (Φ' : FM) : Tr fp gi Φ s Φ' s₂ → Real g Φ' v x → J Φ' s₂ → NextS g fp gi Φ s v x J s₂
inductive NextD (g : Gd) (fp : Addr → Prop) (gi : Nat → Prop) (Φ : FM) (s : Shared) (v : V) (x : Value) (J : (Addr → Prop) → FM → Shared → Prop) (s₂ : Shared) : Prop
  | mk (Φ' : FM) (fp' : Addr → Prop) : Tr fp gi Φ s Φ' s₂ → (∀ b, fp' b → fp b ∨ s.heap.get? b = none) → Real g Φ' v x → J fp' Φ' s₂ → NextD g fp gi Φ s v x J s₂
/-- an iterator under way; J r Φ s: the items r are still to come -/
structure Iter (g : Gd) (d : Nat) (I : Addr) (tg : Expr → Prop) (fp : Addr → Prop) (gi : Nat → Prop) (J : List V → FM → Shared → Prop) : Prop where
  stable : ∀ r Φ s Φ' s', J r Φ s → (∀ b, fp b → ∀ o, s.heap.get? b = some o → s'.heap.get? b = some o) → FLe Φ Φ' → (∀ a o, Φ' a = some o → s'.heap.get? a = some o) → (∀ b, fp b → Φ' b = none) → (∀ i, gi i → s'.gens[i]? = s.gens[i]?) → J r Φ' s'
  there : ∀ r Φ s, J r Φ s → ∀ b, fp b → Φ b = none ∧ (s.heap.get? b).isSome = true
  gthere : ∀ r Φ s, J r Φ s → ∀ i, gi i → (s.gens[i]?).isSome = true
  next : ∀ A v r Φ s target, AOk d A → tg target → Inv g Φ s → J (v :: r) Φ s → wpAny (model g.prog g.w) A (pyNext (.ref I)) (fun o s₁ => ∃ x, o = some x ∧
    wpAny (model g.prog g.w) A (letOwnedTupleGo target (.ref I) x) (fun _ s₂ => NextS g fp gi Φ s v x (J r) s₂) bot s₁) bot s
  done : ∀ A Φ s, AOk d A → Inv g Φ s → J [] Φ s → wpAny (model g.prog g.w) A (pyNext (.ref I)) (fun o s₁ => o = none ∧ ∃ Φ', Tr fp gi Φ s Φ' s₁) bot s
  self : ∀ A r Φ s, AOk d A → Inv g Φ s → J r Φ s → wpAny (model g.prog g.w) A (pyIter (.ref I)) (fun x s' => x = .ref I ∧ s' = s) bot s

/-- the same with places that it takes on the way -/
structure IterD (g : Gd) (d : Nat) (A : Around) (I : Addr) (tg : Expr → Prop) (gi : Nat → Prop) (J : List V → (Addr → Prop) → FM → Shared → Prop) : Prop where
  stable : ∀ r fp Φ s Φ' s', J r fp Φ s → (∀ b, fp b → ∀ o, s.heap.get? b = some o → s'.heap.get? b = some o) → FLe Φ Φ' → (∀ a o, Φ' a = some o → s'.heap.get? a = some o) → (∀ b, fp b → Φ' b = none) → (∀ i, gi i → s'.gens[i]? = s.gens[i]?) → J r fp Φ' s'
  there : ∀ r fp Φ s, J r fp Φ s → ∀ b, fp b → Φ b = none ∧ (s.heap.get? b).isSome = true
  gthere : ∀ r fp Φ s, J r fp Φ s → ∀ i, gi i → (s.gens[i]?).isSome = true
  next : ∀ v r fp Φ s target, tg target → Inv g Φ s → J (v :: r) fp Φ s → wpAny (model g.prog g.w) A (pyNext (.ref I)) (fun o s₁ => ∃ x, o = some x ∧
    wpAny (model g.prog g.w) A (letOwnedTupleGo target (.ref I) x) (fun _ s₂ => NextD g fp gi Φ s v x (J r) s₂) bot s₁) bot s
  done : ∀ fp Φ s, Inv g Φ s → J [] fp Φ s → wpAny (model g.prog g.w) A (pyNext (.ref I)) (fun o s₁ => o = none ∧ ∃ Φ', Tr fp gi Φ s Φ' s₁) bot s
  self : ∀ r fp Φ s, Inv g Φ s → J r fp Φ s → wpAny (model g.prog g.w) A (pyIter (.ref I)) (fun x s' => x = .ref I ∧ s' = s) bot s

theorem IterD.keep {g d A I tg gi J} (W : IterD g d A I tg gi J) {r fp W' G' Φ s Φ' s'} (t : Tr W' G' Φ s Φ' s') (hw : ∀ b, fp b → ¬ W' b) (hg : ∀ i, gi i → ¬ G' i) (j : J r fp Φ s) : J r fp Φ' s' :=
  W.stable r fp Φ s Φ' s' j (fun b hb o e => t.keep b o e (hw b hb)) t.mono t.held (fun b hb => t.fresh b (W.there r fp Φ s j b hb).1 (W.there r fp Φ s j b hb).2 (hw b hb)) fun i hi => by
    obtain ⟨st, e⟩ := Option.isSome_iff_exists.mp (W.gthere r fp Φ s j i hi)
    rw [e]; exact t.gens i st (hg i hi) e

/-- what pyIter of a value gives -/
inductive ItPost (g : Gd) (d : Nat) (A : Around) (target : Expr) (Φ : FM) (s : Shared) (K : List V → Prop) (it : Value) (s₂ : Shared) : Prop
  | mk (Φ₂ : FM) (I : Addr) (tg : Expr → Prop) (fp : Addr → Prop) (gi : Nat → Prop) (J : List V → (Addr → Prop) → FM → Shared → Prop) (items : List V) : it = .ref I → Ext Φ s Φ₂ s₂ → IterD g d A I tg gi J → tg target → J items fp Φ₂ s₂ → (∀ b, fp b → s.heap.get? b = none) → (∀ i, gi i → s.gens[i]? = none) → K items → ItPost g d A target Φ s K it s₂
inductive ItPostS (g : Gd) (d : Nat) (target : Expr) (Φ : FM) (s : Shared) (K : List V → Prop) (it : Value) (s₂ : Shared) : Prop
  | mk (Φ₂ : FM) (I : Addr) (tg : Expr → Prop) (fp : Addr → Prop) (gi : Nat → Prop) (J : List V → FM → Shared → Prop) (items : List V) : it = .ref I → Ext Φ s Φ₂ s₂ → Iter g d I tg fp gi J → tg target → J items Φ₂ s₂ → (∀ b, fp b → s.heap.get? b = none) → (∀ i, gi i → s.gens[i]? = none) → K items → ItPostS g d target Φ s K it s₂
theorem ItPostS.dyn {g d A target Φ s K it s₂} (a : AOk d A) (h : ItPostS g d target Φ s K it s₂) : ItPost g d A target Φ s K it s₂ := by
  obtain ⟨Φ₂, I, tg, fp, gi, J, items, e, x, W, ht, hj, hf, hg, hk⟩ := h
  refine ⟨Φ₂, I, tg, fp, gi, fun r fp' Φ s => fp' = fp ∧ J r Φ s, items, e, x, ⟨?_, ?_, ?_, ?_, ?_, ?_⟩, ht, ⟨rfl, hj⟩, hf, hg, hk⟩
  · rintro r fp' Φ s Φ' s' ⟨rfl, j⟩ a b c d e
    exact ⟨rfl, W.stable r Φ s Φ' s' j a b c d e⟩
  · rintro r fp' Φ s ⟨rfl, j⟩
    exact W.there r Φ s j
  · rintro r fp' Φ s ⟨rfl, j⟩
    exact W.gthere r Φ s j
  · rintro v r fp' Φ s target ht i ⟨rfl, j⟩
    refine wpAny_mono (W.next A v r Φ s target a ht i j) (fun o s₁ ⟨x, e, h⟩ => ⟨x, e, wpAny_mono h (fun _ s₂ ⟨Φ', t, rr, jj⟩ => ⟨Φ', _, t, fun _ h => .inl h, rr, rfl, jj⟩) fun _ _ f => f⟩) fun _ _ f => f
  · rintro fp' Φ s i ⟨rfl, j⟩
    exact W.done A Φ s a i j
  · rintro r fp' Φ s i ⟨rfl, j⟩
    exact W.self A r Φ s a i j
noncomputable def ItEv (g : Gd) (d : Nat) (env : Env) (σ : Sg) (target e : Expr) (K : List V → Prop) : Prop :=
  ∀ A Φ s, AOk d A → Rd g env σ Φ s → wpAny (model g.prog g.w) A (eval e env) (fun x s₁ => wpAny (model g.prog g.w) A (pyIter x) (ItPost g d A target Φ s K) bot s₁) bot s
/-- a value that can be gone through -/
noncomputable def ItV (g : Gd) (d : Nat) (target : Expr) (v : V) (K : List V → Prop) : Prop :=
  ∀ A Φ s x, AOk d A → Inv g Φ s → Real g Φ v x → wpAny (model g.prog g.w) A (pyIter x) (ItPost g d A target Φ s K) bot s

theorem ItPost.after {g d A target Φ s Φ₁ s₁ K it s₂} (t : Ext Φ s Φ₁ s₁) (h : ItPost g d A target Φ₁ s₁ K it s₂) : ItPost g d A target Φ s K it s₂ := by
  obtain ⟨Φ₂, I, tg, fp, gi, J, items, e, x, W, ht, hj, hf, hg, hk⟩ := h
  refine ⟨Φ₂, I, tg, fp, gi, J, items, e, Tr.ext t x, W, ht, hj, fun b hb => ?_, fun i hi => ?_, hk⟩
  · cases q : s.heap.get? b with
    | none => rfl
    | some o => have := t.keep b o q id; rw [hf b hb] at this; cases this
  · cases q : s.gens[i]? with
    | none => rfl
    | some o => have := t.gens i o id q; rw [hg i hi] at this; cases this
theorem it_of {g d env σ target e K} (h : Ev g d env σ e fun v => ItV g d target v K) : ItEv g d env σ target e K := fun A Φ s a R =>
  wpAny_mono (h A Φ s a R) (fun x s₁ ⟨Φ₁, v, e₁, r₁, k₁⟩ => wpAny_mono (k₁ A Φ₁ s₁ x a (R.ext e₁).toInv r₁) (fun it s₂ h₂ => ItPost.after e₁ h₂) fun _ _ f => f) fun _ _ f => f

inductive AsP (g : Gd) (env : Env) (O : List Addr) (W : Addr → Prop) (Φ : FM) (s : Shared) (K : Sg → Prop) (s' : Shared) : Prop
  | mk (Φ' : FM) (σ' : Sg) : Tr W no1 Φ s Φ' s' → St g env σ' O Φ' s' → K σ' → AsP g env O W Φ s K s'
noncomputable def As (g : Gd) (d : Nat) (env : Env) (σ : Sg) (target : Expr) (v : V) (K : Sg → Prop) : Prop :=
  ∀ A Φ s O x, AOk d A → St g env σ O Φ s → Real g Φ v x → wpAny (model g.prog g.w) A (assign target env x) (fun _ s' => AsP g env O (Wr env O) Φ s K s') bot s

noncomputable def turnK (K : Fl → Sg → Prop) (N : Sg → Prop) : Fl → Sg → Prop
  | .next, σ => N σ
  | .cont, σ => N σ
  | .brk, σ => K .next σ
  | .ret u, σ => K (.ret u) σ
noncomputable def Sub (σ' σ : Sg) : Prop := ∀ x sl, σ'.lookup x = some sl → σ.lookup x = some sl
theorem sub_nil {σ : Sg} : Sub [] σ := fun x sl h => by cases h
theorem sub_cons {σ σ' : Sg} {x : Str} {sl : Slot} (h : σ.lookup x = some sl) (r : Sub σ' σ) : Sub ((x, sl) :: σ') σ := fun y sl' e => by
  by_cases q : y = x
  · subst q; rw [lookup_cons_eq] at e; cases e; exact h
  · rw [lookup_cons_ne q] at e; exact r y sl' e
theorem Sub.refl (σ : Sg) : Sub σ σ := fun _ _ h => h
noncomputable def loopP (g : Gd) (d : Nat) (env : Env) (target : Expr) (body : List Stmt) (K : Fl → Sg → Prop) : List V → Sg → Prop
  | [], σ => K .next σ
  | v :: r, σ => As g d env σ target v fun σ' => Exs g d env σ' body (turnK K fun σ'' => ∃ σ₁, Sub σ₁ σ'' ∧ loopP g d env target body K r σ₁)

inductive ForI (g : Gd) (d : Nat) (env : Env) (target : Expr) (body : List Stmt) (K : Fl → Sg → Prop) (O : List Addr) (Φ : FM) (s : Shared) (J : List V → (Addr → Prop) → FM → Shared → Prop) (n : Nat) (s' : Shared) : Prop
  | mk (r : List V) (σ' : Sg) (O' : List Addr) (Φ' : FM) (fp : Addr → Prop) : n = r.length → St g env σ' O' Φ' s' → Tr (Wr env O) no1 Φ s Φ' s' → (∀ a ∈ O', a ∈ O ∨ s.heap.get? a = none) → J r fp Φ' s' → (∀ b, fp b → ¬ Wr env O' b ∧ (Wr env O b ∨ s.heap.get? b = none)) → loopP g d env target body K r σ' → ForI g d env target body K O Φ s J n s'
section
variable {g : Gd} {d : Nat} {env : Env} {σ : Sg} {K : Fl → Sg → Prop}

theorem ex_for {target iter body pos} (h : ItEv g d env σ target iter fun items => loopP g d env target body K items σ) (hs : ∀ x, foldedSetIterable iter env x = pure x := by intro _; rfl) :
    Ex g d env σ (.For target iter body [] pos) K := fun A Φ s O a S => by
  refine wpAny_For (wpAny_mono (h A Φ s a S.rd) (fun x s₁ h₁ => wpAny_mono h₁ (fun it s₂ ⟨Φ₂, I, tg, fp, gi, J, items, e, x₂, W, ht, hj, hf, hg, hk⟩ => ?_) fun _ _ f => f.elim) fun _ _ f => f.elim) hs
  subst e
  refine codeAny_forLoop_any (ForI g d env target body K O Φ s J) (fun n s' ⟨r, σ', O', Φ', fp, e, S', tr, ho, hj, hw, hk⟩ => ?_) items.length
    ⟨items, σ, O, Φ₂, fp, rfl, S.ext x₂, .of_ext x₂, fun _ h => .inl h, hj, fun b q => ⟨fun w => in_out (S.inheap w) (hf b q), .inr (hf b q)⟩, hk⟩
  subst e
  have hw1 : ∀ b, Wr env O' b → ¬ fp b := fun b w q => (hw b q).1 w
  cases r with
  | nil =>
    refine wpAny_mono (W.done fp Φ' s' S'.toInv hj) (fun o s₃ ⟨e, Φ₃, t₃⟩ => ?_) fun _ _ f => f.elim
    subst e
    exact wpAny_execs_nil ⟨Φ₃, σ', O', .next, tr.trans t₃ (fun b q => (hw b q).2) (fun i hi => .inr (hg i hi)), ho, S'.tr t₃ hw1, trivial, hk⟩
  | cons v r =>
    refine wpAny_mono (W.next v r fp Φ' s' target ht S'.toInv hj) (fun o s₃ ⟨x, e, h₃⟩ => ?_) fun _ _ f => f.elim
    subst e
    refine wpAny_mono h₃ (fun _ s₄ ⟨Φ₄, fp', t₄, hfn, r₄, j₄⟩ => ?_) fun _ _ f => f.elim
    have tr₄ := tr.trans t₄ (fun b q => (hw b q).2) (fun i hi => .inr (hg i hi))
    have hw2 : ∀ b, fp' b → ¬ Wr env O' b ∧ (Wr env O b ∨ s.heap.get? b = none) := fun b q => (hfn b q).elim (hw b) fun e => ⟨fun w => in_out (S'.inheap w) e, (Classical.em (Wr env O b)).imp id fun w => tr.upN e w⟩
    refine wpAny_mono (hk A Φ₄ s₄ O' x a (S'.tr t₄ hw1) r₄) (fun _ s₅ ⟨Φ₅, σ₅, t₅, S₅, hb⟩ => ?_) fun _ _ f => f.elim
    have tr₅ := tr₄.trans t₅ (wr_osub ho) fun _ q => q.elim
    have j₅ := W.keep t₅ (fun b q => (hw2 b q).1) (fun _ _ q => q) j₄
    refine wpAny_mono (hb A Φ₅ s₅ O' a S₅) (fun f s₆ ⟨Φ₆, σ₆, O₆, fv, t₆, ho₆, S₆, hf₆, hk₆⟩ => ?_) fun _ _ f => f.elim
    have j₆ := W.keep t₆ (fun b q => (hw2 b q).1) (fun _ _ q => q) j₅
    have tr₆ := tr₅.trans t₆ (wr_osub ho) fun _ q => q.elim
    have ho' := osub_trans (O'' := O₆) tr₅ (fun a w => S₆.apart_own w) ho ho₆
    have hw3 : ∀ b, fp' b → ¬ Wr env O₆ b ∧ (Wr env O b ∨ s.heap.get? b = none) := fun b q => ⟨fun w => (wr_osub ho₆ b w).elim (hw2 b q).1 fun e => in_out (W.there r fp' Φ₅ s₅ j₅ b q).2 e, (hw2 b q).2⟩
    have again : (∃ σ₁, Sub σ₁ σ₆ ∧ loopP g d env target body K r σ₁) → ∃ m, m < (v :: r).length ∧ ForI g d env target body K O Φ s J m s₆ := fun ⟨σ₁, hs₁, hk₁⟩ => ⟨r.length, Nat.lt_succ_self _, r, σ₁, O₆, Φ₆, fp', rfl, S₆.weak hs₁, tr₆, ho', j₆, hw3, hk₁⟩
    refine hf₆.by (P := fun fv f => turnK K (fun σ'' => ∃ σ₁, Sub σ₁ σ'' ∧ loopP g d env target body K r σ₁) fv σ₆ → match f with
      | .next => ∃ m, m < (v :: r).length ∧ ForI g d env target body K O Φ s J m s₆
      | .cont => ∃ m, m < (v :: r).length ∧ ForI g d env target body K O Φ s J m s₆
      | .brk => SPost g env O Φ s K .next s₆
      | .ret x => SPost g env O Φ s K (.ret x) s₆) again (fun k => ⟨Φ₆, σ₆, O₆, .next, tr₆, ho', S₆, trivial, k⟩) again (fun u x q k => ⟨Φ₆, σ₆, O₆, .ret u, tr₆, ho', S₆, q, k⟩) hk₆

theorem as_name {x pos v} {K : Sg → Prop} (h : K ((x, .val v) :: σ)) (hx : isVar env x = true) : As g d env σ (.Name x pos) v K := fun A Φ s O val a S r =>
  wpAny_assign_Name (S.store (sl := .val v) hx r (fun q => by cases q) fun s' S' tr => ⟨Φ, _, tr, S', h⟩)

end
/-- the targets of a tuple, plain names -/
noncomputable def nameOf? : (e : Expr) → Option { x : Str // ∃ pos, e = .Name x pos }
  | .Name x pos => some ⟨x, pos, rfl⟩
  | _ => none
noncomputable def names? : List Expr → Option (List Str)
  | [] => some []
  | e :: r => (nameOf? e).bind fun x => (names? r).map (x.1 :: ·)
inductive NamesOf : List Expr → List Str → Prop
  | nil : NamesOf [] []
  | cons {x pos r xs} : NamesOf r xs → NamesOf (.Name x pos :: r) (x :: xs)
theorem names_of : ∀ {elts : List Expr} {xs : List Str}, names? elts = some xs → NamesOf elts xs
  | [], xs, h => Option.some.inj h ▸ .nil
  | e :: r, xs, h => by
    obtain ⟨x, hx, h⟩ := Option.bind_eq_some_iff.mp h
    obtain ⟨ys, hy, e2⟩ := Option.map_eq_some_iff.mp h
    obtain ⟨x, pos, rfl⟩ := x
    exact e2 ▸ .cons (names_of hy)

/-- values that wait to be stored -/
structure Pend (g : Gd) (env : Env) (σ : Sg) (O : List Addr) (Φ : FM) (s : Shared) (ps : List (Slot × Value)) : Prop where
  real : ∀ p ∈ ps, SReal g Φ s.heap p.1 p.2
  own : ∀ p ∈ ps, p.1.isOwn = true → ∀ a, p.2 = .ref a → a ∈ O ∧ ∀ y sl', σ.lookup y = some sl' → sl'.isOwn = true → ¬ Holds env s.heap y (.ref a)
  apart : ps.Pairwise fun p q => p.1.isOwn = true → q.1.isOwn = true → p.2 ≠ q.2
noncomputable def bindS : List Str → List Slot → Sg → Sg
  | x :: xs, v :: vs, σ => bindS xs vs ((x, v) :: σ)
  | _, _, σ => σ


section
variable {g : Gd} {d : Nat} {env : Env} {σ : Sg} {O : List Addr} {Φ : FM} {s : Shared}
theorem Pend.rev {ps : List (Slot × Value)} (P : Pend g env σ O Φ s ps) : Pend g env σ O Φ s ps.reverse :=
  ⟨fun p h => P.real p (List.mem_reverse.mp h), fun p h => P.own p (List.mem_reverse.mp h), List.pairwise_reverse.mpr (P.apart.imp fun h o1 o2 e => h o2 o1 e.symm)⟩

theorem Pend.store {M : Model} {A : Around} {E : Value → Shared → Prop} {x : Str} {p : Slot × Value} {ps : List (Slot × Value)} {Q : Unit → Shared → Prop} (S : St g env σ O Φ s) (P : Pend g env σ O Φ s (p :: ps)) (hx : isVar env x = true)
    (h : ∀ s', St g env ((x, p.1) :: σ) O Φ s' → Tr (Wx env x) no1 Φ s Φ s' → Pend g env ((x, p.1) :: σ) O Φ s' ps → Q () s') : wpAny M A (storeName env x p.2) Q E s := by
  have hp := List.pairwise_cons.mp P.apart
  refine S.storeY (sl := p.1) hx (P.real p (.head _)) (fun o a e => ⟨(P.own p (.head _) o a e).1, fun y sl' _ hy ho => (P.own p (.head _) o a e).2 y sl' hy ho⟩) fun s' S' tr hX hk _ => ?_
  refine h s' S' tr ⟨fun q hq => ?_, fun q hq o a e => ⟨(P.own q (.tail _ hq) o a e).1, fun y sl' hy ho H => ?_⟩, hp.2⟩
  · have hr := P.real q (.tail _ hq)
    have ho := P.own q (.tail _ hq)
    have keepO : ∀ a, a ∈ O → ∀ o, s.heap.get? a = some o → s'.heap.get? a = some o := fun a ha o e => tr.keep a o e fun w => by
      rcases w with w | w
      · exact (S.ow a ha).2.2.1 w.2
      · exact (S.ow a ha).2.2.2 x a (mem_of_lookup w.2) rfl
    obtain ⟨sl, v⟩ := q
    cases sl with
    | val u => exact hr
    | own l =>
      obtain ⟨a, xs, n, e, f, oo, r⟩ := hr
      exact ⟨a, xs, n, e, f, keepO a (ho rfl a e).1 _ oo, r⟩
    | ownd l =>
      obtain ⟨a, o, kvs, e, f, oo, r⟩ := hr
      exact ⟨a, o, kvs, e, f, keepO a (ho rfl a e).1 _ oo, r⟩
  · -- a name of the frame's that holds a waiting thing
    by_cases hyx : y = x
    · subst hyx
      rw [lookup_cons_eq] at hy; cases hy
      have hv : p.2 = .ref a := Holds.det hX H
      exact hp.1 q hq ho o (hv.trans e.symm)
    · rw [lookup_cons_ne hyx] at hy
      obtain ⟨v, Hv, Rv, _⟩ := S.vars y sl' hy
      have hv : v = .ref a := Holds.det (hk y v hyx Hv) H
      subst hv
      exact (P.own q (.tail _ hq) o a e).2 y sl' hy ho Hv

/-- stores in turn -/
noncomputable def Fits (g : Gd) (A : Around) (env : Env) : List Str → List (Value → Sem Unit) → Prop
  | [], [] => True
  | x :: xs, t :: ts => (∀ v (s : Shared) (Q : Unit → Shared → Prop), wpAny (model g.prog g.w) A (storeName env x v) Q bot s → wpAny (model g.prog g.w) A (t v) Q bot s) ∧ Fits g A env xs ts
  | _, _ => False
theorem Pend.stores {A : Around} {W : Addr → Prop} {xs : List Str} :
    ∀ {ts : List (Value → Sem Unit)} {ps : List (Slot × Value)} {σ : Sg} {s : Shared}, Fits g A env xs ts → xs.length = ps.length → (∀ x ∈ xs, isVar env x = true ∧ ∀ a, Wx env x a → W a) → St g env σ O Φ s → Pend g env σ O Φ s ps →
    wpAny (model g.prog g.w) A (assignInOrder ts (ps.map (·.2))) (fun _ s' => Tr W no1 Φ s Φ s' ∧ St g env (bindS xs (ps.map (·.1)) σ) O Φ s') bot s := by
  induction xs with
  | nil =>
    intro ts ps σ s hf hl hv S P
    cases ps with
    | nil => cases ts with
      | nil => exact wpAny_pure ⟨.refl S.held, S⟩
      | cons => exact hf.elim
    | cons => cases hl
  | cons x xs ih =>
    intro ts ps σ s hf hl hv S P
    cases ps with
    | nil => cases hl
    | cons p ps => cases ts with
      | nil => exact hf.elim
      | cons t ts =>
        show wpAny _ A (do holding (ps.map (·.2)) (t p.2); assignInOrder ts (ps.map (·.2))) _ _ s
        refine wpAny_bind (wpAny_holding (hf.1 p.2 s _ (P.store S (hv x (.head _)).1 fun s' S' tr P' => ?_)))
        exact wpAny_mono (ih hf.2 (Nat.succ.inj hl) (fun y hy => hv y (.tail _ hy)) S' P') (fun _ s₂ h₂ => ⟨(tr.mono_W (hv x (.head _)).2 fun _ w => w).trans h₂.1 (fun _ q => .inl q) fun _ q => .inl q, h₂.2⟩) fun _ _ f => f
theorem fits_names {A : Around} {elts : List Expr} {xs : List Str} (h : NamesOf elts xs) : Fits g A env xs ((assignEach elts env).map (·.2)) := by
  induction h with
  | nil => trivial
  | cons _ ih => exact ⟨fun v s Q h => wpAny_assign_Name h, ih⟩
theorem names_plain {elts : List Expr} {xs : List Str} (h : NamesOf elts xs) : (assignEach elts env).length = xs.length ∧ (assignEach elts env).findIdx? (·.1) = none := by
  induction h with
  | nil => exact ⟨rfl, rfl⟩
  | @cons x pos r xs h ih =>
    have e : assignEach (.Name x pos :: r) env = (false, assign (.Name x pos) env) :: assignEach r env := rfl
    rw [e]
    refine ⟨congrArg (· + 1) ih.1, ?_⟩
    rw [List.findIdx?_cons, ih.2]; rfl
theorem fits_bind {A : Around} : ∀ (xs : List Str), Fits g A env xs (xs.map fun n v => bindName env n v)
  | [] => trivial
  | x :: xs => ⟨fun v s Q h => wpAny_bindName h, fits_bind xs⟩

noncomputable def bindAll (xs : List Str) (vs : List V) (σ : Sg) : Sg := bindS xs (vs.map .val) σ
theorem pend_of {vs : List V} {ys : List Value} (r : Reals g Φ vs ys) : ∃ ps : List (Slot × Value), ps.map (·.2) = ys ∧ ps.map (·.1) = vs.map Slot.val ∧ (∀ p ∈ ps, p.1.isOwn = false ∧ SReal g Φ s.heap p.1 p.2) := by
  induction vs generalizing ys with
  | nil => exact ⟨[], r.unnil.symm, rfl, fun _ h => nomatch h⟩
  | cons v vs ih =>
    obtain ⟨y, ys', rfl, ry, r⟩ := r.uncons
    obtain ⟨ps, h1, h2, h3⟩ := ih r
    exact ⟨(.val v, y) :: ps, congrArg (y :: ·) h1, congrArg (Slot.val v :: ·) h2, List.forall_mem_cons.mpr ⟨⟨rfl, ry⟩, h3⟩⟩
theorem assigns_names {A : Around} {W : Addr → Prop} {elts : List Expr} {xs : List Str} (hn : NamesOf elts xs) (hv : ∀ x ∈ xs, isVar env x = true ∧ ∀ a, Wx env x a → W a) {vs : List V} {ys : List Value} (S : St g env σ O Φ s) (r : Reals g Φ vs ys) (hl : vs.length = xs.length) :
    wpAny (model g.prog g.w) A (assignInOrder ((assignEach elts env).map (·.2)) ys) (fun _ s' => Tr W no1 Φ s Φ s' ∧ St g env (bindAll xs vs σ) O Φ s') bot s := by
  obtain ⟨ps, rfl, h2, h3⟩ := pend_of (s := s) r
  have hlen : xs.length = ps.length := hl.symm.trans (by rw [← List.length_map (f := Slot.val), ← h2, List.length_map])
  unfold bindAll
  rw [← h2]
  exact Pend.stores (fits_names hn) hlen hv S ⟨fun p hp => (h3 p hp).2, fun p hp o => Bool.noConfusion ((h3 p hp).1.symm.trans o), List.pairwise_iff_forall_sublist.mpr fun {p q} hs o => Bool.noConfusion ((h3 p (hs.subset (.head _))).1.symm.trans o)⟩
end
section
variable {g : Gd} {d : Nat} {env : Env} {σ : Sg}
theorem as_tupW {A : Around} {W : Addr → Prop} {elts k pos vs xs} {val : Value} {O : List Addr} {Φ : FM} {s : Shared} (a : AOk d A) (S : St g env σ O Φ s) (r : Real g Φ (.tup vs) val) (hn : names? elts = some xs) (hv : ∀ x ∈ xs, isVar env x = true ∧ ∀ a, Wx env x a → W a) (hl : vs.length = xs.length) :
    wpAny (model g.prog g.w) A (assign (.Tuple elts k pos) env val) (fun _ s' => Tr W no1 Φ s Φ s' ∧ St g env (bindAll xs vs σ) O Φ s') bot s := by
  refine r.onT fun b o ys n h1 h2 h3 r => ?_
  have np := names_plain (env := env) (names_of hn)
  refine wpAny_assign_Tuple a.1 (t := b) (items := ys.toArray) ⟨o, S.held _ _ h1, h2, n, h3⟩ (by rw [np.1, List.size_toArray, r.length, hl]) np.2 fun h' hx => ?_
  have ex : Ext Φ s Φ { s with heap := h' } := Ext.keeps S.toInv (fun a o e => hx a o (Nat.ne_of_lt (Heap.lt_size e)) e) s.toks
  exact wpAny_mono (assigns_names (names_of hn) hv (S.ext ex) (r.mono ex.mono) hl) (fun _ s₂ h₂ => ⟨(Tr.of_ext ex).trans h₂.1 (fun _ q => .inl q) (fun _ q => .inl q), h₂.2⟩) fun _ _ f => f
theorem as_tup {elts k pos vs xs} {K : Sg → Prop} (h : K (bindAll xs vs σ)) (hn : names? elts = some xs) (hv : (xs.all (isVar env)) = true) (hl : vs.length = xs.length) : As g d env σ (.Tuple elts k pos) (.tup vs) K := fun A Φ s O val a S r =>
  wpAny_mono (as_tupW a S r hn (fun x hx => ⟨List.all_eq_true.mp hv x hx, fun a w => wx_wr a w⟩) hl) (fun _ s₂ h₂ => ⟨Φ, _, h₂.1, h₂.2, h⟩) fun _ _ f => f
end
end Mine
end

section
open PySem PySem.Calls PyProof.Rows PySem.W
namespace Mine

theorem drop_cons {α : Type} {l : List α} {i : Nat} {v : α} {r : List α} (h : v :: r = l.drop i) : i < l.length ∧ l[i]? = some v ∧ r = l.drop (i + 1) := by
  have hlt : i < l.length := by
    rcases Nat.lt_or_ge i l.length with q | q
    · exact q
    · rw [List.drop_eq_nil_of_le q] at h; cases h
  rw [List.drop_eq_getElem_cons hlt] at h
  injection h with h1 h2
  exact ⟨hlt, by rw [List.getElem?_eq_getElem hlt, h1], h2⟩

noncomputable def isTupT : Expr → Prop
  | .Tuple .. => True
  | _ => False
noncomputable def isPlainT : Expr → Prop
  | .Tuple .. => True
  | .Name .. => True
  | _ => False
noncomputable def isNameT : Expr → Prop
  | .Name .. => True
  | _ => False

section
variable {g : Gd} {d : Nat}

/-- an iterator that goes by index: Stt i h, its state ahead of the item i -/
inductive IxI (items : List V) (own : Addr → Prop) (Φ₀ : FM) (Stt : Nat → Heap → Prop) (r : List V) (Φ : FM) (s : Shared) : Prop
  | mk (i : Nat) : i ≤ items.length → r = items.drop i → Stt i s.heap → FLe Φ₀ Φ → (∀ a o, Φ a = some o → s.heap.get? a = some o) → (∀ b, own b → Φ b = none) → IxI items own Φ₀ Stt r Φ s
theorem iter_ix {I : Addr} {tg : Expr → Prop} {own : Addr → Prop} {items : List V} {Stt : Nat → Heap → Prop} {Φ₀ : FM}
    (frame : ∀ i h h', Stt i h → (∀ b, own b → ∀ o, h.get? b = some o → h'.get? b = some o) → (∀ b o, Φ₀ b = some o → h.get? b = some o ∧ h'.get? b = some o) → Stt i h')
    (live : ∀ i h, Stt i h → ∀ b, own b → (h.get? b).isSome = true)
    (next : ∀ A v i Φ s target, AOk d A → tg target → Inv g Φ s → i < items.length → items[i]? = some v → Stt i s.heap → FLe Φ₀ Φ → (∀ b, own b → Φ b = none) → wpAny (model g.prog g.w) A (pyNext (.ref I)) (fun o s₁ => ∃ x, o = some x ∧
      wpAny (model g.prog g.w) A (letOwnedTupleGo target (.ref I) x) (fun _ s₂ => NextS g own no1 Φ s v x (fun Φ' s' => Stt (i + 1) s'.heap ∧ ∀ b, own b → Φ' b = none) s₂) bot s₁) bot s)
    (done : ∀ A Φ s, AOk d A → Inv g Φ s → Stt items.length s.heap → (∀ b, own b → Φ b = none) → wpAny (model g.prog g.w) A (pyNext (.ref I)) (fun o s₁ => o = none ∧ ∃ Φ', Tr own no1 Φ s Φ' s₁) bot s)
    (self : ∀ A i (s : Shared), AOk d A → Stt i s.heap → wpAny (model g.prog g.w) A (pyIter (.ref I)) (fun x s' => x = .ref I ∧ s' = s) bot s) : Iter g d I tg own no1 (IxI items own Φ₀ Stt) where
  stable := fun r Φ s Φ' s' ⟨i, hi, e, st, le, hh, ho⟩ hk m held fr _ => ⟨i, hi, e, frame i _ _ st hk fun b o e => ⟨hh b o (le b o e), held b o (m b o (le b o e))⟩, le.trans m, held, fr⟩
  there := fun r Φ s ⟨i, hi, e, st, le, hh, ho⟩ b hb => ⟨ho b hb, live i _ st b hb⟩
  gthere := fun _ _ _ _ _ h => h.elim
  next := fun A v r Φ s target a ht inv ⟨i, hi, hr, st, le, hh, ho⟩ => by
    obtain ⟨hlt, hv, e⟩ := drop_cons hr
    refine wpAny_mono (next A v i Φ s target a ht inv hlt hv st le ho) (fun o s₁ ⟨x, e1, h⟩ => ⟨x, e1, wpAny_mono h (fun _ s₂ ⟨Φ', t, rr, st', ho'⟩ => ⟨Φ', t, rr, i + 1, hlt, e, st', le.trans t.mono, t.held, ho'⟩) fun _ _ f => f⟩) fun _ _ f => f
  done := fun A Φ s a inv ⟨i, hi, hr, st, le, hh, ho⟩ => done A Φ s a inv (Nat.le_antisymm hi (List.drop_eq_nil_iff.mp hr.symm) ▸ st) ho
  self := fun A r Φ s a inv ⟨i, hi, hr, st, le, hh, ho⟩ => self A i s a st

theorem walk_frame {fpl own : List Addr} {Φ₀ : FM} {h h' : Heap} (hfro : ∀ b ∈ fpl, b ∉ own → (Φ₀ b).isSome = true) (hk : ∀ b, b ∈ own → ∀ o, h.get? b = some o → h'.get? b = some o) (hf : ∀ b o, Φ₀ b = some o → h.get? b = some o ∧ h'.get? b = some o) :
    ∀ b ∈ fpl, ∀ o, h.get? b = some o → h'.get? b = some o := fun b hb o e => by
  by_cases qo : b ∈ own
  · exact hk b qo o e
  · obtain ⟨o', e'⟩ := Option.isSome_iff_exists.mp (hfro b hb qo)
    exact (Option.some.inj ((hf b o' e').1.symm.trans e)) ▸ (hf b o' e').2
theorem iter_of_walks {A₀ : Around} (a₀ : AOk d A₀) {I : Addr} {fpl wr own : List Addr} {n : Nat} {P : Nat → Value → Prop} {Stt : Nat → Heap → Prop} {items : List V} {tg : Expr → Prop} {Φ₀ : FM}
    (W : ∀ A, AOk d A → Walks g.prog g.w A I fpl wr n P Stt) (hfro : ∀ b ∈ fpl, b ∉ own → (Φ₀ b).isSome = true) (hsub : ∀ b ∈ wr, b ∈ own) (hlive : ∀ i h, Stt i h → ∀ b ∈ own, (h.get? b).isSome = true)
    (hn : items.length = n) (hP : ∀ i v, i < n → P i v → ∀ Φ, FLe Φ₀ Φ → ∃ u, items[i]? = some u ∧ Real g Φ u v)
    (hgo : ∀ target, tg target → ∀ A i (s : Shared) v, Stt i s.heap → wpAny (model g.prog g.w) A (letOwnedTupleGo target (.ref I) v) (fun _ s' => s' = s) bot s) :
    Iter g d I tg (fun b => b ∈ own) no1 (IxI items (fun b => b ∈ own) Φ₀ Stt) := iter_ix
  (fun i h h' st hk hf => (W _ a₀).frame i h h' st (walk_frame hfro hk hf)) hlive
  (fun A v i Φ s target a ht inv hlt hv st le ho => (W A a).item i s _ _ (hn ▸ hlt) st fun x h' tk hPx st' hk => ⟨x, rfl, wpAny_mono (hgo target ht A (i + 1) _ x st') (fun _ s₂ e => by
    subst e
    obtain ⟨u, hu, ru⟩ := hP i x (hn ▸ hlt) hPx Φ le
    have tr : Tr (fun b => b ∈ own) no1 Φ s Φ { s with heap := h', toks := tk } := Tr.keeps inv (fun b o q e => hk b o (fun w => q (hsub b w)) e) ho tk
    exact ⟨Φ, tr, Option.some.inj (hu.symm.trans hv) ▸ ru, st', ho⟩) fun _ _ f => f⟩)
  (fun A Φ s a inv st ho => (W A a).done s _ _ (hn ▸ st) fun h' tk hk => ⟨rfl, Φ, Tr.keeps inv (fun b o q e => hk b o (fun w => q (hsub b w)) e) ho tk⟩)
  (fun A i s a st => (W A a).self i s _ _ st ⟨rfl, rfl⟩)

theorem iter_of_walksT {A₀ : Around} (a₀ : AOk d A₀) {I : Addr} {fpl wr own : List Addr} {n : Nat} {Pt : Nat → Array Value → Prop} {Stt : Nat → Heap → Prop} {Mid : Nat → Addr → Heap → Prop} {items : List V} {Φ₀ : FM}
    (W : ∀ A, AOk d A → WalksT g.prog g.w A I fpl wr n Pt Stt Mid) (hfro : ∀ b ∈ fpl, b ∉ own → (Φ₀ b).isSome = true) (hsub : ∀ b ∈ wr, b ∈ own) (hlive : ∀ i h, Stt i h → ∀ b ∈ own, (h.get? b).isSome = true)
    (hn : items.length = n) (hP : ∀ i xs, i < n → Pt i xs → ∀ Φ, FLe Φ₀ Φ → ∃ us, items[i]? = some (.tup us) ∧ Reals g Φ us xs.toList) :
    Iter g d I isTupT (fun b => b ∈ own) no1 (IxI items (fun b => b ∈ own) Φ₀ Stt) := iter_ix
  (fun i h h' st hk hf => (W _ a₀).frame i h h' st (walk_frame hfro hk hf)) hlive
  (fun A v i Φ s target a ht inv hlt hv st le ho => by
    cases target <;> first | exact ht.elim | skip
    rename_i elts k pos
    refine (W A a).item i s _ _ (hn ▸ hlt) st fun T xs h' tk hPx hT ⟨o, ho', hc, m, hd⟩ mid hk => ⟨.ref T, rfl, (W A a).go elts k pos i T { s with heap := h', toks := tk } _ _ mid fun h'' st'' hk'' => ?_⟩
    have hTo : h''.get? T = some o := hk'' T o ((W A a).apart i T h' mid) ho'
    have tr : Tr (fun b => b ∈ own) no1 Φ s Φ { s with heap := h'', toks := tk } := Tr.keeps inv (fun b o q e => hk'' b o (fun w => q (hsub b w)) (hk b o (fun w => q (hsub b w)) e)) ho tk
    have hTn : Φ T = none := inv.none (above_none hT)
    have tr' := tr.freeze (g := g) (inv.ext tr) hTo hTn (.inl (above_none hT))
    obtain ⟨us, hu, ru⟩ := hP i xs (hn ▸ hlt) hPx (Φ.put T o) (le.trans (FM.put_le hTn))
    refine ⟨Φ.put T o, tr', Option.some.inj (hu.symm.trans hv) ▸ .tup (FM.put_self ..) hc (by rw [hd]) ru, st'', fun b hb => ?_⟩
    exact (if_neg fun q : b = T => in_out (hlive i _ st b hb) (q ▸ above_none hT)).trans (ho b hb))
  (fun A Φ s a inv st ho => (W A a).done s _ _ (hn ▸ st) fun h' tk hk => ⟨rfl, Φ, Tr.keeps inv (fun b o q e => hk b o (fun w => q (hsub b w)) e) ho tk⟩)
  (fun A i s a st => (W A a).self i s _ _ st ⟨rfl, rfl⟩)

theorem letGo_name {A : Around} {x pos I v} {s : Shared} : wpAny (model g.prog g.w) A (letOwnedTupleGo (.Name x pos) (.ref I) v) (fun _ s' => s' = s) bot s := fun _ _ _ => rfl
/-- an iterator of a class that owns no tuple -/
theorem letGo_plain {A : Around} {target I v} {s : Shared} {o : Obj} {T : String} {vs : Array Value} (ht : isPlainT target) (ho : s.heap.get? I = some o) (hc : o.cls = .type T) (hd : o.data = .fields vs)
    (hT : (["enumerate", "zip", "dict_itemiterator", "dict_reverseitemiterator", "odict_iterator", "itertools.zip_longest", "itertools.pairwise"].contains T) = false) :
    wpAny (model g.prog g.w) A (letOwnedTupleGo target (.ref I) v) (fun _ s' => s' = s) bot s := by
  cases target <;> first | exact ht.elim | skip
  · exact letGo_name
  · cases v <;> first | exact fun _ _ _ => rfl | skip
    rename_i a
    unfold letOwnedTupleGo
    refine wpAny_bind (wpAny_load ho ?_)
    rw [hc, hd]
    show wpAny _ A (if (["enumerate", "zip", "dict_itemiterator", "dict_reverseitemiterator", "odict_iterator", "itertools.zip_longest", "itertools.pairwise"].contains T && vs[0]? == some (rawInt a)) = true then _ else _) _ _ s
    rw [if_neg (by rw [hT, Bool.false_and]; exact Bool.false_ne_true)]
    exact wpAny_pure rfl

theorem itv_list {target l} {K : List V → Prop} (h : K l) (ht : isPlainT target := by trivial) : ItV g d target (.list l) K := fun A Φ s x a i r => by
  refine r.onL fun b xs n h1 r => ?_
  have hl : s.heap.IsList b xs.toArray := ⟨_, i.held _ _ h1, rfl, n, rfl⟩
  refine wpAny_pyIter_list hl ?_
  have hb : b < s.heap.objs.size := Heap.lt_size (i.held _ _ h1)
  have x₂ := Ext.push' i { cls := .type "list_iterator", data := .fields #[.ref b, .int 0 0] } s.toks
  refine ItPostS.dyn a ?_
  refine ⟨Φ, _, isPlainT, _, _, _, l, rfl, x₂, iter_of_walks (own := [s.heap.objs.size]) (items := l) (Φ₀ := Φ) (tg := isPlainT) a (fun A a => Walks.list a.1 s.heap.objs.size b (Nat.ne_of_lt hb) xs.toArray) ?_ (fun b hb => hb) ?_ ?_ ?_ ?_, ht,
    ⟨0, Nat.zero_le _, rfl, ⟨⟨_, Heap.get?_push_size _ rfl, rfl, rfl⟩, hl.at fun o e => Heap.get?_push_of_some _ e⟩, .rfl' _, x₂.held, fun c hc => ?_⟩, fun c hc => ?_, (fun _ h => h.elim), h⟩
  · intro c hc hn
    simp at hc hn
    rcases hc with hc | hc
    · exact absurd hc hn
    · rw [hc, h1]; rfl
  · rintro j h ⟨⟨o, ho, _⟩, _⟩ c hc
    rw [List.mem_singleton.mp hc, ho]; rfl
  · rw [List.size_toArray, r.length]
  · intro j v _ hv Φ' le
    have hj : xs[j]? = some v := by simpa using hv
    have hlt := (List.getElem?_eq_some_iff.mp hj).1
    rw [r.length] at hlt
    obtain ⟨y, hy, ry⟩ := r.get (List.getElem?_eq_getElem hlt)
    rw [hj] at hy; cases hy
    exact ⟨_, List.getElem?_eq_getElem hlt, ry.mono le⟩
  · rintro t htt A' j s' v ⟨⟨o, ho, hc, hd⟩, _⟩
    exact letGo_plain htt ho hc hd (by decide)
  · rw [List.mem_singleton.mp hc]; exact i.none (size_none _)
  · rw [List.mem_singleton.mp hc]; exact size_none _
end
end Mine
end

section
open PySem PySem.Calls PyProof.Rows PySem.W
namespace Mine

/-- arguments without stars -/
noncomputable def plainArgs : List Expr → Bool
  | [] => true
  | .Starred .. :: _ => false
  | _ :: r => plainArgs r
theorem starEach_plain {env : Env} : ∀ {es : List Expr}, plainArgs es = true → starEach es env = es.map fun e => (false, eval e env)
  | [], _ => rfl
  | e :: r, h => by
    cases e <;> first | (cases h; done) | skip
    all_goals (simp only [plainArgs] at h; have ih := starEach_plain (env := env) h; simp only [List.map_cons, ← ih]; rfl)
theorem plain_any {env : Env} {pos : Pos} {es : List Expr} (h : plainArgs es = true) : (backTo pos (starEach es env)).any (·.1) = false := by
  rw [starEach_plain h]
  simp [backTo]

section
variable {M : Model} {A : Around} {E : Value → Shared → Prop} {s : Shared} {env : Env}

theorem evalArgs_pl {f : Value} {pos : Pos} {es : List Expr} {Q : Args → Shared → Prop} (hp : plainArgs es = true)
    (h : wpAny M A (spliced (backTo pos (starEach es env))) (fun vs s' => Q ⟨vs, []⟩ s') E s) : wpAny M A (evalArgs f true (backTo pos (starEach es env)) []) Q E s := by
  cases es with
  | nil =>
    unfold evalArgs
    show wpAny M A (spliced (backTo pos (starEach [] env)) >>= _) Q E s
    refine wpAny_bind (wpAny_mono h (fun vs s' h' => ?_) fun _ _ x => x)
    refine wpAny_bind (wpAny_pure ?_)
    refine wpAny_holding ?_
    exact wpAny_bind (wpAny_pure (wpAny_bind (wpAny_pure (wpAny_pure h'))))
  | cons e r =>
    rw [starEach_plain hp] at h ⊢
    exact evalArgs_plain h

theorem callWith_val {pos : Pos} {f : Value} {first : List Value} {es : List Expr} {Q : Value → Shared → Prop} (hf : keeperOf f = pure .machine) (hp : plainArgs es = true)
    (h : wpAny M A (spliced (backTo pos (starEach es env))) (fun vs s₁ => wpAny M A (call f (first ++ vs)) Q E s₁) E s) : wpAny M A (callWith pos f first (backTo pos (starEach es env)) []) Q E s := by
  unfold callWith
  refine wpAny_bind (wpAny_holding (wpAny_mono (evalArgs_pl (Q := fun a s₁ => wpAny M A (call f (first ++ a.pos) a.kw) Q E s₁) hp h) (fun a s₁ h₁ => wpAny_bind (wpAny_standAt ?_)) fun _ _ x => x))
  simp only [plain_any hp, List.any_nil, Bool.or_false, hf]
  refine wpAny_bind (wpAny_pure ?_)
  exact wpAny_bind (wpAny_mono h₁ (fun r s₂ hr => wpAny_bind (wpAny_holding (wpAny_point (wpAny_pure hr)))) fun _ _ x => x)
theorem callWith_fn {pos : Pos} {a : Addr} {o : Obj} {fd : FuncData} {first : List Value} {es : List Expr} {Q : Value → Shared → Prop} (hp : plainArgs es = true) (hd : o.data = .func fd)
    (h : wpAny M A (spliced (backTo pos (starEach es env))) (fun vs s₁ => s₁.heap.get? a = some o ∧ wpAny M A (call (.ref a) (first ++ vs)) Q E s₁) E s) : wpAny M A (callWith pos (.ref a) first (backTo pos (starEach es env)) []) Q E s :=
  callWith_function (o := o) (fd := fd) (evalArgs_pl (Q := fun x s₁ => (s₁.heap.get? a = some o ∧ o.data = .func fd) ∧ wpAny M A (call (.ref a) (first ++ x.pos) x.kw) Q E s₁) hp (wpAny_mono h (fun _ _ h₁ => ⟨⟨h₁.1, hd⟩, h₁.2⟩) fun _ _ x => x))
end

section
variable {g : Gd} {d : Nat} {env : Env} {σ : Sg} {K : V → Prop}

/-- what can be called by a name: a built-in, a type, or a function of the text's -/
noncomputable def Callee (g : Gd) (f : Value) : Prop := keeperOf f = pure .machine ∨ ∃ a o fd, f = .ref a ∧ g.hB.get? a = some o ∧ o.data = .func fd
theorem Callee.builtin (id : String) : Callee g (.builtin id) := .inl rfl
theorem Callee.type (id : String) : Callee g (.type id) := .inl rfl

theorem callWith_ok {A : Around} {Φ : FM} {s : Shared} {pos : Pos} {f : Value} {first : List Value} {es : List Expr} {Q : Value → Shared → Prop} (hc : Callee g f) (hp : plainArgs es = true) {K : List V → Prop} {σ : Sg} (hd : AOk d A) (R : Rd g env σ Φ s)
    (h : Evs g d env σ es K) (hQ : ∀ Φ₁ s₁ vs xs, Ext Φ s Φ₁ s₁ → Reals g Φ₁ vs xs → K vs → wpAny (model g.prog g.w) A (call f (first ++ xs)) Q bot s₁) :
    wpAny (model g.prog g.w) A (callWith pos f first (backTo pos (starEach es env)) []) Q bot s := by
  rcases hc with hc | ⟨a, o, fd, rfl, ho, hd'⟩
  · exact callWith_val hc hp (wpAny_mono (h A Φ s pos hd R) (fun xs s₁ ⟨Φ₁, vs, e, r, k⟩ => hQ Φ₁ s₁ vs xs e r k) fun _ _ f => f)
  · exact callWith_fn hp hd' (wpAny_mono (h A Φ s pos hd R) (fun xs s₁ ⟨Φ₁, vs, e, r, k⟩ => ⟨(R.ext e).toInv.base _ _ ho, hQ Φ₁ s₁ vs xs e r k⟩) fun _ _ f => f)

theorem ev_call {fn es pos} (h : Ev g d env σ fn fun fv => ∃ f, fv = .glob f ∧ Callee g f ∧ Evs g d env σ es fun vs => CallOk g d f vs K) (hp : plainArgs es = true := by with_unfolding_all rfl)
    (he : eval (.Call fn es [] pos) env = (do callWith pos (← eval fn env) [] (backTo pos (starEach es env)) (backToKw pos (keywordEach [] env))) := by with_unfolding_all rfl) : Ev g d env σ (.Call fn es [] pos) K := fun A Φ s a R => by
  unfold Wp
  rw [he]
  refine wpAny_bind (wpAny_mono (h A Φ s a R) (fun x s₁ ⟨Φ₁, v, e₁, r₁, f, hv, hc, k₁⟩ => ?_) fun _ _ f => f)
  subst hv
  refine r₁.onG ?_
  refine callWith_ok (first := []) hc hp a (R.ext e₁) k₁ fun Φ₂ s₂ vs xs e₂ r₂ k₂ => ?_
  exact (k₂ A Φ₂ s₂ xs a ((R.ext e₁).ext e₂).toInv r₂).after (Tr.ext e₁ e₂)

noncomputable def ItCall (g : Gd) (d : Nat) (target : Expr) (f : Value) (vs : List V) (K : List V → Prop) : Prop :=
  ∀ A Φ s xs, AOk d A → Inv g Φ s → Reals g Φ vs xs → wpAny (model g.prog g.w) A (call f xs) (fun x s₁ => wpAny (model g.prog g.w) A (pyIter x) (ItPost g d A target Φ s K) bot s₁) bot s
theorem it_call {target fn es pos} {K : List V → Prop} (h : Ev g d env σ fn fun fv => ∃ f, fv = .glob f ∧ Callee g f ∧ Evs g d env σ es fun vs => ItCall g d target f vs K) (hp : plainArgs es = true := by with_unfolding_all rfl)
    (he : eval (.Call fn es [] pos) env = (do callWith pos (← eval fn env) [] (backTo pos (starEach es env)) (backToKw pos (keywordEach [] env))) := by with_unfolding_all rfl) : ItEv g d env σ target (.Call fn es [] pos) K := fun A Φ s a R => by
  rw [he]
  refine wpAny_bind (wpAny_mono (h A Φ s a R) (fun x s₁ ⟨Φ₁, v, e₁, r₁, f, hv, hc, k₁⟩ => ?_) fun _ _ f => f)
  subst hv
  refine r₁.onG ?_
  refine callWith_ok (first := []) hc hp a (R.ext e₁) k₁ fun Φ₂ s₂ vs xs e₂ r₂ k₂ => ?_
  exact wpAny_mono (k₂ A Φ₂ s₂ xs a ((R.ext e₁).ext e₂).toInv r₂) (fun y s₃ h₃ => wpAny_mono h₃ (fun it s₄ h₄ => ItPost.after (Tr.ext e₁ e₂) h₄) fun _ _ f => f) fun _ _ f => f

/-- the method that a name finds on a value -/
noncomputable def Meth (g : Gd) (d : Nat) (name : Str) (v : V) (f : Value) : Prop :=
  Callee g f ∧ ∀ A Φ s x pl, AOk d A → Inv g Φ s → Real g Φ v x → wpAny (model g.prog g.w) A (getMethod x name pl) (fun fx s' => fx = (f, [x]) ∧ Ext Φ s Φ s') bot s
theorem meth_of {name : Str} {v : V} {id T : String} (pa : PlainAttrs T) (slot : PySem.Slot T name id) (hty : typeOf (.builtin id) = pure (.type "method_descriptor"))
    (hT : ∀ Φ s x, Inv g Φ s → Real g Φ v x → s.TypeIs x T ∧ ∀ a, x = .ref a → ∃ o, s.heap.get? a = some o ∧ o.dict = none) : Meth g d name v (.builtin id) :=
  ⟨.builtin id, fun A Φ s x pl a i r => getMethod_builtin (hT Φ s x i r).1 pa slot hty (hT Φ s x i r).2 ⟨rfl, .refl i.held⟩⟩

theorem methodCall_few {M : Model} {A : Around} {E : Value → Shared → Prop} {s : Shared} {o : Expr} {name : Str} {apos pos : Pos} {ov : Value} {es : List Expr} {Q : Value → Shared → Prop}
    (hfew : decide (es.length + 0 < 30) = true) (hp : plainArgs es = true) (hline : (apos.endLine == pos.line) = true)
    (h : wpAny M A (getMethod ov name (do return (← importBound o env).getD true)) (fun fx s₂ => wpAny M A (callWith pos fx.1 fx.2 (backTo pos (starEach es env)) []) Q E s₂) E s) :
    wpAny M A (methodCall o name apos pos env ov (es.length + ([] : List Keyword).length) (backTo pos (starEach es env)) (backToKw pos (keywordEach [] env))) Q E s := by
  have hform : methodCallForm (es.length + ([] : List Keyword).length) (backTo pos (starEach es env)) (backToKw pos (keywordEach [] env)) = true := by
    unfold methodCallForm
    have h1 : (backTo pos (starEach es env)).all (fun x => !x.1) = true := by
      have := plain_any (env := env) (pos := pos) hp
      rw [List.all_eq_not_any_not]; simpa using this
    have h2 : (backToKw pos (keywordEach [] env)) = [] := rfl
    rw [h1, h2]
    simpa using hfew
  have hpos : methodCallPos true o env apos pos = pure pos := by unfold methodCallPos; simp [hline]
  unfold methodCall
  rw [hform, hpos]
  refine wpAny_bind (wpAny_holding ?_)
  show wpAny M A (getMethod ov name (do return (← importBound o env).getD true)) _ E s
  refine wpAny_mono h (fun fx s₂ h₂ => ?_) fun _ _ x => x
  exact wpAny_bind (wpAny_pure h₂)

theorem ev_meth {o name apos es pos} (h : Ev g d env σ o fun v => ∃ f, Meth g d name v f ∧ Evs g d env σ es fun vs => CallOk g d f (v :: vs) K) (hfew : decide (es.length + 0 < 30) = true := by with_unfolding_all rfl) (hp : plainArgs es = true := by with_unfolding_all rfl) (hline : (apos.endLine == pos.line) = true := by with_unfolding_all rfl)
    (hb : attributeBase o name env (eval o env) = eval o env := by with_unfolding_all rfl) : Ev g d env σ (.Call (.Attribute o name apos) es [] pos) K := fun A Φ s a R => by
  unfold Wp
  rw [arm_eval_Call, hb]
  refine wpAny_bind (wpAny_mono (h A Φ s a R) (fun x s₁ ⟨Φ₁, v, e₁, r₁, f, hm, k₁⟩ => ?_) fun _ _ f => f)
  refine wpAny_bind (wpAny_standAt (methodCall_few hfew hp hline ?_))
  refine wpAny_mono (hm.2 A Φ₁ s₁ x _ a (R.ext e₁).toInv r₁) (fun fx s₂ ⟨hfx, e₂⟩ => ?_) fun _ _ f => f
  subst hfx
  refine callWith_ok hm.1 hp a ((R.ext e₁).ext e₂) k₁ fun Φ₃ s₃ vs xs e₃ r₃ k₃ => ?_
  exact (k₃ A Φ₃ s₃ (x :: xs) a (((R.ext e₁).ext e₂).ext e₃).toInv (.cons ((r₁.mono e₂.mono).mono e₃.mono) r₃)).after ((Tr.ext e₁ e₂).ext e₃)
theorem it_meth {target o name apos es pos} {K : List V → Prop} (h : Ev g d env σ o fun v => ∃ f, Meth g d name v f ∧ Evs g d env σ es fun vs => ItCall g d target f (v :: vs) K) (hfew : decide (es.length + 0 < 30) = true := by with_unfolding_all rfl) (hp : plainArgs es = true := by with_unfolding_all rfl) (hline : (apos.endLine == pos.line) = true := by with_unfolding_all rfl)
    (hb : attributeBase o name env (eval o env) = eval o env := by with_unfolding_all rfl) : ItEv g d env σ target (.Call (.Attribute o name apos) es [] pos) K := fun A Φ s a R => by
  rw [arm_eval_Call, hb]
  refine wpAny_bind (wpAny_mono (h A Φ s a R) (fun x s₁ ⟨Φ₁, v, e₁, r₁, f, hm, k₁⟩ => ?_) fun _ _ f => f)
  refine wpAny_bind (wpAny_standAt (methodCall_few hfew hp hline ?_))
  refine wpAny_mono (hm.2 A Φ₁ s₁ x _ a (R.ext e₁).toInv r₁) (fun fx s₂ ⟨hfx, e₂⟩ => ?_) fun _ _ f => f
  subst hfx
  refine callWith_ok hm.1 hp a ((R.ext e₁).ext e₂) k₁ fun Φ₃ s₃ vs xs e₃ r₃ k₃ => ?_
  exact wpAny_mono (k₃ A Φ₃ s₃ (x :: xs) a (((R.ext e₁).ext e₂).ext e₃).toInv (.cons ((r₁.mono e₂.mono).mono e₃.mono) r₃)) (fun y s₃ h₃ => wpAny_mono h₃ (fun it s₄ h₄ => ItPost.after ((Tr.ext e₁ e₂).ext e₃) h₄) fun _ _ f => f) fun _ _ f => f

/-- a tree of ifs over attribute and subscript -/
noncomputable def SubOk (g : Gd) (d : Nat) (slice : Expr) (v i : V) (K : V → Prop) : Prop :=
  ∀ A Φ s x y (value : Expr), AOk d A → Inv g Φ s → Real g Φ v x → Real g Φ i y → Wp g A (subscriptTail value slice x y) Φ s K
theorem ev_sub {value slice pos} (h : Ev g d env σ value fun v => Ev g d env σ slice fun i => SubOk g d slice v i K) : Ev g d env σ (.Subscript value slice pos) K := fun A Φ s a R =>
  Subscript_ (wpAny_mono (h A Φ s a R) (fun x s₁ ⟨Φ₁, v, e₁, r₁, k₁⟩ => wpAny_mono (k₁ A Φ₁ s₁ a (R.ext e₁)) (fun y s₂ ⟨Φ₂, u, e₂, r₂, k₂⟩ => (k₂ A Φ₂ s₂ x y value a ((R.ext e₁).ext e₂).toInv (r₁.mono e₂.mono) r₂).after (Tr.ext e₁ e₂)) fun _ _ f => f) fun _ _ f => f)
end
end Mine
end

section
open PySem PySem.Calls PyProof.Rows PySem.W PySem.Builtin PySem.Builtin.Str
namespace Mine

section
variable {g : Gd} {d : Nat} {env : Env} {σ : Sg} {K : V → Prop} {KB : Bool → Prop}

theorem kv {g : Gd} {Φ : FM} {s s' : Shared} {v : V} {x : Value} (e : Ext Φ s Φ s') (r : Real g Φ v x) (k : K v) : Post g Φ s K x s' := ⟨Φ, v, e, r, k⟩

-- ints
theorem bin_add {a b} (h : K (.int (a + b))) : BinOk g d .Add (.int a) (.int b) K := fun A Φ s x y ok i r₁ r₂ => by
  refine r₁.onI fun _ => ?_; refine r₂.onI fun _ => ?_; exact P.add_int (kv (.tok i _) (.int _ _) h)
theorem bin_sub {a b} (h : K (.int (a - b))) : BinOk g d .Sub (.int a) (.int b) K := fun A Φ s x y ok i r₁ r₂ => by
  refine r₁.onI fun _ => ?_; refine r₂.onI fun _ => ?_; exact P.sub_int (kv (.tok i _) (.int _ _) h)
theorem bin_mul {a b} (hm : IntMulOk a b) (h : K (.int (a * b))) : BinOk g d .Mult (.int a) (.int b) K := fun A Φ s x y ok i r₁ r₂ => by
  refine r₁.onI fun _ => ?_; refine r₂.onI fun _ => ?_; exact P.mul_int (kv (.tok i _) (.int _ _) h) hm
theorem bin_div {a b : Int} (h0 : ¬ (b == 0) = true) (hp : ¬ (Builtin.divisionGoesByPylong a b) = true) (h : K (.int (a.fdiv b))) : BinOk g d .FloorDiv (.int a) (.int b) K := fun A Φ s x y ok i r₁ r₂ => by
  refine r₁.onI fun _ => ?_; refine r₂.onI fun _ => ?_; exact AutoIntOps.floordiv_1 h0 hp (kv (.tok i _) (.int _ _) h)
theorem bin_mod {a b : Int} (h0 : ¬ (b == 0) = true) (h : K (.int (a.fmod b))) : BinOk g d .Mod (.int a) (.int b) K := fun A Φ s x y ok i r₁ r₂ => by
  refine r₁.onI fun _ => ?_; refine r₂.onI fun _ => ?_; exact AutoIntOps.mod_1 h0 (kv (.tok i _) (.int _ _) h)
theorem bin_pow {a b : Int} (h0 : b ≥ 0) (ha : ¬ (a == 0 || a == 1) = true) (ha' : ¬ (a == -1) = true) (hf : ¬ Builtin.Int.intTooBig (((Builtin.Int.intBits a : Nat) : Int) * b) = true) (h : K (.int (a ^ b.toNat))) : BinOk g d .Pow (.int a) (.int b) K := fun A Φ s x y ok i r₁ r₂ => by
  refine r₁.onI fun _ => ?_
  refine r₂.onI fun _ => ?_
  by_cases hb : (b == 0) = true
  · refine AutoIntOps.pow_0 h0 hb (kv (.tok i _) (.int _ _) ?_)
    have : b = 0 := by simpa using hb
    subst this; simpa using h
  · exact AutoIntOps.pow_4 h0 hb ha ha' hf (kv (.tok i _) (.int _ _) h)
theorem inp_add {a b} (h : K (.int (a + b))) : InpOk g d .Add (.int a) (.int b) K := fun A Φ s x y ok i r₁ r₂ => by
  refine r₁.onI fun _ => ?_; refine r₂.onI fun _ => ?_; exact P.iadd_int (kv (.tok i _) (.int _ _) h)
theorem inp_sub {a b} (h : K (.int (a - b))) : InpOk g d .Sub (.int a) (.int b) K := fun A Φ s x y ok i r₁ r₂ => by
  refine r₁.onI fun _ => ?_; refine r₂.onI fun _ => ?_; exact P.isub_int (kv (.tok i _) (.int _ _) h)
theorem un_neg {a} (h : K (.int (-a))) : UnOk g d .USub (.int a) K := fun A Φ s x ok i r => by
  refine r.onI fun _ => ?_; exact P.neg_int (kv (.tok i _) (.int _ _) h)
theorem cmp_eq_i {a b : Int} (h : K (.bool (a == b))) : CmpOk g d .Eq (.int a) (.int b) K := fun A Φ s x y ok i r₁ r₂ => by
  refine r₁.onI fun _ => ?_; refine r₂.onI fun _ => ?_; exact P.eq_int (kv (.refl i.held) (.bool _) h)
theorem cmp_ne_i {a b : Int} (h : K (.bool (a != b))) : CmpOk g d .NotEq (.int a) (.int b) K := fun A Φ s x y ok i r₁ r₂ => by
  refine r₁.onI fun _ => ?_; refine r₂.onI fun _ => ?_; exact P.ne_int (kv (.refl i.held) (.bool _) h)
theorem cmp_lt_i {a b : Int} (h : K (.bool (decide (a < b)))) : CmpOk g d .Lt (.int a) (.int b) K := fun A Φ s x y ok i r₁ r₂ => by
  refine r₁.onI fun _ => ?_; refine r₂.onI fun _ => ?_; exact P.lt_int (kv (.refl i.held) (.bool _) h)
theorem cmp_gt_i {a b : Int} (h : K (.bool (decide (a > b)))) : CmpOk g d .Gt (.int a) (.int b) K := fun A Φ s x y ok i r₁ r₂ => by
  refine r₁.onI fun _ => ?_; refine r₂.onI fun _ => ?_; exact P.gt_int (kv (.refl i.held) (.bool _) h)
theorem cmp_ge_i {a b : Int} (h : K (.bool (decide (a ≥ b)))) : CmpOk g d .GtE (.int a) (.int b) K := fun A Φ s x y ok i r₁ r₂ => by
  refine r₁.onI fun _ => ?_; refine r₂.onI fun _ => ?_; exact P.ge_int (kv (.refl i.held) (.bool _) h)
theorem cmp_le_i {a b : Int} (h : K (.bool (decide (a ≤ b)))) : CmpOk g d .LtE (.int a) (.int b) K := fun A Φ s x y ok i r₁ r₂ => by
  refine r₁.onI fun _ => ?_; refine r₂.onI fun _ => ?_; exact P.le_int (kv (.refl i.held) (.bool _) h)
theorem true_i {a : Int} (h : KB (a != 0)) : TrueOk g d (.int a) KB := fun A Φ s x ok i r => by
  refine r.onI fun _ => ?_; exact P.truthy_int ⟨Φ, .refl i.held, h⟩
theorem true_b {b : Bool} (h : KB b) : TrueOk g d (.bool b) KB := fun A Φ s x ok i r => by
  refine r.onB ?_; exact wpAny_truthy_bool ⟨Φ, .refl i.held, h⟩

-- strs
theorem beq_str (x y : Str) : (x.cps.toList == y.cps.toList) = (x == y) := by
  cases x; cases y
  rw [Bool.eq_iff_iff]; simp [Array.ext_iff]
theorem bne_str (x y : Str) : (x.cps.toList != y.cps.toList) = (x != y) := by
  show (!(_ == _)) = (!(_ == _)); rw [beq_str]
theorem bin_add_s {a b : Str} (hs : a.length + b.length ≤ sizeLine) (h : K (.str (a ++ b))) : BinOk g d .Add (.str a) (.str b) K := fun A Φ s x y ok i r₁ r₂ => by
  refine r₁.onS fun _ => ?_; refine r₂.onS fun _ => ?_; exact SB.add (fun t k => kv (.tok i _) (.str _ _) h) hs
theorem inp_add_s {a b : Str} (hs : a.length + b.length ≤ sizeLine) (h : K (.str (a ++ b))) : InpOk g d .Add (.str a) (.str b) K := fun A Φ s x y ok i r₁ r₂ => by
  refine r₁.onS fun _ => ?_; refine r₂.onS fun _ => ?_; exact SB.iadd (fun t k => kv (.tok i _) (.str _ _) h) hs
theorem bin_mul_s {a : Str} {n : Int} (hs : MulOk a n) (h : K (.str (Txt.mul a n))) : BinOk g d .Mult (.str a) (.int n) K := fun A Φ s x y ok i r₁ r₂ => by
  refine r₁.onS fun _ => ?_; refine r₂.onI fun _ => ?_; exact SB.mul hs (fun t k => kv (.tok i _) (.str _ _) h)
theorem cmp_eq_s {a b : Str} (h : K (.bool (a == b))) : CmpOk g d .Eq (.str a) (.str b) K := fun A Φ s x y ok i r₁ r₂ => by
  refine r₁.onS fun _ => ?_; refine r₂.onS fun _ => ?_; refine P.eq_str ?_; rw [beq_str]; exact kv (.refl i.held) (.bool _) h
theorem cmp_ne_s {a b : Str} (h : K (.bool (a != b))) : CmpOk g d .NotEq (.str a) (.str b) K := fun A Φ s x y ok i r₁ r₂ => by
  refine r₁.onS fun _ => ?_; refine r₂.onS fun _ => ?_; refine P.ne_str ?_; rw [bne_str]; exact kv (.refl i.held) (.bool _) h
theorem cmp_in_s {a b : Str} (h : K (.bool (Txt.contains b a))) : CmpOk g d .In (.str a) (.str b) K := fun A Φ s x y ok i r₁ r₂ => by
  refine r₁.onS fun _ => ?_; refine r₂.onS fun _ => ?_; exact SB.contains (kv (.refl i.held) (.bool _) h)
theorem cmp_nin_s {a b : Str} (h : K (.bool (!Txt.contains b a))) : CmpOk g d .NotIn (.str a) (.str b) K := fun A Φ s x y ok i r₁ r₂ => by
  refine r₁.onS fun _ => ?_; refine r₂.onS fun _ => ?_; exact SB.notContains (kv (.refl i.held) (.bool _) h)
theorem true_s {a : Str} (hs : a.length ≤ sizeLine) (h : KB ((a.length : Int) != 0)) : TrueOk g d (.str a) KB := fun A Φ s x ok i r => by
  refine r.onS fun _ => ?_; exact P.truthy_str (by have : sizeLine = 2 ^ 24 := rfl; lia) ⟨Φ, .tok i _, h⟩

-- is
/-- values that a plain `is` tells apart -/
inductive Flat (g : Gd) : V → Value → Prop
  | none : Flat g .none .none
  | bool (b) : Flat g (.bool b) (.bool b)
noncomputable def isFlat : V → Bool
  | .none => true
  | .bool _ => true
  | _ => false
theorem real_flat {Φ : FM} {v : V} {x : Value} (r : Real g Φ v x) (h : isFlat v = true) : x = .none ∧ v = .none ∨ ∃ b, x = .bool b ∧ v = .bool b := by
  cases r <;> first | (cases h; done) | skip
  · exact .inl ⟨rfl, rfl⟩
  · exact .inr ⟨_, rfl, rfl⟩
noncomputable def vis : V → V → Bool
  | .none, .none => true
  | .bool a, .bool b => a == b
  | _, _ => false
/-- no glob: what stands there is no None and no bool by chance -/
noncomputable def noGlob : V → Bool
  | .glob _ => false
  | _ => true
theorem is_flat {Φ : FM} {a b : V} {x y : Value} (hb : isFlat b = true) (ha : noGlob a = true) (r₁ : Real g Φ a x) (r₂ : Real g Φ b y) : plainIs x y = true ∧ (x == y) = vis a b := by
  rcases real_flat r₂ hb with ⟨rfl, rfl⟩ | ⟨c, rfl, rfl⟩ <;> cases r₁ <;> first | (cases ha; done) | exact ⟨rfl, rfl⟩ | skip
  rename_i b'
  exact ⟨rfl, by cases b' <;> cases c <;> rfl⟩
theorem cmp_is {a b} (hb : isFlat b = true) (ha : noGlob a = true) (h : K (.bool (vis a b))) : CmpOk g d .Is a b K := fun A Φ s x y ok i r₁ r₂ => by
  obtain ⟨p, e⟩ := is_flat hb ha r₁ r₂
  refine wpAny_is_plain p ?_
  rw [e]; exact kv (.refl i.held) (.bool _) h
theorem cmp_isn {a b} (hb : isFlat b = true) (ha : noGlob a = true) (h : K (.bool (!vis a b))) : CmpOk g d .IsNot a b K := fun A Φ s x y ok i r₁ r₂ => by
  obtain ⟨p, e⟩ := is_flat hb ha r₁ r₂
  refine wpAny_isNot_plain p ?_
  rw [e]; exact kv (.refl i.held) (.bool _) h

-- methods of str
theorem meth_str {name : Str} {v : Str} {id : String} (slot : PySem.Slot "str" name id) (hty : typeOf (.builtin id) = pure (.type "method_descriptor")) (pa : PlainAttrs "str") : Meth g d name (.str v) (.builtin id) :=
  meth_of pa slot hty fun Φ s x i r => by cases r; exact ⟨typeIs_str _ _ _, fun a e => by cases e⟩
theorem call_startswith {a b : Str} (h : K (.bool (Txt.startswith a b))) : CallOk g d (.builtin "str.startswith") [.str a, .str b] K := fun A Φ s xs ok i r => by
  refine r.on2 fun _ _ r1 r2 => ?_; refine r1.onS fun _ => ?_; refine r2.onS fun _ => ?_; exact SC.startswith (kv (.refl i.held) (.bool _) h)
theorem call_endswith {a b : Str} (h : K (.bool (Txt.endswith a b))) : CallOk g d (.builtin "str.endswith") [.str a, .str b] K := fun A Φ s xs ok i r => by
  refine r.on2 fun _ _ r1 r2 => ?_; refine r1.onS fun _ => ?_; refine r2.onS fun _ => ?_; exact SC.endswith (kv (.refl i.held) (.bool _) h)
noncomputable def findIn (x y : Str) (i j : Int) : Int := match occurrences x y (fromIndex x.length i) (min (fromIndex x.length j) x.length) 1 with | k :: _ => (k : Int) | [] => -1
theorem gives_find4 (x y : Str) (i j : Int) (t u v w : Tok) : Gives («str.find» ⟨[.str x t, .str y u, .int i v, .int j w], []⟩) (.int (findIn x y i j)) := by
  show Gives (match occurrences x y (fromIndex x.length i) (min (fromIndex x.length j) x.length) 1 with | k :: _ => retInt k | [] => (do rule "str.find.not-found"; retInt (-1))) _
  unfold findIn
  cases occurrences x y (fromIndex x.length i) (min (fromIndex x.length j) x.length) 1 with
  | nil => exact .rule (.of_eq rfl)
  | cons k _ => exact .of_eq rfl
theorem call_find4 {a b : Str} {lo hi : Int} (h : K (.int (findIn a b lo hi))) : CallOk g d (.builtin "str.find") [.str a, .str b, .int lo, .int hi] K := fun A Φ s xs ok i r => by
  refine r.on4 fun _ _ _ _ r1 r2 r3 r4 => ?_
  refine r1.onS fun _ => ?_
  refine r2.onS fun _ => ?_
  refine r3.onI fun _ => ?_
  refine r4.onI fun _ => ?_
  exact call_gives F.slot_str_find (typeIs_str _ _ _) F.entry_str_find (F.args_str_find_4 _ _ _ _) (gives_find4 _ _ _ _ _ _ _ _) (kv (.tok i _) (.int _ _) h)
theorem reals_strs {Φ : FM} {l : List (Str × Tok)} : Reals g Φ (l.map fun p => V.str p.1) (strValues l) := by
  induction l with
  | nil => exact .nil
  | cons p l ih => exact .cons (.str p.1 p.2) ih
theorem strs_reals {Φ : FM} {l : List Str} {xs : List Value} (r : Reals g Φ (l.map V.str) xs) : ∃ ps : List (Str × Tok), ps.map (·.1) = l ∧ xs = strValues ps := by
  induction l generalizing xs with
  | nil => exact ⟨[], rfl, r.unnil⟩
  | cons b l ih =>
    obtain ⟨x, xs, rfl, r1, r'⟩ := r.uncons
    obtain ⟨t, rfl⟩ := real_str r1
    obtain ⟨ps, h1, h2⟩ := ih r'
    exact ⟨(b, t) :: ps, congrArg (b :: ·) h1, congrArg (Value.str b t :: ·) h2⟩
theorem split_go {A : Around} {s : Shared} {P : Value → Shared → Prop} {a b : Str} {t u : Tok} (hy : (b.length == 0) = false) (hs : a.length ≤ sizeLine) (h2 : (partsBetween a (occurrences a b 0 a.length (a.length + 1)) b.length).length ≤ sizeLine)
    (fin : ∀ (l : List (Str × Tok)) (n k : Nat), l.map (·.1) = Txt.split a b → P (.ref s.heap.objs.size) { s with heap := s.heap.push (lstO (strValues l) n), toks := k }) : wpAny (model g.prog g.w) A (call (.builtin "str.split") [.str a t, .str b u]) P bot s := by
  cases h1 : (decide (a.length < b.length) || decide (strKind a < strKind b))
  · cases hf : (occurrences a b 0 a.length (a.length + 1)).isEmpty
    · refine call_meets F.slot_str_split (typeIs_str _ _ _) F.entry_str_split (F.args_str_split_2 _ _) (meets_str_split_sep a b t u h1 hy hf hs h2) ?_
      show wants _ _ _ { s with toks := _, heap := s.heap.push { cls := .type "list", data := .seq (strsFrom s.toks (partsBetween a (occurrences a b 0 a.length (a.length + 1)) b.length)).toArray } }
      rw [strsFrom_eq]
      exact fin (numbered s.toks _) _ _ ((numbered_texts _ _).trans ((if_neg (ne_true_of_eq_false h1)).trans (if_neg (ne_true_of_eq_false hf))).symm)
    · exact call_meets F.slot_str_split (typeIs_str _ _ _) F.entry_str_split (F.args_str_split_2 _ _) (meets_str_split_not_found a b t u h1 hy hf)
        (fin [(a, t)] _ _ ((if_neg (ne_true_of_eq_false h1)).trans (if_pos hf)).symm)
  · exact call_meets F.slot_str_split (typeIs_str _ _ _) F.entry_str_split (F.args_str_split_2 _ _) (meets_str_split_cannot_occur a b t u h1)
      (fin [(a, t)] _ _ (if_pos h1).symm)
theorem call_split {a b : Str} (hy : (b.length == 0) = false) (hs : a.length ≤ sizeLine) (h2 : (partsBetween a (occurrences a b 0 a.length (a.length + 1)) b.length).length ≤ sizeLine) (h : K (.list ((Txt.split a b).map V.str))) : CallOk g d (.builtin "str.split") [.str a, .str b] K := fun A Φ s xs ok i r => by
  refine r.on2 fun _ _ r1 r2 => ?_
  refine r1.onS fun _ => ?_
  refine r2.onS fun _ => ?_
  exact split_go hy hs h2 fun l n k e => ⟨_, _, Ext.push i _ rfl k, .list (FM.put_self ..) (by rw [← e, List.map_map]; exact reals_strs), h⟩
theorem call_join {a : Str} {l : List Str} (hok : JoinOk a l = true) (h : K (.str (Txt.join a l))) : CallOk g d (.builtin "str.join") [.str a, .list (l.map V.str)] K := fun A Φ s xs ok i r => by
  refine r.on2 fun _ _ r1 r2 => ?_
  refine r1.onS fun _ => ?_
  refine r2.onL fun _ _ _ h1 r => ?_
  obtain ⟨ps, e1, rfl⟩ := strs_reals r
  exact SC.join ⟨_, i.held _ _ h1, rfl, _, rfl⟩ e1 hok fun t k => kv (.tok i _) (.str _ _) h
-- len
theorem call_len_s {a : Str} (hs : a.length ≤ sizeLine) (h : K (.int a.length)) : CallOk g d (.builtin "len") [.str a] K := fun A Φ s xs ok i r => by
  refine r.on1 fun _ r1 => ?_; refine r1.onS fun _ => ?_; exact P.len_str (by have : sizeLine = 2 ^ 24 := rfl; omega) (kv (.tok i _) (.int _ _) h)
theorem call_len_l {l : List V} (hs : l.length ≤ sizeLine) (h : K (.int l.length)) : CallOk g d (.builtin "len") [.list l] K := fun A Φ s xs ok i r => by
  refine r.on1 fun _ r1 => ?_
  refine r1.onL fun _ _ _ h1 r => ?_
  have hl := r.length
  refine call_len_list ⟨_, i.held _ _ h1, rfl, _, rfl⟩ ?_ ?_
  all_goals first | (refine kv (.tok i _) ?_ h; simp only [List.size_toArray, hl]; exact .int _ _) | (have : sizeLine = 2 ^ 24 := rfl; simp only [List.size_toArray, hl]; lia) | skip
end
end Mine
end

section
set_option maxRecDepth 100000
open PySem PySem.Calls PyProof.Rows PySem.W PySem.Builtin PySem.Builtin.Str
namespace Mine

section
variable {prog : Program} {w : World} {A : Around} {E : Value → Shared → Prop} {s : Shared}
theorem tail_of {value slice : Expr} {o i : Value} {T id : String} {Q : Value → Shared → Prop} (hT : s.TypeIs o T)
    (hl : typeLookup (.type T) "__getitem__" = pure (some (.builtin id))) (h : wpAny (model prog w) A (getItem o i) Q E s) : wpAny (model prog w) A (subscriptTail value slice o i) Q E s := by
  unfold subscriptTail
  refine wpAny_bind ?_
  rw [getitemInPython_of_ne hT.not_modules]
  refine wpAny_bind (wpAny_specialOf hT hl ?_)
  have fin : wpAny (model prog w) A (subscripted slice false o i) (fun r s₃ => wpAny (model prog w) A (letTemporaryGo value o r >>= fun _ => pure r) Q E s₃) E s := by
    have key : ∀ ops, wpAny (model prog w) A (operate ops (getItem o i)) (fun r s₃ => wpAny (model prog w) A (letTemporaryGo value o r >>= fun _ => pure r) Q E s₃) E s := fun ops =>
      wpAny_operating (wpAny_mono h (fun r s₃ h₃ => wpAny_bind (wpAny_letTemporaryGo (wpAny_pure h₃))) fun _ _ x => x)
    unfold subscripted
    split
    · exact key _
    · rename_i e; cases e
    · exact key _
  first
    | exact wpAny_pure (wpAny_bind fin)
    | exact wpAny_bind (wpAny_pure (wpAny_bind fin))
    | exact wpAny_bind fin
end

/-- the piece that plain slice bounds pick -/
noncomputable def cutL {α : Type} (l : List α) (lo hi : Option Int) : List α := (l.drop (lo.elim 0 (clipAt l.length))).take (hi.elim l.length (clipAt l.length) - lo.elim 0 (clipAt l.length))
noncomputable def cutS (x : Str) (lo hi : Option Int) : Str := ⟨(cutL x.cps.toList lo hi).toArray⟩
noncomputable def revS (x : Str) : Str := ⟨x.cps.toList.reverse.toArray⟩

section
variable {g : Gd} {d : Nat} {env : Env} {σ : Sg} {K : V → Prop} {KB : Bool → Prop}

inductive PostP (Φ : FM) (s : Shared) (K : Option Int → Prop) (x : Value) (s' : Shared) : Prop
  | mk (Φ' : FM) (i : Option Int) : Ext Φ s Φ' s' → IsPart x i → K i → PostP Φ s K x s'
/-- a slice's part -/
noncomputable def EvP (g : Gd) (d : Nat) (env : Env) (σ : Sg) (e : Option Expr) (K : Option Int → Prop) : Prop :=
  ∀ A Φ s, AOk d A → Rd g env σ Φ s → wpAny (model g.prog g.w) A (evalPart e env) (PostP Φ s K) bot s
theorem evp_none {K : Option Int → Prop} (h : K none) : EvP g d env σ none K := fun A Φ s a R => wpAny_pure ⟨Φ, _, .refl R.held, .none, h⟩
theorem evp_some {e} {K : Option Int → Prop} (h : Ev g d env σ e fun v => ∃ i, v = .int i ∧ K (some i)) : EvP g d env σ (some e) K := fun A Φ s a R =>
  wpAny_mono (h A Φ s a R) (fun x s' ⟨Φ', v, e, r, i, hv, k⟩ => by subst hv; cases r; exact ⟨Φ', _, e, .int _ _, k⟩) fun _ _ f => f
noncomputable def SlOk (g : Gd) (d : Nat) (v : V) (lo hi st : Option Int) (K : V → Prop) : Prop :=
  ∀ A Φ s x a vl vu vs, AOk d A → Inv g Φ s → Real g Φ v x → s.heap.IsSliceOf a vl vu vs → IsPart vl lo → IsPart vu hi → IsPart vs st →
    ∃ T id, s.TypeIs x T ∧ typeLookup (.type T) "__getitem__" = pure (some (.builtin id)) ∧ Wp g A (getItem x (.ref a)) Φ s K
theorem ev_slice {value lo hi st p pos} (h : Ev g d env σ value fun v => EvP g d env σ lo fun l => EvP g d env σ hi fun u => EvP g d env σ st fun k => SlOk g d v l u k K) :
    Ev g d env σ (.Subscript value (.Slice lo hi st p) pos) K := fun A Φ s a R => by
  refine Subscript_ (wpAny_mono (h A Φ s a R) (fun x s₁ ⟨Φ₁, v, e₁, r₁, k₁⟩ => ?_) fun _ _ f => f)
  refine wpAny_Slice (wpAny_mono (k₁ A Φ₁ s₁ a (R.ext e₁)) (fun vl s₂ ⟨Φ₂, l, e₂, p₂, k₂⟩ => ?_) fun _ _ f => f)
  have R₂ := (R.ext e₁).ext e₂
  refine wpAny_mono (k₂ A Φ₂ s₂ a R₂) (fun vu s₃ ⟨Φ₃, u, e₃, p₃, k₃⟩ => ?_) fun _ _ f => f
  have R₃ := R₂.ext e₃
  refine wpAny_mono (k₃ A Φ₃ s₃ a R₃) (fun vs s₄ ⟨Φ₄, k, e₄, p₄, k₄⟩ => ?_) fun _ _ f => f
  have R₄ := R₃.ext e₄
  have e₅ := Ext.push' R₄.toInv { cls := .type "slice", data := .fields #[vl, vu, vs] } s₄.toks
  have r₅ := (((r₁.mono e₂.mono).mono e₃.mono).mono e₄.mono).mono e₅.mono
  obtain ⟨T, id, hT, hl, w⟩ := k₄ A Φ₄ _ x s₄.heap.objs.size vl vu vs a (R₄.ext e₅).toInv r₅ (Heap.IsSliceOf.new ..) p₂ p₃ p₄
  exact tail_of hT hl (Wp.after w ((((Tr.ext e₁ e₂).ext e₃).ext e₄).ext e₅))

theorem part_value {v : Value} {i : Option Int} (h : IsPart v i) : ∃ p : Option (Int × Tok), v = partValue p ∧ p.map (·.1) = i := by
  cases h with
  | none => exact ⟨none, rfl, rfl⟩
  | int i t => exact ⟨some (i, t), rfl, rfl⟩
theorem indices_cut (x : Str) (lo hi : Option Int) : (strSliceIndices lo hi 1 x.length).filterMap (x.cps[·]?) = cutL x.cps.toList lo hi := by
  have e : strSliceIndices lo hi 1 x.length = sliceRange (sliceBounds lo hi none x.length).1 (sliceBounds lo hi none x.length).2.1 1 := by
    cases lo <;> cases hi <;> rfl
  rw [e, sliceBounds_plain]
  simp only [sliceRange_one]
  have := pick_run x.cps (lo.elim 0 (clipAt x.length)) (hi.elim x.length (clipAt x.length) - lo.elim 0 (clipAt x.length))
  rw [this]
  rfl
theorem cutL_length {α : Type} (l : List α) (lo hi : Option Int) : (cutL l lo hi).length ≤ l.length := by
  unfold cutL; rw [List.length_take, List.length_drop]; omega
theorem cutL_whole {α : Type} (l : List α) (lo hi : Option Int) (h : (cutL l lo hi).length = l.length) : cutL l lo hi = l := by
  unfold cutL at h ⊢
  rw [List.length_take, List.length_drop] at h
  by_cases h0 : l.length = 0
  · have : l = [] := List.eq_nil_of_length_eq_zero h0
    subst this; simp
  · have ha : lo.elim 0 (clipAt l.length) = 0 := by lia
    rw [ha] at h ⊢
    rw [List.drop_zero, List.take_of_length_le (by lia)]
theorem sl_str {x : Str} {lo hi : Option Int} (hs : x.length ≤ sizeLine) (h : K (.str (cutS x lo hi))) : SlOk g d (.str x) lo hi none K := fun A Φ s v a vl vu vs ok i r hsl pl pu ps => by
  refine r.onS fun t => ?_
  cases ps
  obtain ⟨l, rfl, hl⟩ := part_value pl
  obtain ⟨u, rfl, hu⟩ := part_value pu
  refine ⟨"str", _, typeIs_str _ _ _, F.slot_str_getitem.lookup, ?_⟩
  refine wpAny_getItem_str_slice (l := l) (u := u) (st := none) hsl rfl ?_
  have e : (slicePicked x l u none).filterMap (x.cps[·]?) = cutL x.cps.toList lo hi := by
    unfold slicePicked; rw [hl, hu]; exact indices_cut x lo hi
  have hn : (cutL x.cps.toList lo hi).length ≤ x.length := cutL_length _ _ _
  unfold sliceMade
  rw [e]
  split
  · rename_i hc
    have : cutS x lo hi = x := by
      unfold cutS
      simp only [Option.map_none, Option.getD_none, Bool.and_eq_true, beq_iff_eq] at hc
      have hlen : (slicePicked x l u none).length = x.length := by simpa using hc
      -- every index picked is in range
      have hm : ∀ j ∈ slicePicked x l u none, ∃ y, x.cps[j]? = some y := by
        unfold slicePicked; rw [hl, hu]
        intro j hj
        have e2 : strSliceIndices lo hi 1 x.length = sliceRange (sliceBounds lo hi none x.length).1 (sliceBounds lo hi none x.length).2.1 1 := by
          cases lo <;> cases hi <;> rfl
        have hj' : j ∈ strSliceIndices lo hi 1 x.length := hj
        rw [e2, sliceBounds_plain] at hj'
        simp only [sliceRange_one] at hj'
        obtain ⟨k, hk, rfl⟩ := List.mem_map.mp hj'
        have hk := List.mem_range.mp hk
        have : (hi.elim x.length (clipAt x.length)) ≤ x.length := by
          cases hi with
          | none => exact Nat.le_refl _
          | some b => have := clipAt_cast x.length b; simp only [Option.elim]; omega
        have hlt : lo.elim 0 (clipAt x.length) + k < x.cps.size := by show _ < x.length; omega
        exact ⟨_, Array.getElem?_eq_getElem hlt⟩
      have hfl : ((slicePicked x l u none).filterMap (x.cps[·]?)).length = (slicePicked x l u none).length := by
        have : ∀ (L : List Nat), (∀ j ∈ L, ∃ y, x.cps[j]? = some y) → (L.filterMap (x.cps[·]?)).length = L.length := by
          intro L
          induction L with
          | nil => intro _; rfl
          | cons j L ih =>
            intro h
            obtain ⟨y, hy⟩ := h j (.head _)
            rw [List.filterMap_cons, hy]
            simp [ih fun j hj => h j (.tail _ hj)]
        exact this _ hm
      rw [e] at hfl
      rw [cutL_whole _ _ _ (hfl.trans hlen)]
    rw [this] at h
    exact kv (.refl i.held) (.str _ _) h
  · exact ⟨by show Array.size _ ≤ _; rw [List.size_toArray]; exact le2 (c2 _ _) (.v 0) (.n 16777216) (.v 1) (.v 0) (.v 1) (.n 16777216) hs hn, kv (.tok i _) (.str _ _) h⟩

theorem sl_rev {x : Str} (hs : x.length ≤ sizeLine) (h : K (.str (revS x))) : SlOk g d (.str x) none none (some (-1)) K := fun A Φ s v a vl vu vs ok i r hsl pl pu ps => by
  refine r.onS fun t => ?_
  cases pl; cases pu; cases ps
  rename_i t2
  refine ⟨"str", _, typeIs_str _ _ _, F.slot_str_getitem.lookup, ?_⟩
  refine wpAny_getItem_str_slice (l := none) (u := none) (st := some (-1, t2)) hsl rfl ?_
  have e : (slicePicked x none none (some (-1, t2))).filterMap (x.cps[·]?) = x.cps.toList.reverse := by
    unfold slicePicked
    show (strSliceIndices none none (-1) x.length).filterMap _ = _
    rw [picked_rev, List.filterMap_map]
    have : ((fun x_1 => x.cps[x_1]?) ∘ fun k => x.length - 1 - k) = fun k => x.cps[x.length - 1 - k]? := rfl
    rw [this]
    apply List.ext_getElem?
    intro j
    have hall : ∀ n, n ≤ x.length → (List.range n).filterMap (fun k => x.cps[x.length - 1 - k]?) = (List.range n).map (fun k => x.cps.getD (x.length - 1 - k) 0) := by
      intro n
      induction n with
      | zero => intro _; rfl
      | succ n ih =>
        intro hn
        rw [List.range_succ, List.filterMap_append, List.map_append, ih (by exact le1 (c2 _ _) (.a (.v 0) (.n 1)) (.v 1) (.v 0) (.v 1) hn)]
        congr 1
        have hlt : x.length - 1 - n < x.cps.size := by show _ < x.length; omega
        simp [Array.getElem?_eq_getElem hlt, Array.getD, hlt]
    rw [hall _ (Nat.le_refl _), List.getElem?_map]
    by_cases hj : j < x.length
    · have hlt : x.length - 1 - j < x.cps.size := by show _ < x.length; omega
      have hlen : x.cps.size = x.length := rfl
      have hj' : j < x.cps.toList.length := by rw [Array.length_toList]; exact hj
      rw [List.getElem?_reverse hj', List.getElem?_range hj, Option.map_some, Array.length_toList, hlen]
      rw [List.getElem?_eq_getElem (by rw [Array.length_toList]; exact hlt)]
      simp [Array.getD, hlt]
    · have hj' : x.cps.size ≤ j := Nat.le_of_not_lt hj
      rw [List.getElem?_eq_none (by rw [List.length_range]; exact hj'), List.getElem?_eq_none (by rw [List.length_reverse, Array.length_toList]; exact hj')]; rfl
  unfold sliceMade
  rw [e]
  split
  · rename_i hc; simp at hc
  · refine ⟨by show Array.size _ ≤ _; rw [List.size_toArray, List.length_reverse]; exact hs, kv (.tok i _) (.str _ _) h⟩

theorem reals_cut {Φ : FM} {l : List V} {xs : List Value} (r : Reals g Φ l xs) (lo hi : Option Int) : Reals g Φ (cutL l lo hi) (cutL xs lo hi) := by
  unfold cutL
  rw [r.length]
  exact (r.drop _).take _
theorem sl_list {l : List V} {lo hi : Option Int} (hs : l.length ≤ sizeLine) (h : K (.list (cutL l lo hi))) : SlOk g d (.list l) lo hi none K := fun A Φ s v a vl vu vs ok i r hsl pl pu ps => by
  refine r.onL fun b xs n h1 r => ?_
  have hl : s.heap.IsList b xs.toArray := ⟨_, i.held _ _ h1, rfl, n, rfl⟩
  refine ⟨"list", _, hl.typeIs, list_getitem_lookup, ?_⟩
  refine wpAny_getItem_list_slice hl hsl pl pu ps (by cases ps; simp) ?_ (by rw [List.size_toArray, r.length]; exact hs)
  rw [slicePick_plain]
  have e := Ext.push i (lstO (cutL xs lo hi) 0) rfl s.toks
  refine ⟨_, _, e, .list (xs := cutL xs lo hi) (n := 0) (FM.put_self ..) ((reals_cut r lo hi).mono e.mono), h⟩
theorem sl_upto3 {l : List V} {hi : Nat} (h1 : hi < l.length) (hs : l.length ≤ sizeLine) (h : K (.tup (l.take hi))) : SlOk g d (.tup l) none (some (hi : Int)) none K := fun A Φ s v a vl vu vs ok i r hsl pl pu ps => by
  refine r.onT fun b o xs n h1 hc hd r => ?_
  cases pl; cases pu; cases ps
  rename_i tk
  have ht : IsTup s.heap b xs.toArray := ⟨o, i.held _ _ h1, hc, n, hd⟩
  refine ⟨"tuple", _, ht.typeIs, slot_tuple_getitem.lookup, ?_⟩
  have hlen := r.length
  obtain ⟨os, hos, hcs, hds⟩ := id hsl
  have hTs : s.TypeIs (.ref a) "slice" := ⟨os, hos, hcs⟩
  unfold Wp
  unfold getItem
  try with_reducible refine wpAny_holding ?_
  first | refine wpAny_bind (wpAny_pure ?_) | skip
  refine wpAny_bind (wpAny_sequenceKey ht.typeIs (by decide) ?_)
  refine wpAny_bind (wpAny_callSpecial?_slot (name := Str.ofString "__getitem__") ht.typeIs slot_tuple_getitem
    (wpAny_call_entry slot_tuple_getitem ht.typeIs entry_tuple_getitem ?_ (args_tuple_getitem _ _)))
  show wpAny _ _ (Builtin.Tuple.tupleItemsOf (.ref b) >>= _) _ _ s
  refine wpAny_bind (tupleItemsOf_ ht ?_)
  refine wpAny_bind (wpAny_typeOf hTs ?_)
  rw [if_pos (by decide)]
  have key : ∀ {Q : Int × Int × Nat → Shared → Prop} {E : Value → Shared → Prop} {A : Around}, Q ((0 : Int), 1, hi) s → wpAny (model g.prog g.w) A (Builtin.Slice.sliceApplied (.ref a) (pure (xs.toArray.size : Int))) Q E s := by
    intro Q E A hQ
    unfold Builtin.Slice.sliceApplied Builtin.Slice.sliceFields
    refine wpAny_bind (wpAny_bind (wpAny_field hos hds (x := .none) rfl (wpAny_bind (wpAny_field hos hds (x := .int (hi : Int) tk) rfl (wpAny_bind (wpAny_field hos hds (x := .none) rfl (wpAny_pure ?_)))))))
    refine wpAny_bind (slicePart_none ?_)
    show wpAny _ _ (if ((1 : Int) == 0) = true then _ else _) _ _ s
    rw [if_neg (by decide)]
    refine wpAny_bind (slicePart_none (wpAny_bind (slicePart_int (wpAny_bind (wpAny_pure ?_)))))
    show wpAny _ _ (match Builtin.Slice.sliceAdjust none (some (hi : Int)) 1 (xs.toArray.size : Int) with | (lo, hi) => pure (lo, (1 : Int), Builtin.Slice.slicePlaces lo hi 1)) _ _ s
    have e1 : Builtin.Slice.sliceAdjust none (some (hi : Int)) 1 (xs.toArray.size : Int) = (0, (hi : Int)) := by
      unfold Builtin.Slice.sliceAdjust
      have h1 : ¬ ((1 : Int) < 0) := by lia
      have h2 : ¬ ((hi : Int) < 0) := by lia
      simp only [h1, h2, if_false]
      congr 1
      rw [List.size_toArray, hlen]; lia
    rw [e1]
    have e2 : Builtin.Slice.slicePlaces (0 : Int) (hi : Int) 1 = hi := by
      unfold Builtin.Slice.slicePlaces
      have h1 : (1 : Int) > 0 := by lia
      simp only [h1, if_true, Int.ediv_one]
      split <;> lia
    show wpAny _ _ (pure ((0 : Int), (1 : Int), Builtin.Slice.slicePlaces (0 : Int) (hi : Int) 1)) _ _ s
    rw [e2]
    exact wpAny_pure hQ
  refine wpAny_bind (key ?_)
  have hno : ¬ (((0 : Int) == 0 && (1 : Int) == 1 && hi == xs.toArray.size) = true) := by
    simp; rw [hlen]; exact fun hh => no10 (le2 (c2 _ _) (.a (.v 0) (.n 1)) (.v 1) (.v 1) (.v 0) (.n 1) (.n 0) (by assumption) (Nat.le_of_eq hh.symm))
  show wpAny _ _ (if ((0 : Int) == 0 && (1 : Int) == 1 && hi == xs.toArray.size) = true then _ else _) _ _ s
  rw [if_neg hno]
  have hp : ((List.range hi).filterMap fun (k : Nat) => xs.toArray[((0 : Int) + (k : Int) * 1).toNat]?).toArray = (xs.take hi).toArray := by
    have e : (fun (k : Nat) => xs.toArray[((0 : Int) + (k : Int) * 1).toNat]?) = fun k => xs.toArray[0 + k]? := by
      funext k
      have : ((0 : Int) + (k : Int) * 1).toNat = 0 + k := by lia
      rw [this]
    rw [e]
    have := pick_run xs.toArray 0 hi
    rw [List.filterMap_map] at this
    have e2 : ((fun x => xs.toArray[x]?) ∘ fun x => 0 + x) = fun k => xs.toArray[0 + k]? := rfl
    rw [e2] at this
    rw [this]; simp
  rw [hp]
  have hdrop : sizeOk (.seq (xs.take hi).toArray) := by
    show (xs.take hi).toArray.size ≤ sizeLine
    rw [List.size_toArray, List.length_take, hlen]
    lia
  have e := Ext.push i (tupO (xs.take hi) 0) rfl s.toks
  have fin : Post g Φ s K (.ref s.heap.objs.size) { s with heap := s.heap.push { cls := .type "tuple", data := .seq (xs.take hi).toArray } } :=
    ⟨_, _, e, .tup (FM.put_self ..) rfl rfl ((r.take hi).mono e.mono), h⟩
  first
    | exact wpAny_bind (m := Builtin.Tuple.tupleExact _) (wpAny_newObj_type (wpAny_pure ⟨_, rfl, wpAny_pure fin⟩) hdrop)
    | exact wpAny_bind (m := Builtin.Tuple.tupleExact _) (wpAny_newObj_type (wpAny_bind (wpAny_pure (wpAny_pure ⟨_, rfl, wpAny_pure fin⟩))) hdrop)
    | exact wpAny_bind (wpAny_bind (m := Builtin.Tuple.tupleExact _) (wpAny_newObj_type (wpAny_pure (wpAny_pure ⟨_, rfl, wpAny_pure fin⟩)) hdrop))
    | exact wpAny_bind (wpAny_bind (m := Builtin.Tuple.tupleExact _) (wpAny_newObj_type (wpAny_pure ⟨_, rfl, wpAny_pure fin⟩) hdrop))

-- items
/-- the place that an index names -/
noncomputable def ixV (l : List V) (k : Int) : Option V := (seqIndex? k l.length).bind fun j => l[j]?
theorem seqIndex_at {k : Int} {n j : Nat} (h : seqIndex? k n = some j) : (0 ≤ k ∧ j = k.toNat) ∨ (k < 0 ∧ -(n : Int) ≤ k ∧ j = (k + n).toNat) := by
  unfold seqIndex? at h
  by_cases hk : k < 0
  · simp only [hk, if_true] at h
    split at h
    · rename_i h2
      injection h with h; subst h
      simp only [Bool.and_eq_true, decide_eq_true_eq] at h2
      exact .inr ⟨hk, by lia, rfl⟩
    · cases h
  · simp only [hk, if_false] at h
    split at h
    · injection h with h; subst h; exact .inl ⟨by lia, rfl⟩
    · cases h
theorem sub_list {slice} {l : List V} {k : Int} {v : V} (hb : -(2 ^ 63) ≤ k ∧ k < 2 ^ 63) (hv : ixV l k = some v) (h : K v) : SubOk g d slice (.list l) (.int k) K := fun A Φ s x y value ok i r₁ r₂ => by
  refine r₂.onI fun _ => ?_
  refine r₁.onL fun b xs n h1 r => ?_
  have hl : s.heap.IsList b xs.toArray := ⟨_, i.held _ _ h1, rfl, n, rfl⟩
  unfold ixV at hv
  cases hj : seqIndex? k l.length with
  | none => rw [hj] at hv; cases hv
  | some j =>
    rw [hj] at hv
    obtain ⟨z, hz, rz⟩ := r.get hv
    refine tail_of hl.typeIs list_getitem_lookup ?_
    rcases seqIndex_at hj with ⟨h0, rfl⟩ | ⟨h0, h2, rfl⟩
    · exact wpAny_getItem_list hl h0 hb.2 (by simpa using hz) (kv (.refl i.held) rz h)
    · refine wpAny_getItem_list_neg hl h0 ?_ hb.1 ?_ (kv (.refl i.held) rz h)
      · rw [List.size_toArray, r.length]; exact h2
      · rw [List.size_toArray, r.length]; simpa using hz
theorem sub_tup {slice} {l : List V} {k : Int} {v : V} (hb : -(2 ^ 63) ≤ k ∧ k < 2 ^ 63) (hv : ixV l k = some v) (h : K v) : SubOk g d slice (.tup l) (.int k) K := fun A Φ s x y value ok i r₁ r₂ => by
  refine r₂.onI fun _ => ?_
  refine r₁.onT fun b o xs n h1 hc hd r => ?_
  have ht : IsTup s.heap b xs.toArray := ⟨o, i.held _ _ h1, hc, n, hd⟩
  unfold ixV at hv
  cases hj : seqIndex? k l.length with
  | none => rw [hj] at hv; cases hv
  | some j =>
    rw [hj] at hv
    obtain ⟨z, hz, rz⟩ := r.get hv
    refine tail_of ht.typeIs slot_tuple_getitem.lookup ?_
    exact getItem_tuple ht hb.1 hb.2 (by rw [List.size_toArray, r.length]; exact hj) (by simpa using hz) (kv (.refl i.held) rz h)
end
end Mine
end

section
set_option maxRecDepth 100000
open PySem PySem.Calls PyProof.Rows PySem.W PySem.Builtin PySem.Builtin.Str
namespace Mine

section
variable {g : Gd} {d : Nat} {env : Env} {σ : Sg} {K : V → Prop} {KB : Bool → Prop}

/-- clean values that one type of Lean holds, with its equality -/
structure Rep (g : Gd) {α : Type} [BEq α] [LawfulBEq α] (f : α → V) : Prop where
  eqAt : ∀ {Φ : FM} {A : Around} {s : Shared} {a b : α} {x y : Value}, Real g Φ (f a) x → Real g Φ (f b) y → SeqAt.EqAt A s x y (a == b)
theorem repStr : Rep g V.str := ⟨fun r₁ r₂ => by refine r₁.onS fun _ => ?_; refine r₂.onS fun _ => ?_; exact .str_str _ _ _ _⟩
theorem repInt : Rep g V.int := ⟨fun r₁ r₂ => by refine r₁.onI fun _ => ?_; refine r₂.onI fun _ => ?_; exact .int_int _ _ _ _⟩
theorem repBool : Rep g V.bool := ⟨fun r₁ r₂ => by refine r₁.onB ?_; refine r₂.onB ?_; exact .bool_bool _ _⟩

theorem reals_map {α : Type} {f : α → V} {Φ : FM} {l : List α} {xs : List Value} (r : Reals g Φ (l.map f) xs) {j : Nat} (h : j < xs.length) : ∃ h2 : j < l.length, Real g Φ (f l[j]) xs[j] := by
  induction l generalizing xs j with
  | nil => cases r.unnil; cases h
  | cons a l ih =>
    obtain ⟨x, xs, rfl, r1, r⟩ := r.uncons
    cases j with
    | zero => exact ⟨Nat.zero_lt_succ _, r1⟩
    | succ j =>
      obtain ⟨h2, r⟩ := ih r (Nat.lt_of_succ_lt_succ h)
      exact ⟨Nat.succ_lt_succ h2, r⟩
theorem range_all_eq {α : Type} [BEq α] [LawfulBEq α] (l l' : List α) (hl : l.length = l'.length) : ((List.range l.length).all fun j => match l[j]?, l'[j]? with | some a, some b => a == b | _, _ => false) = (l == l') := by
  rw [Bool.eq_iff_iff, List.all_eq_true, beq_iff_eq]
  constructor
  · intro h
    apply List.ext_getElem hl
    intro j h1 h2
    have := h j (List.mem_range.mpr h1)
    rw [List.getElem?_eq_getElem h1, List.getElem?_eq_getElem h2] at this
    exact beq_iff_eq.mp this
  · rintro rfl j hj
    have hj := List.mem_range.mp hj
    rw [List.getElem?_eq_getElem hj]
    exact beq_self_eq_true _
theorem cmp_eq_l {α : Type} [BEq α] [LawfulBEq α] {f : α → V} (rp : Rep g f) {l l' : List α} (h : K (.bool (l == l'))) : CmpOk g d .Eq (.list (l.map f)) (.list (l'.map f)) K := fun A Φ s x y ok i r₁ r₂ => by
  refine r₁.onL fun a xs n h1 r₁ => ?_
  refine r₂.onL fun b ys m h2 r₂ => ?_
  have hl : s.heap.IsList a xs.toArray := ⟨_, i.held _ _ h1, rfl, n, rfl⟩
  have hl' : s.heap.IsList b ys.toArray := ⟨_, i.held _ _ h2, rfl, m, rfl⟩
  have e1 : xs.length = l.length := by simpa using r₁.length
  have e2 : ys.length = l'.length := by simpa using r₂.length
  by_cases hlen : l.length = l'.length
  · refine SeqAt.eq_listAt (e := fun j => match l[j]?, l'[j]? with | some a, some b => a == b | _, _ => false) hl hl' (by simp [e1, e2, hlen]) ok.units (fun j h1 h2 => ?_) ?_
    · obtain ⟨p1, q1⟩ := reals_map r₁ (j := j) (by simpa using h1)
      obtain ⟨p2, q2⟩ := reals_map r₂ (j := j) (by simpa using h2)
      have := rp.eqAt (A := A.in1) (s := s) q1 q2
      simpa [p1, p2] using this
    · rw [show (xs.toArray.size) = l.length by simp [e1], range_all_eq l l' hlen]
      exact kv (.refl i.held) (.bool _) h
  · refine SeqAt.eq_list_lengthsAt hl hl' (by simpa [e1, e2] using hlen) ok.units ?_
    have : (l == l') = false := by
      rw [beq_eq_false_iff_ne]; rintro rfl; exact hlen rfl
    rw [this] at h
    exact kv (.refl i.held) (.bool _) h
theorem cmp_ne_l {α : Type} [BEq α] [LawfulBEq α] {f : α → V} (rp : Rep g f) {l l' : List α} (h : K (.bool (l != l'))) : CmpOk g d .NotEq (.list (l.map f)) (.list (l'.map f)) K := fun A Φ s x y ok i r₁ r₂ => by
  refine r₁.onL fun a xs n h1 r₁ => ?_
  refine r₂.onL fun b ys m h2 r₂ => ?_
  have hl : s.heap.IsList a xs.toArray := ⟨_, i.held _ _ h1, rfl, n, rfl⟩
  have hl' : s.heap.IsList b ys.toArray := ⟨_, i.held _ _ h2, rfl, m, rfl⟩
  have e1 : xs.length = l.length := by simpa using r₁.length
  have e2 : ys.length = l'.length := by simpa using r₂.length
  by_cases hlen : l.length = l'.length
  · refine SeqAt.RcNeAt.lists (e := fun j => match l[j]?, l'[j]? with | some a, some b => a == b | _, _ => false) hl hl' (by simp [e1, e2, hlen]) ok.units (fun j h1 h2 => ?_) _ _ _ _ ?_
    · obtain ⟨p1, q1⟩ := reals_map r₁ (j := j) (by simpa using h1)
      obtain ⟨p2, q2⟩ := reals_map r₂ (j := j) (by simpa using h2)
      have := rp.eqAt (A := A.in1) (s := s) q1 q2
      simpa [p1, p2] using this
    · rw [show (xs.toArray.size) = l.length by simp [e1], range_all_eq l l' hlen]
      exact kv (.refl i.held) (.bool _) h
  · refine SeqAt.RcNeAt.lists_lengths hl hl' (by simpa [e1, e2] using hlen) ok.units _ _ _ _ ?_
    have : (l != l') = true := by
      rw [bne_iff_ne]; rintro rfl; exact hlen rfl
    rw [this] at h
    exact kv (.refl i.held) (.bool _) h

noncomputable def hitStr (a : Str) : Value → Bool
  | .str x _ => x == a
  | _ => false
noncomputable def hitInt (a : Int) : Value → Bool
  | .int x _ => x == a
  | _ => false
theorem any_hit (a : Str) {l : List Str} {Φ : FM} {xs : List Value} (r : Reals g Φ (l.map V.str) xs) : xs.any (hitStr a) = l.contains a := by
  induction l generalizing xs with
  | nil => rw [r.unnil]; rfl
  | cons b l ih =>
    obtain ⟨x, xs, rfl, r1, r'⟩ := r.uncons
    obtain ⟨t, rfl⟩ := real_str r1
    rw [List.any_cons, ih r', List.contains_cons]
    show (b == a || _) = (a == b || _)
    rw [Bool.beq_comm (a := a)]
theorem mem_hit {Φ : FM} {A : Around} {s : Shared} {a : Str} {t : Tok} {l : List Str} {xs : List Value} (r : Reals g Φ (l.map V.str) xs) : ∀ y ∈ xs, SeqAt.EqAt A s y (.str a t) (hitStr a y) := by
  induction l generalizing xs with
  | nil => rw [r.unnil]; exact fun _ h => nomatch h
  | cons b l ih =>
    obtain ⟨x, xs, rfl, r1, r'⟩ := r.uncons
    obtain ⟨t, rfl⟩ := real_str r1
    exact List.forall_mem_cons.mpr ⟨.str_str _ _ _ _, ih r'⟩
theorem memi_hit {Φ : FM} {A : Around} {s : Shared} {a : Int} {t : Tok} {l : List Int} {xs : List Value} (r : Reals g Φ (l.map V.int) xs) : ∀ y ∈ xs, SeqAt.EqAt A s y (.int a t) (hitInt a y) := by
  induction l generalizing xs with
  | nil => rw [r.unnil]; exact fun _ h => nomatch h
  | cons b l ih =>
    obtain ⟨x, xs, rfl, r1, r'⟩ := r.uncons
    obtain ⟨t, rfl⟩ := real_int r1
    exact List.forall_mem_cons.mpr ⟨.int_int _ _ _ _, ih r'⟩
theorem ints_reals {Φ : FM} {l : List Int} {xs : List Value} (r : Reals g Φ (l.map V.int) xs) : IntsAre xs l := by
  induction l generalizing xs with
  | nil => rw [r.unnil]; exact .nil
  | cons b l ih =>
    obtain ⟨x, xs, rfl, r1, r'⟩ := r.uncons
    obtain ⟨t, rfl⟩ := real_int r1
    exact .cons _ _ (ih r')
theorem cmp_nin_l {a : Str} {l : List Str} (h : K (.bool (!l.contains a))) : CmpOk g d .NotIn (.str a) (.list (l.map V.str)) K := fun A Φ s x y ok i r₁ r₂ => by
  refine r₁.onS fun t => ?_
  refine r₂.onL fun b xs n h1 r => ?_
  refine SeqAt.notIn_listAt (items := xs.toArray) (hitStr a) ⟨_, i.held _ _ h1, rfl, n, rfl⟩ (fun y hy => mem_hit r y (by simpa using hy)) ?_
  rw [show xs.toArray.any (hitStr a) = xs.any (hitStr a) by simp, any_hit a r]
  exact kv (.refl i.held) (.bool _) h
theorem meth_list {name : Str} {l : List V} {id : String} (slot : PySem.Slot "list" name id) (hty : typeOf (.builtin id) = pure (.type "method_descriptor")) : Meth g d name (.list l) (.builtin id) :=
  meth_of PySem.F.plainAttrs_list slot hty fun Φ s x i r => by
    cases r with | list h1 r => exact ⟨⟨_, i.held _ _ h1, rfl⟩, fun a e => by cases e; exact ⟨_, i.held _ _ h1, rfl⟩⟩
theorem call_count {k : Int} {l : List Int} (h : K (.int (l.count k : Nat))) : CallOk g d (.builtin "list.count") [.list (l.map V.int), .int k] K := fun A Φ s xs ok i r => by
  refine r.on2 fun _ _ r1 r2 => ?_
  refine r2.onI fun _ => ?_
  refine r1.onL fun b ys n h1 r => ?_
  exact count_list_ints (vs := ys) ⟨_, i.held _ _ h1, rfl, n, rfl⟩ (ints_reals r) (kv (.tok i _) (.int _ _) h)
theorem call_index {k : Int} {l : List Int} (hk : k ∈ l) (hs : l.length ≤ sizeLine) (h : K (.int (l.idxOf k : Nat))) : CallOk g d (.builtin "list.index") [.list (l.map V.int), .int k] K := fun A Φ s xs ok i r => by
  refine r.on2 fun _ _ r1 r2 => ?_
  refine r2.onI fun t => ?_
  refine r1.onL fun b vs n h1 r => ?_
  have hi := ints_reals r
  have hlen := hi.length
  have hj : l.idxOf k < l.length := List.idxOf_lt_length_iff.mpr hk
  have hsz : sizeLine = 2 ^ 24 := rfl
  refine call_meets PySem.F.slot_list_index ⟨_, i.held _ _ h1, rfl⟩ PySem.F.entry_list_index (PySem.F.args_list_index_2 _ _)
    (SeqAt.list_indexAt b vs.toArray n none #[] (.int k t) (hitInt k) (l.idxOf k) (by simpa [hlen] using hj) (by lia) ?_ ?_) ⟨i.held _ _ h1, fun y hy => memi_hit r y (by simpa using hy), kv (.tok i _) (.int _ _) h⟩
  · obtain ⟨p, q⟩ := reals_map r (j := l.idxOf k) (by exact le2 (c3 _ _ _) (.v 1) (.v 0) (.a (.v 2) (.n 1)) (.v 1) (.a (.v 2) (.n 1)) (.v 0) (Nat.le_of_eq hlen.symm) hj)
    have q' : Real g Φ (.int l[l.idxOf k]) vs[l.idxOf k] := q
    show hitInt k vs[l.idxOf k] = true
    generalize vs[l.idxOf k] = z at q'
    cases q'
    simpa [hitInt] using List.getElem_idxOf hj
  · intro j hjs hlt
    obtain ⟨p, q⟩ := reals_map r (j := j) (by simpa using hjs)
    show hitInt k vs[j] = false
    have : (l[j] == k) = false := ne_of_lt_idxOf hlt p
    generalize vs[j] = z at q
    cases q
    exact this
end
end Mine
end

section
set_option maxRecDepth 100000
set_option maxHeartbeats 4000000
open PySem PySem.Calls PyProof.Rows PySem.W PySem.Builtin PySem.Builtin.Str
namespace Mine

section
variable {g : Gd} {d : Nat} {env : Env} {σ : Sg} {K : V → Prop} {KB : Bool → Prop}

-- '%'
theorem meets_form {t u v p : Tok} {x z : Str} {n : Int} {b : Addr} (hx : x.length ≤ 100000) (hz : z.length ≤ 100000) (h0 : 0 ≤ n) (h1 : n < 10 ^ 10) :
    Meets («str.__mod__» ⟨[.str ⟨#[37, 115, 58, 37, 100, 40, 37, 115, 41]⟩ t, .ref b], []⟩) (fun _ R s => IsTup s.heap b #[.str x u, .int n v, .str z p] ∧ ∀ t' k, R (.ok (.ret (.str (x ++ Str.ofString ":" ++ Str.ofString (toString n) ++ Str.ofString "(" ++ z ++ Str.ofString ")") t'))) { s with toks := k }) := by
  kpt_run
theorem bin_mod_t {x z : Str} {n : Int} (hx : x.length ≤ 100000) (hz : z.length ≤ 100000) (h0 : 0 ≤ n) (h1 : n < 10 ^ 10) (h : K (.str (x ++ Str.ofString ":" ++ Str.ofString (toString n) ++ Str.ofString "(" ++ z ++ Str.ofString ")"))) :
    BinOk g d .Mod (.str "%s:%d(%s)") (.tup [.str x, .int n, .str z]) K := fun A Φ s v y ok i r₁ r₂ => by
  refine r₁.onS fun t => ?_
  refine r₂.onT fun b o xs n' e1 hc hd r => ?_
  obtain ⟨x1, xs, rfl, a1, r⟩ := r.uncons
  obtain ⟨x2, xs, rfl, a2, r⟩ := r.uncons
  obtain ⟨x3, xs, rfl, a3, r⟩ := r.uncons
  obtain rfl := r.unnil
  obtain ⟨t1, rfl⟩ := real_str a1
  obtain ⟨t2, rfl⟩ := real_int a2
  obtain ⟨t3, rfl⟩ := real_str a3
  have ht : IsTup s.heap b #[.str x t1, .int n t2, .str z t3] := ⟨o, i.held _ _ e1, hc, n', hd⟩
  have hT : s.TypeIs (.ref b) "tuple" := ⟨o, i.held _ _ e1, hc⟩
  exact KPt.bin_left (T := "str") (U := "tuple") (op := .Mod) (by decide) (typeIs_str s _ t) hT F.fills_str_mod KPt.fills_tuple F.slot_str_mod
    (call_meets F.slot_str_mod (typeIs_str s _ t) F.entry_str_mod (F.args_str_mod_2 _ _) (meets_form hx hz h0 h1) ⟨ht, fun t' k => ⟨(fun e => nomatch e), kv (.tok i _) (.str _ _) h⟩⟩)
theorem meets_brace {t u : Tok} {x : Str} (hx : x.length ≤ 1000000) :
    Meets («str.__mod__» ⟨[.str ⟨#[123, 37, 115, 125]⟩ t, .str x u], []⟩) (fun _ R s => ∀ t' k, R (.ok (.ret (.str (Str.ofString "{" ++ x ++ Str.ofString "}") t'))) { s with toks := k }) := by
  kpc_run_s
theorem bin_mod_s {x : Str} (hx : x.length ≤ 1000000) (h : K (.str (Str.ofString "{" ++ x ++ Str.ofString "}"))) :
    BinOk g d .Mod (.str "{%s}") (.str x) K := fun A Φ s v y ok i r₁ r₂ => by
  refine r₁.onS fun _ => ?_
  refine r₂.onS fun _ => ?_
  exact KPc.mod_str (X' := ⟨#[123, 37, 115, 125]⟩) (T := fun x => Str.ofString "{" ++ x ++ Str.ofString "}") rfl hx (fun z hz => meets_brace hz) fun t k => kv (.tok i _) (.str _ _) h

-- lists
theorem bin_add_l {l l' : List V} (hs : l.length + l'.length ≤ sizeLine) (h : K (.list (l ++ l'))) : BinOk g d .Add (.list l) (.list l') K := fun A Φ s x y ok i r₁ r₂ => by
  refine r₁.onL fun a xs n h1 r₁ => ?_
  refine r₂.onL fun b ys m h2 r₂ => ?_
  refine P.add_list (i.held _ _ h1) (i.held _ _ h2) ?_ (by simp only [List.size_toArray, r₁.length, r₂.length]; exact hs)
  have e := Ext.push i (lstO (xs ++ ys) 0) rfl s.toks
  rw [List.append_toArray]
  exact ⟨_, _, e, .list (FM.put_self ..) ((r₁.append r₂).mono e.mono), h⟩
theorem reals_rep {Φ : FM} {l : List V} {xs : List Value} (r : Reals g Φ l xs) : ∀ n, Reals g Φ (List.replicate n l).flatten (List.replicate n xs).flatten
  | 0 => .nil
  | n + 1 => by simp only [List.replicate_succ, List.flatten_cons]; exact r.append (reals_rep r n)
theorem bin_mul_l {l : List V} {n : Int} (hn : -(2 ^ 63 : Int) ≤ n ∧ n < 2 ^ 63) (hs : l.length * n.toNat ≤ 2 ^ 24) (h : K (.list (List.replicate n.toNat l).flatten)) : BinOk g d .Mult (.list l) (.int n) K := fun A Φ s x y ok i r₁ r₂ => by
  refine r₂.onI fun t => ?_
  refine r₁.onL fun a xs k h1 r₁ => ?_
  have ho := i.held _ _ h1
  have hsz' : xs.toArray.size * n.toNat ≤ 2 ^ 24 := by rw [List.size_toArray, r₁.length]; exact hs
  refine wpAny_binaryOp_repeat_ref (T := "list") (U := "int") (by decide) ⟨_, ho, rfl⟩ (fun s' => typeIs_int s' n t) noFill_list_mul F.fills_int_mul F.slot_int_rmul repeat_list F.slot_int_index.lookup
    (call_meets F.slot_int_rmul (typeIs_int s n t) F.entry_int_rmul (F.args_int_rmul_2 _ _) (lm_int_rmul_list_any n t a xs.toArray k none #[])
      ⟨ho, rfl, ⟨_, ho, rfl⟩, call_meets F.slot_list_mul ⟨_, ho, rfl⟩ F.entry_list_mul (F.args_list_mul_2 _ _)
        (lm_list_mul_any a xs.toArray k none #[] n t (by simp [Builtin.List.listFitsIndex]; lia) (by omega) (by simp [Builtin.List.listTooLong, sizeLine]; simp at hsz'; omega))
        ⟨ho, ?_⟩⟩)
  rw [listMul_foldl_if]
  have e := Ext.push i (lstO (List.replicate n.toNat xs).flatten 0) rfl s.toks
  exact ⟨_, _, e, .list (FM.put_self ..) ((reals_rep r₁ _).mono e.mono), h⟩
theorem reals_ints {Φ : FM} {l : List Int} {xs : List Value} (h : IntsAre xs l) : Reals g Φ (l.map V.int) xs := by
  induction h with
  | nil => exact .nil
  | cons n t _ ih => exact .cons (.int n t) ih
theorem call_sum {l : List Int} (h : K (.int l.sum)) : CallOk g d (.builtin "sum") [.list (l.map V.int)] K := fun A Φ s xs ok i r => by
  refine r.on1 fun _ r1 => ?_
  refine r1.onL fun a ys n h1 r => ?_
  have hi := ints_reals r
  obtain ⟨zs, e⟩ := hi.allInts.items
  have hl : s.heap.IsList a (intItems zs) := e ▸ ⟨_, i.held _ _ h1, rfl, n, rfl⟩
  refine sum_intListG ok.1 hl fun h' tk t' hk => ?_
  have hns : l = zs.toList.map (·.1) := by rw [← hi.numsOf, ← nums_intItems, ← e]
  have e2 : preSum (numAt zs) zs.size = l.sum := by
    rw [preSum_eq, List.take_of_length_le (by simp), hns]
  rw [e2]
  exact kv (.keeps i hk tk) (.int _ _) h
theorem call_max_l {l : List Int} (hne : 0 < l.length) (h : ∀ M, M ∈ l → (∀ a ∈ l, a ≤ M) → K (.int M)) : CallOk g d (.builtin "max") [.list (l.map V.int)] K := fun A Φ s xs ok i r => by
  refine r.on1 fun _ r1 => ?_
  refine r1.onL fun a ys n h1 r => ?_
  have hi := ints_reals r
  obtain ⟨zs, e⟩ := hi.allInts.items
  have hl : s.heap.IsList a (intItems zs) := e ▸ ⟨_, i.held _ _ h1, rfl, n, rfl⟩
  have hns : l = zs.toList.map (·.1) := by rw [← hi.numsOf, ← nums_intItems, ← e]
  have hsz : 0 < zs.size := by
    have h3 := hne; rw [hns, List.length_map, Array.length_toList] at h3; exact h3
  refine max_intList ok.1 hl hsz fun v h' tk hv hk => ?_
  obtain ⟨t, rfl⟩ := intItems_at hv
  obtain ⟨h1', h2'⟩ := argBest_gt (numAt zs) (zs.size - 1)
  refine kv (.keeps i hk tk) (.int _ _) (h _ ?_ fun b hb => ?_)
  · rw [hns, numAt_eq]; exact getD_mem (by rw [List.length_map, Array.length_toList]; omega)
  · rw [hns] at hb
    obtain ⟨j, hj, rfl⟩ := mem_getD hb
    rw [List.length_map, Array.length_toList] at hj
    rw [← numAt_eq]; exact h2' j (by omega)
theorem call_max_2 {a b : Int} (h : K (.int (if b > a then b else a))) : CallOk g d (.builtin "max") [.int a, .int b] K := fun A Φ s xs ok i r => by
  refine r.on2 fun _ _ r1 r2 => ?_
  refine r1.onI fun t => ?_
  refine r2.onI fun u => ?_
  refine max_two_ints ok.1 fun h' tk hk => ?_
  split
  · rename_i hc; rw [if_pos hc] at h; exact kv (.keeps i hk tk) (.int _ _) h
  · rename_i hc; rw [if_neg hc] at h; exact kv (.keeps i hk tk) (.int _ _) h
theorem call_str_i {a : Int} (ha : a.natAbs.log2 < 1920) (h : K (.str (toString a))) : CallOk g d (.type "str") [.int a] K := fun A Φ s xs ok i r => by
  refine r.on1 fun _ r1 => ?_; refine r1.onI fun _ => ?_; exact P.str_of_int ha (kv (.tok i _) (.str _ _) h)
theorem call_isi {a : Int} (h : K (.bool false)) : CallOk g d (.builtin "isinstance") [.int a, .glob (.type "tuple")] K := fun A Φ s xs ok i r => by
  refine r.on2 fun _ _ r1 r2 => ?_; refine r1.onI fun _ => ?_; refine r2.onG ?_; exact IsiPair.int_tuple (kv (.tok i _) (.bool _) h)
end
end Mine
end

section
set_option maxRecDepth 100000
open PySem PySem.Calls PyProof.Rows PySem.W PySem.Builtin PySem.Builtin.Str
namespace Mine

section
variable {g : Gd} {d : Nat} {env : Env} {σ : Sg} {O : List Addr} {Φ : FM} {s : Shared} {K : Fl → Sg → Prop}

theorem SReal.own_ref {h : Heap} {sl : Slot} {x : Value} (H : SReal g Φ h sl x) (ho : sl.isOwn = true) : ∃ a, x = .ref a ∧ Φ a = none ∧ (h.get? a).isSome = true := by
  cases sl with
  | val v => cases ho
  | own l => obtain ⟨a, xs, n, e, f, o, _⟩ := H; exact ⟨a, e, f, by rw [o]; rfl⟩
  | ownd l => obtain ⟨a, o, kvs, e, f, o', _⟩ := H; exact ⟨a, e, f, by rw [o']; rfl⟩

/-- a new place among the frame's own -/
theorem St.addOwn {W G Φ' s'} (S : St g env σ O Φ s) (S' : St g env σ O Φ' s') (t : Tr W G Φ s Φ' s') {a : Addr} (hn : s.heap.get? a = none) (hf : Φ' a = none) (hs : (s'.heap.get? a).isSome = true) : St g env σ (a :: O) Φ' s' :=
  { S' with
    ow := fun b hb => by
      rcases List.mem_cons.mp hb with rfl | hb
      · refine ⟨hf, hs, fun q => ?_, fun x c hc q => ?_⟩
        · obtain ⟨m, o, es, ep, ho, _⟩ := S.ns
          rw [← q, hn] at ho; cases ho
        · obtain ⟨_, ⟨v, o, ho, _⟩, _⟩ := S.cs x c hc
          rw [← q, hn] at ho; cases ho
      · exact S'.ow b hb
    vars := fun x sl h => let ⟨v, H, R, hO⟩ := S'.vars x sl h; ⟨v, H, R, fun q a e => .tail _ (hO q a e)⟩ }

theorem St.addOwn' {W G Φ' s' O'} (S : St g env σ O Φ s) (S' : St g env σ O' Φ' s') (t : Tr W G Φ s Φ' s') {a : Addr} (hn : s.heap.get? a = none) (hf : Φ' a = none) (hs : (s'.heap.get? a).isSome = true) : St g env σ (a :: O') Φ' s' :=
  { S' with
    ow := fun b hb => by
      rcases List.mem_cons.mp hb with rfl | hb
      · refine ⟨hf, hs, fun q => ?_, fun x c hc q => ?_⟩
        · obtain ⟨m, o, es, ep, ho, _⟩ := S.ns
          rw [← q, hn] at ho; cases ho
        · obtain ⟨_, ⟨v, o, ho, _⟩, _⟩ := S.cs x c hc
          rw [← q, hn] at ho; cases ho
      · exact S'.ow b hb
    vars := fun x sl h => let ⟨v, H, R, hO⟩ := S'.vars x sl h; ⟨v, H, R, fun q a e => .tail _ (hO q a e)⟩ }

/-- an own thing written -/
theorem St.mutate {x : Str} {sl sl' : Slot} {a : Addr} {h' : Heap} (S : St g env σ O Φ s) (hx : σ.lookup x = some sl) (ho : sl.isOwn = true) (ha : Holds env s.heap x (.ref a)) (hO : a ∈ O) (hs : Heap.SameBut a s.heap h') (ho' : sl'.isOwn = true)
    (hr : SReal g Φ h' sl' (.ref a)) (k : Nat) : St g env ((x, sl') :: σ) O Φ { s with heap := h', toks := k } ∧ Tr (Wr env O) no1 Φ s Φ { s with heap := h', toks := k } := by
  have tr : Tr (Wr env O) no1 Φ s Φ { s with heap := h', toks := k } := Tr.keeps S.toInv (fun b o hw e => (hs.2 b fun q => hw (q ▸ .inr (.inr hO))).trans e) (fun b hw => wr_none S hw) k
  refine ⟨?_, tr⟩
  have hal := (S.ow a hO).2.2
  have hH : ∀ y v, Holds env s.heap y v → Holds env h' y v := fun y v H => by
    rcases H with ⟨q, m, n, e⟩ | ⟨q, c, e, i⟩
    · exact .inl ⟨q, m, n.sameBut hs (Ne.symm hal.1), e⟩
    · exact .inr ⟨q, c, e, i.sameBut hs (Ne.symm (hal.2 y c (mem_of_lookup e)))⟩
  have back : ∀ y sl v, σ.lookup y = some sl → Holds env h' y v → Holds env s.heap y v := fun y sl v e H => by
    obtain ⟨v0, H0, _⟩ := S.vars y sl e
    rw [Holds.det H (hH y v0 H0)]; exact H0
  refine { toInv := S.toInv.ext tr, ok := S.ok, ns := let ⟨m, n⟩ := S.ns; ⟨m, n.sameBut hs (Ne.symm hal.1)⟩, lf := S.lf,
           cs := fun y c hc => let ⟨f, ⟨v, i⟩, l⟩ := S.cs y c hc; ⟨f, ⟨v, i.sameBut hs (Ne.symm (hal.2 y c hc))⟩, l⟩, apart := S.apart,
           ow := fun b hb => ?_, vars := fun y sl1 e => ?_, sep := fun y z sl1 sl2 b hyz e1 o1 e2 o2 H1 H2 => ?_ }
  · refine ⟨(S.ow b hb).1, ?_, (S.ow b hb).2.2⟩
    by_cases q : b = a
    · subst q
      obtain ⟨a', e, _, hh⟩ := hr.own_ref ho'
      cases e; exact hh
    · show (h'.get? b).isSome = true
      rw [hs.2 b q]; exact (S.ow b hb).2.1
  · by_cases hy : y = x
    · subst hy
      rw [lookup_cons_eq] at e; cases e
      exact ⟨.ref a, hH y _ ha, hr, fun _ b e => by cases e; exact hO⟩
    · rw [lookup_cons_ne hy] at e
      obtain ⟨v, H, R, hO'⟩ := S.vars y sl1 e
      refine ⟨v, hH y v H, ?_, hO'⟩
      cases sl1 with
      | val u => exact R
      | own l =>
        obtain ⟨b, xs, n, rfl, f, o, r⟩ := R
        have : b ≠ a := fun q => by subst q; exact S.sep x y _ _ b (Ne.symm hy) hx ho e rfl ha H
        exact ⟨b, xs, n, rfl, f, (hs.2 b this).trans o, r⟩
      | ownd l =>
        obtain ⟨b, o, kvs, rfl, f, o', r⟩ := R
        have : b ≠ a := fun q => by subst q; exact S.sep x y _ _ b (Ne.symm hy) hx ho e rfl ha H
        exact ⟨b, o, kvs, rfl, f, (hs.2 b this).trans o', r⟩
  · have lift : ∀ y sl1, ((x, sl') :: σ).lookup y = some sl1 → sl1.isOwn = true → ∃ sl2, σ.lookup y = some sl2 ∧ sl2.isOwn = true := fun y sl1 e o => by
      by_cases hy : y = x
      · subst hy; exact ⟨sl, hx, ho⟩
      · rw [lookup_cons_ne hy] at e; exact ⟨sl1, e, o⟩
    obtain ⟨t1, e1', o1'⟩ := lift y sl1 e1 o1
    obtain ⟨t2, e2', o2'⟩ := lift z sl2 e2 o2
    exact S.sep y z t1 t2 b hyz e1' o1' e2' o2' (back y t1 _ e1' H1) (back z t2 _ e2' H2)

inductive PostN (g : Gd) (Φ : FM) (s : Shared) (K : Slot → Prop) (x : Value) (s' : Shared) : Prop
  | mk (Φ' : FM) (sl : Slot) : Ext Φ s Φ' s' → SReal g Φ' s'.heap sl x → (sl.isOwn = true → ∀ a, x = .ref a → s.heap.get? a = none) → K sl → PostN g Φ s K x s'
/-- an expression whose value may be a thing of the frame's own -/
noncomputable def EvN (g : Gd) (d : Nat) (env : Env) (σ : Sg) (e : Expr) (K : Slot → Prop) : Prop :=
  ∀ A Φ s, AOk d A → Rd g env σ Φ s → wpAny (model g.prog g.w) A (eval e env) (PostN g Φ s K) bot s
theorem evn_val {e} {K : Slot → Prop} (h : Ev g d env σ e fun v => K (.val v)) : EvN g d env σ e K := fun A Φ s a R =>
  wpAny_mono (h A Φ s a R) (fun x s₁ ⟨Φ₁, v, e₁, r₁, k₁⟩ => ⟨Φ₁, .val v, e₁, r₁, (fun q => by cases q), k₁⟩) fun _ _ f => f
theorem evn_list {es pos} {K : Slot → Prop} (h : Evs g d env σ es fun vs => vs.length ≤ sizeLine ∧ K (.own vs)) : EvN g d env σ (.List es pos) K := fun A Φ s a R =>
  List_ (wpAny_mono (h A Φ s pos a R) (fun xs s₁ ⟨Φ₁, vs, e₁, r₁, k₁⟩ => by
    have i := (R.ext e₁).toInv
    have e₂ := Ext.push' i (lstO xs 0) s₁.toks
    refine wpAny_newList ⟨Φ₁, .own vs, Tr.ext e₁ e₂, ⟨_, xs, 0, rfl, i.none (size_none _), Heap.get?_push_size _ rfl, r₁⟩, fun _ b e => ?_, k₁.2⟩ (by rw [r₁.length]; exact k₁.1)
    cases e
    cases q : s.heap.get? s₁.heap.objs.size with
    | none => rfl
    | some o => have := e₁.kept _ _ q; rw [size_none] at this; cases this) fun _ _ f => f)

/-- a store of a slot -/
theorem St.storeN {M : Model} {A : Around} {E : Value → Shared → Prop} {Φ₁ s₁} {x : Str} {val : Value} {sl : Slot} {Q : Unit → Shared → Prop} (S : St g env σ O Φ s) (e₁ : Ext Φ s Φ₁ s₁) (hx : isVar env x = true) (hsl : SReal g Φ₁ s₁.heap sl val)
    (hn : sl.isOwn = true → ∀ a, val = .ref a → s.heap.get? a = none)
    (h : ∀ s' O', St g env ((x, sl) :: σ) O' Φ₁ s' → Tr (Wr env O) no1 Φ s Φ₁ s' → (∀ a ∈ O', a ∈ O ∨ s.heap.get? a = none) → Q () s') : wpAny M A (storeName env x val) Q E s₁ := by
  have S₁ := S.ext e₁
  by_cases ho : sl.isOwn = true
  · obtain ⟨a, rfl, hf, hs⟩ := hsl.own_ref ho
    have hna := hn ho a rfl
    have S₂ := S.addOwn S₁ e₁ hna hf hs
    refine S₂.storeX (sl := sl) hx hsl (fun _ b e => ?_) fun s' S' tr => h s' _ S' (Tr.trans (Tr.of_ext e₁) (tr.mono_W (fun a w => wx_wr (O := O) a w) fun _ w => w) (fun _ q => .inl q) fun _ q => .inl q) fun b hb => ?_
    · cases e
      refine ⟨.head _, fun y sl' hy e o H => ?_⟩
      obtain ⟨v, H0, R0, hO0⟩ := S.vars y sl' e
      obtain ⟨v1, H1, R1, hO1⟩ := S₁.vars y sl' e
      have : v1 = .ref a := Holds.det H1 H
      subst this
      have := (S.ow a (hO1 o a rfl)).2.1
      rw [hna] at this; cases this
    · rcases List.mem_cons.mp hb with rfl | hb
      · exact .inr hna
      · exact .inl hb
  · exact S₁.store (sl := sl) hx hsl (fun q => absurd q ho) fun s' S' tr => h s' O S' (Tr.trans (Tr.of_ext e₁) tr (fun _ q => .inl q) fun _ q => .inl q) fun b hb => .inl hb
theorem ex_assignN {x pos' value pos} (h : EvN g d env σ value fun sl => K .next ((x, sl) :: σ)) (hx : isVar env x = true) (hs : swapsWith value (some (.Name x pos')) pos.line env = pure false := by with_unfolding_all rfl) :
    Ex g d env σ (.Assign [.Name x pos'] value pos) K := fun A Φ s O a S => by
  refine wpAny_Assign_Name (wpAny_mono (h A Φ s a S.rd) (fun val s₁ ⟨Φ₁, sl, e₁, r₁, n₁, k₁⟩ => ?_) fun _ _ f => f) hs
  exact S.storeN e₁ hx r₁ n₁ fun s' O' S' tr ho => ⟨Φ₁, _, O', .next, tr, ho, S', trivial, k₁⟩

/-- what an own name holds -/
theorem St.ownList {x : Str} {l : List V} (S : St g env σ O Φ s) (hx : σ.lookup x = some (.own l)) : ∃ a xs n, Holds env s.heap x (.ref a) ∧ a ∈ O ∧ Φ a = none ∧ s.heap.get? a = some (lstO xs n) ∧ Reals g Φ l xs := by
  obtain ⟨v, H, ⟨a, xs, n, rfl, f, o, r⟩, hO⟩ := S.vars x _ hx
  exact ⟨a, xs, n, H, hO rfl a rfl, f, o, r⟩
theorem St.ownDict {x : Str} {l : List (Str × Int)} (S : St g env σ O Φ s) (hx : σ.lookup x = some (.ownd l)) : ∃ a o kvs, Holds env s.heap x (.ref a) ∧ a ∈ O ∧ Φ a = none ∧ s.heap.get? a = some o ∧ o.IsDictOf (strKind g.prog g.w) kvs ∧ IntVals l kvs ∧ (a == sysModules) = false := by
  obtain ⟨v, H, ⟨a, o, kvs, rfl, f, o', r, i, q⟩, hO⟩ := S.vars x _ hx
  exact ⟨a, o, kvs, H, hO rfl a rfl, f, o', r, i, q⟩

theorem ex_append {x px apos e pos pos' l} (hl : σ.lookup x = some (.own l)) (h : Ev g d env σ e fun v => l.length ≤ sizeLine ∧ K .next ((x, .own (l ++ [v])) :: σ))
    (hd : (x == ("__debug__" : Str)) = false := by decide) (hn : (x == ("__classdict__" : Str)) = false := by decide) (hp : plainArgs [e] = true := by with_unfolding_all rfl) (hline : (apos.endLine == pos.line) = true := by with_unfolding_all rfl)
    (hb : attributeBase (.Name x px) ("append" : Str) env (eval (.Name x px) env) = eval (.Name x px) env := by with_unfolding_all rfl) (hi : interactive env = false := by with_unfolding_all rfl) :
    Ex g d env σ (.Expr (.Call (.Attribute (.Name x px) "append" apos) [e] [] pos) pos') K := fun A Φ s O a S => by
  refine wpAny_Expr_any ?_ hi rfl
  rw [arm_eval_Call, hb]
  obtain ⟨b, xs, n, H, hbO, hf, ho, r⟩ := S.ownList hl
  refine wpAny_bind (Holds.load (h := s.heap) S.ok H ?_ hd hn)
  refine wpAny_bind (wpAny_standAt (methodCall_few (es := [e]) rfl hp hline ?_))
  refine getMethod_builtin (T := "list") ⟨_, ho, rfl⟩ PySem.F.plainAttrs_list PySem.F.slot_list_append PySem.F.type_list_append (fun a e => by cases e; exact ⟨_, ho, rfl⟩) ?_
  refine callWith_val (f := .builtin "list.append") rfl hp ?_
  refine wpAny_mono (evs_cons (K := fun vs => l.length ≤ sizeLine ∧ ∃ v, vs = [v] ∧ K .next ((x, .own (l ++ [v])) :: σ)) ((fun A Φ s a R => (h A Φ s a R : Wp ..).mono fun v k => evs_nil ⟨k.1, v, rfl, k.2⟩)) ((starEach_plain hp).trans rfl) A Φ s pos a S.rd) (fun ys s₁ ⟨Φ₁, vs, e₁, r₁, hsz, v, hv, k₁⟩ => ?_) fun _ _ f => f
  subst hv
  obtain ⟨y, ys', rfl, ry, r₂⟩ := r₁.uncons
  obtain rfl := r₂.unnil
  · skip
    have S₁ := S.ext e₁
    have ho₁ : s₁.heap.get? b = some (lstO xs n) := e₁.kept _ _ ho
    have hf₁ : Φ₁ b = none := e₁.fresh b hf (by rw [ho]; rfl)
    have H₁ := H.keeps e₁.kept
    refine wpAny_list_append_plain (l := b) ⟨n, ho₁⟩ (fun h' hp' hs' => ?_) (by rw [List.size_toArray, r.length]; exact hsz)
    obtain ⟨n', hp'⟩ := hp'
    have hp2 : h'.get? b = some (lstO (xs ++ [y]) n') := by rw [hp']; simp
    obtain ⟨S₂, t₂⟩ := S₁.mutate (sl' := .own (l ++ [v])) hl rfl H₁ hbO hs' rfl ⟨b, xs ++ [y], n', rfl, hf₁, hp2, (r.mono e₁.mono).append (.cons ry .nil)⟩ s₁.toks
    exact ⟨Φ₁, _, O, .next, Tr.trans (Tr.of_ext e₁) t₂ (fun _ q => .inl q) fun _ q => .inl q, fun _ q => .inl q, S₂, trivial, k₁⟩

end
end Mine
end

section
set_option maxRecDepth 100000
open PySem PySem.Calls PyProof.Rows PySem.W PySem.Builtin PySem.Builtin.Str
namespace Mine

/-- dicts from str to int -/
noncomputable def dget (l : List (Str × Int)) (k : Str) : Option Int := (l.find? fun p => p.1 = k).map (·.2)
noncomputable def dput (l : List (Str × Int)) (k : Str) (i : Int) : List (Str × Int) := if l.any (fun p => p.1 = k) then l.map (fun p => if p.1 = k then (p.1, i) else p) else l ++ [(k, i)]

theorem IntVals.get {l : List (Str × Int)} {kvs : List (Str × Value)} (h : IntVals l kvs) (k : Str) : (dget l k = none ∧ valueAt kvs k = none) ∨ ∃ i t, dget l k = some i ∧ valueAt kvs k = some (.int i t) := by
  induction h with
  | nil => exact .inl ⟨rfl, rfl⟩
  | @cons k' i t l kvs _ ih =>
    unfold dget valueAt at *
    rw [List.find?_cons, List.find?_cons]
    by_cases q : k' = k
    · simp only [q, decide_true]; exact .inr ⟨i, t, rfl, rfl⟩
    · simp only [q, decide_false]; exact ih
theorem IntVals.any {l : List (Str × Int)} {kvs : List (Str × Value)} (h : IntVals l kvs) (k : Str) : (kvs.any fun p => p.1 = k) = l.any fun p => p.1 = k := by
  induction h with
  | nil => rfl
  | cons _ ih => simp only [List.any_cons, ih]
theorem IntVals.map {l : List (Str × Int)} {kvs : List (Str × Value)} (h : IntVals l kvs) (k : Str) (i : Int) (t : Tok) : IntVals (l.map fun p => if p.1 = k then (p.1, i) else p) (kvs.map fun p => if p.1 = k then (p.1, .int i t) else p) := by
  induction h with
  | nil => exact .nil
  | @cons k' i' t' l kvs _ ih =>
    simp only [List.map_cons]
    by_cases q : k' = k
    · simp only [q, if_true]; exact .cons ih
    · simp only [q, if_false]; exact .cons ih
theorem IntVals.snoc {l : List (Str × Int)} {kvs : List (Str × Value)} (h : IntVals l kvs) (k : Str) (i : Int) (t : Tok) : IntVals (l ++ [(k, i)]) (kvs ++ [(k, .int i t)]) := by
  induction h with
  | nil => exact .cons .nil
  | cons _ ih => exact .cons ih
theorem IntVals.put {l : List (Str × Int)} {kvs : List (Str × Value)} (h : IntVals l kvs) (k : Str) (i : Int) (t : Tok) : IntVals (dput l k i) (stored kvs k (.int i t)) := by
  unfold dput stored
  rw [h.any]
  split
  · exact h.map k i t
  · exact h.snoc k i t
theorem IntVals.length {l : List (Str × Int)} {kvs : List (Str × Value)} (h : IntVals l kvs) : kvs.length = l.length := by
  induction h with
  | nil => rfl
  | cons _ ih => simp [ih]

section
variable {g : Gd} {d : Nat} {env : Env} {σ : Sg} {O : List Addr} {Φ : FM} {s : Shared}

theorem isStr (k : Str) (t : Tok) : (PySem.strKind g.prog g.w).is k (.str k t) = true := by
  show Value.isStrOf k (.str k t) = true
  simp [Value.isStrOf]
theorem sys_ne (i : Inv g Φ s) {a : Addr} (h : s.heap.get? a = none) : (a == sysModules) = false := by
  cases q : a == sysModules with
  | false => rfl
  | true =>
    have e : a = sysModules := by simpa using q
    obtain ⟨o, ho⟩ := Option.isSome_iff_exists.mp g.hsys
    rw [e, i.base _ _ ho] at h; cases h

theorem evn_dict {pos} {K : Slot → Prop} (h : K (.ownd [])) : EvN g d env σ (.Dict [] [] pos) K := fun A Φ s a R => by
  have i := R.toInv
  have e₂ := Ext.push' i { cls := .type "dict", data := .dict #[] } s.toks
  refine wpAny_Dict_empty ⟨Φ, .ownd [], e₂, ⟨_, _, [], rfl, i.none (size_none _), Heap.get?_push_size _ rfl, ?_, .nil, sys_ne i (size_none _)⟩, fun _ b e => by cases e; exact size_none _, h⟩
  obtain ⟨o, ho, hd⟩ := Heap.dictOf_iff.mp (Heap.DictOf.new (knd := PySem.strKind g.prog g.w) s.heap)
  rw [Heap.get?_push_size _ rfl] at ho
  cases ho; exact hd

theorem seqIndex_lt {k : Int} {n j : Nat} (h : seqIndex? k n = some j) : j < n := by
  unfold seqIndex? at h
  by_cases hk : k < 0
  · simp only [hk, if_true] at h
    split at h
    · rename_i h2
      injection h with h; subst h
      simp only [Bool.and_eq_true, decide_eq_true_eq] at h2
      omega
    · cases h
  · simp only [hk, if_false] at h
    split at h
    · rename_i h2
      injection h with h; subst h
      simp only [Bool.and_eq_true, decide_eq_true_eq] at h2
      omega
    · cases h
/-- a dict of one pair -/
theorem ev_dict1 {k v pos} {K : V → Prop} (h : Ev g d env σ k fun a => Ev g d env σ v fun b => ∃ x i, a = .str x ∧ b = .int i ∧ K (.dict [(x, i)])) : Ev g d env σ (.Dict [some k] [v] pos) K := fun A Φ s a R => by
  have i := R.toInv
  have e₀ := Ext.push' i { cls := .type "dict", data := .dict #[] } s.toks
  have R₀ := R.ext e₀
  refine wpAny_Dict_pairs (knd := PySem.strKind g.prog g.w) (pairs := [(eval k env, do let x ← eval v env; standAt pos; pure x)]) rfl (by simp) (by simp) ?_
  refine evalPairs_cons (wpAny_mono (h A Φ _ a R₀) (fun x s₁ ⟨Φ₁, u, e₁, r₁, k₁⟩ => ?_) fun _ _ f => f)
  refine wpAny_bind (wpAny_mono (k₁ A Φ₁ s₁ a (R₀.ext e₁)) (fun y s₂ ⟨Φ₂, w, e₂, r₂, x', j, hu, hw, k₂⟩ => wpAny_bind (wpAny_standAt (wpAny_pure ?_))) fun _ _ f => f)
  subst hu hw
  obtain ⟨t, rfl⟩ := real_str r₁
  obtain ⟨u, rfl⟩ := real_int r₂
  refine evalPairs_nil ⟨[(x', .int j u)], ⟨isStr _ _, rfl, trivial⟩, ?_, fun h' hd hs => ?_⟩
  · exact (Heap.DictOf.new (knd := PySem.strKind g.prog g.w) s.heap).keep (Ext.kept (Tr.ext e₁ e₂))
  · obtain ⟨o, ho, hdo⟩ := Heap.dictOf_iff.mp hd
    have eX := Tr.ext (Tr.ext e₀ e₁) e₂
    have hf : Φ₂ s.heap.objs.size = none := Ext.fresh (Tr.ext e₁ e₂) _ (i.none (size_none _)) (by show ((s.heap.push _).get? _).isSome = true; rw [Heap.get?_push_size _ rfl]; rfl)
    have i₂ := ((R₀.ext e₁).ext e₂).toInv
    -- the new dict's place is written, then it is frozen
    have t₃ : Tr (fun b => b = s.heap.objs.size) no1 Φ₂ s₂ Φ₂ { s₂ with heap := h', toks := s₂.toks + 1 } := Tr.keeps i₂ (fun b o q e => (hs.2 b q).trans e) (fun b q => by rw [q]; exact hf) _
    have t₄ := eX.trans t₃ (fun b q => .inr (by rw [q]; exact size_none _)) fun _ q => q.elim
    have i₄ := i₂.ext t₃
    have t₅ := t₄.freeze (g := g) i₄ ho hf (.inl (size_none _))
    exact ⟨_, _, t₅, .dict (FM.put_self ..) hdo (by show IntVals _ (merged [] _); exact .cons .nil) (sys_ne i (size_none _)), k₂⟩

theorem exs_freezed {K : Fl → Sg → Prop} {ss x l} (hl : σ.lookup x = some (.ownd l)) (h : Exs g d env ((x, .val (.dict l)) :: σ) ss K) : Exs g d env σ ss K := fun A Φ s O a S => by
  obtain ⟨val, H, ⟨b, o, kvs, rfl, f, ho, hd, iv, hq⟩, hO⟩ := S.vars x _ hl
  have hb := hO rfl b rfl
  have tr : Tr (Wr env O) no1 Φ s (Φ.put b o) s := (Tr.refl S.held).freeze (g := g) S.toInv ho f (.inr (.inr (.inr hb)))
  have S₁ : St g env ((x, .val (.dict l)) :: σ) (O.filter fun a => a ≠ b) (Φ.put b o) s := by
    have none_ : ∀ a, a ≠ b → Φ a = none → Φ.put b o a = none := fun a h e => by simp [FM.put, h, e]
    refine { toInv := S.toInv.ext tr, ok := S.ok, ns := S.ns, lf := none_ _ (fun q => (S.ow b hb).2.2.1 q.symm) S.lf, cs := fun y c hc => ⟨none_ _ (fun q => (S.ow b hb).2.2.2 y c hc q.symm) (S.cs y c hc).1, (S.cs y c hc).2⟩,
             apart := S.apart, ow := fun a ha => ?_, vars := fun y sl e => ?_, sep := fun y z sl sl' a' n' e1 o1 e2 o2 H1 H2 => ?_ }
    · have ha' := List.mem_filter.mp ha
      exact ⟨none_ a (by simpa using ha'.2) (S.ow a ha'.1).1, (S.ow a ha'.1).2⟩
    · by_cases hy : y = x
      · subst hy
        rw [lookup_cons_eq] at e; cases e
        exact ⟨.ref b, H, .dict (FM.put_self ..) hd iv hq, fun q => by cases q⟩
      · rw [lookup_cons_ne hy] at e
        obtain ⟨v, H', R', hO'⟩ := S.vars y sl e
        cases sl with
        | val u => exact ⟨v, H', Real.mono tr.mono R', fun q => by cases q⟩
        | own l' =>
          obtain ⟨c, xs', n', rfl, f', o', r'⟩ := R'
          have hcb : c ≠ b := fun q => by subst q; exact S.sep x y _ _ c (Ne.symm hy) hl rfl e rfl H H'
          exact ⟨_, H', ⟨c, xs', n', rfl, none_ c hcb f', o', r'.mono tr.mono⟩, fun _ a' ea => by cases ea; exact List.mem_filter.mpr ⟨hO' rfl c rfl, by simpa using hcb⟩⟩
        | ownd l' =>
          obtain ⟨c, o', kvs', rfl, f', ho', r'⟩ := R'
          have hcb : c ≠ b := fun q => by subst q; exact S.sep x y _ _ c (Ne.symm hy) hl rfl e rfl H H'
          exact ⟨_, H', ⟨c, o', kvs', rfl, none_ c hcb f', ho', r'⟩, fun _ a' ea => by cases ea; exact List.mem_filter.mpr ⟨hO' rfl c rfl, by simpa using hcb⟩⟩
    · have hy : y ≠ x := fun q => by subst q; rw [lookup_cons_eq] at e1; cases e1; cases o1
      have hz : z ≠ x := fun q => by subst q; rw [lookup_cons_eq] at e2; cases e2; cases o2
      rw [lookup_cons_ne hy] at e1
      rw [lookup_cons_ne hz] at e2
      exact S.sep y z sl sl' a' n' e1 o1 e2 o2 H1 H2
  have ho : ∀ a ∈ (O.filter fun a => a ≠ b), a ∈ O ∨ s.heap.get? a = none := fun a q => .inl (List.mem_filter.mp q).1
  exact wpAny_mono (h A _ s _ a S₁) (fun f s₂ h₂ => SPost.then (A := A) (α := Unit) (t := pure .next) S S₁ tr ho h₂) fun _ _ f => f

-- looks at own things
theorem Rd.ownList {x : Str} {l : List V} (R : Rd g env σ Φ s) (hx : σ.lookup x = some (.own l)) : ∃ a xs n, Holds env s.heap x (.ref a) ∧ s.heap.get? a = some (lstO xs n) ∧ Reals g Φ l xs := by
  obtain ⟨v, H, ⟨a, xs, n, rfl, f, o, r⟩⟩ := R.vars x _ hx
  exact ⟨a, xs, n, H, o, r⟩
theorem getItem_at {A : Around} {E : Value → Shared → Prop} {a : Addr} {xs : List Value} {n : Nat} {l : List V} {k : Int} {t : Tok} {v : V} {Q : Value → Shared → Prop} (ho : s.heap.get? a = some (lstO xs n)) (r : Reals g Φ l xs) (hb : -(2 ^ 63) ≤ k ∧ k < 2 ^ 63) (hv : ixV l k = some v)
    (h : ∀ y, Real g Φ v y → Q y s) : wpAny (model g.prog g.w) A (getItem (.ref a) (.int k t)) Q E s := by
  have hl : s.heap.IsList a xs.toArray := ⟨_, ho, rfl, n, rfl⟩
  unfold ixV at hv
  cases hj : seqIndex? k l.length with
  | none => rw [hj] at hv; cases hv
  | some j =>
    rw [hj] at hv
    obtain ⟨z, hz, rz⟩ := r.get hv
    rcases seqIndex_at hj with ⟨h0, rfl⟩ | ⟨h0, h2, rfl⟩
    · exact wpAny_getItem_list hl h0 hb.2 (by simpa using hz) (h _ rz)
    · refine wpAny_getItem_list_neg hl h0 ?_ hb.1 ?_ (h _ rz)
      · rw [List.size_toArray, r.length]; exact h2
      · rw [List.size_toArray, r.length]; simpa using hz
theorem ev_own_sub {x px i pos l} {K : V → Prop} (hl : σ.lookup x = some (.own l)) (h : Ev g d env σ i fun u => ∃ k v, u = .int k ∧ (-(2 ^ 63) ≤ k ∧ k < 2 ^ 63) ∧ ixV l k = some v ∧ K v)
    (hd : (x == ("__debug__" : Str)) = false := by decide) (hn : (x == ("__classdict__" : Str)) = false := by decide) : Ev g d env σ (.Subscript (.Name x px) i pos) K := fun A Φ s a R => by
  obtain ⟨b, xs, n, H, ho, r⟩ := R.ownList hl
  refine Subscript_ (Holds.load (h := s.heap) R.ok H ?_ hd hn)
  refine wpAny_mono (h A Φ s a R) (fun y s₂ ⟨Φ₂, u, e₂, r₂, k, v, hu, hb, hv, k₂⟩ => ?_) fun _ _ f => f
  subst hu
  refine r₂.onI fun _ => ?_
  refine tail_of (T := "list") ⟨_, e₂.kept _ _ ho, rfl⟩ list_getitem_lookup (getItem_at (e₂.kept _ _ ho) (r.mono e₂.mono) hb hv fun y ry => ?_)
  exact ⟨Φ₂, v, e₂, ry, k₂⟩
theorem ev_own_len {x px pos fpos l} {K : V → Prop} (hl : σ.lookup x = some (.own l)) (hk : env.kindOf ("len" : Str) = some .globalImplicit) (hm : g.mg ("len" : Str) = none) (hs : l.length ≤ sizeLine) (h : K (.int l.length))
    (hd : (x == ("__debug__" : Str)) = false := by decide) (hn : (x == ("__classdict__" : Str)) = false := by decide)
    (he : eval (.Call (.Name ("len" : Str) fpos) [.Name x px] [] pos) env = (do callWith pos (← eval (.Name ("len" : Str) fpos) env) [] (backTo pos (starEach [.Name x px] env)) (backToKw pos (keywordEach [] env))) := by with_unfolding_all rfl) :
    Ev g d env σ (.Call (.Name ("len" : Str) fpos) [.Name x px] [] pos) K := fun A Φ s a R => by
  obtain ⟨b, xs, n, H, ho, r⟩ := R.ownList hl
  unfold Wp
  rw [he]
  refine wpAny_bind (wpAny_mono (ev_bi (K := fun v => v = .glob (.builtin "len")) hk hm (v := .builtin "len") rfl (by decide) rfl (by decide) A Φ s a R : Wp ..) (fun fv s₁ ⟨Φ₁, u, e₁, r₁, hu⟩ => ?_) fun _ _ f => f)
  subst hu
  refine r₁.onG ?_
  have R₁ := R.ext e₁
  refine callWith_val (f := .builtin "len") rfl rfl ?_
  show wpAny _ _ (spliced (backTo pos [(false, eval (.Name x px) env)])) _ _ _
  refine spliced_cons (Holds.load (h := s₁.heap) R.ok (H.keeps e₁.kept) (spliced_nil ?_) hd hn)
  have hsz : sizeLine = 2 ^ 24 := rfl
  refine call_len_list ⟨_, e₁.kept _ _ ho, rfl, n, rfl⟩ (by rw [List.size_toArray, r.length]; lia) ?_
  rw [List.size_toArray, r.length]
  exact ⟨Φ₁, _, Tr.ext e₁ (.tok R₁.toInv _), .int _ _, h⟩
theorem ts_in_own {x px e pos l} {K : Bool → Prop} (hl : σ.lookup x = some (.ownd l)) (h : Ev g d env σ e fun u => ∃ k, u = .str k ∧ K (dget l k).isSome)
    (hd : (x == ("__debug__" : Str)) = false := by decide) (hn : (x == ("__classdict__" : Str)) = false := by decide) (hm : behindInMarks .In (.Name x px) = false := by with_unfolding_all rfl) : Ts g d env σ (.Compare e [.In] [.Name x px] pos) K := fun A Φ s a R => by
  obtain ⟨v, H, ⟨b, o, kvs, rfl, f, ho, hdo, iv, hq⟩⟩ := R.vars x _ hl
  refine wpAny_isTrue_Compare1 (wpAny_mono (h A Φ s a R) (fun y s₁ ⟨Φ₁, u, e₁, r₁, k, hu, k₁⟩ => ?_) fun _ _ f => f) hm
  subst hu
  refine r₁.onS fun _ => ?_
  refine Holds.load (h := s₁.heap) R.ok (H.keeps e₁.kept) ?_ hd hn
  have hD : s₁.heap.DictOf (PySem.strKind g.prog g.w) b kvs := Heap.dictOf_iff.mpr ⟨o, e₁.kept _ _ ho, hdo⟩
  refine wpAny_in_of (isStr _ _) hq hD.mapOf (wpAny_truthy_bool ?_)
  have : (valueAt kvs k).isSome = (dget l k).isSome := by
    rcases iv.get k with ⟨p, q⟩ | ⟨i, t, p, q⟩ <;> rw [p, q] <;> rfl
  rw [this]
  exact ⟨Φ₁, Tr.ext e₁ (.tok (R.ext e₁).toInv _), k₁⟩

-- writes to own things
theorem ex_del {x px i pos pos' l} {K : Fl → Sg → Prop} (hl : σ.lookup x = some (.own l)) (hs : l.length ≤ sizeLine) (h : Ev g d env σ i fun u => ∃ k j, u = .int k ∧ Builtin.List.listFitsIndex k = true ∧ seqIndex? k l.length = some j ∧ K .next ((x, .own (l.eraseIdx j)) :: σ))
    (hd : (x == ("__debug__" : Str)) = false := by decide) (hn : (x == ("__classdict__" : Str)) = false := by decide)
    (he : delete (.Subscript (.Name x px) i pos) env = (do
      let ov ← eval (.Name x px) env
      let iv ← holding [ov] (eval i env)
      standAt pos
      holding [ov, iv] (delItem ov iv)
      release [ov, iv] []) := by with_unfolding_all rfl) : Ex g d env σ (.Delete [.Subscript (.Name x px) i pos] pos') K := fun A Φ s O a S => by
  obtain ⟨b, xs, n, H, hbO, hf, ho, r⟩ := S.ownList hl
  refine wpAny_Delete (wpAny_deleteEach_cons ?_)
  rw [he]
  refine wpAny_bind (Holds.load (h := s.heap) S.ok H ?_ hd hn)
  refine wpAny_bind (wpAny_holding (wpAny_mono (h A Φ s a S.rd) (fun y s₁ ⟨Φ₁, u, e₁, r₁, k, j, hu, hfit, hj, k₁⟩ => ?_) fun _ _ f => f))
  subst hu
  refine r₁.onI fun _ => ?_
  have S₁ := S.ext e₁
  have ho₁ : s₁.heap.get? b = some (lstO xs n) := e₁.kept _ _ ho
  have hf₁ : Φ₁ b = none := e₁.fresh b hf (by rw [ho]; rfl)
  refine wpAny_bind (wpAny_standAt (wpAny_bind (wpAny_holding ?_)))
  refine wpAny_delItem_plain (l := b) (k := j) ⟨n, ho₁⟩ hfit (by rw [List.size_toArray, r.length]; exact hj) (fun h' hp' hs' => ?_) (by rw [List.size_toArray, r.length]; exact hs)
  refine wpAny_release (wpAny_deleteEach_nil ?_)
  obtain ⟨n', hp'⟩ := hp'
  have hr : ∀ {l : List V} {xs : List Value}, Reals g Φ₁ l xs → ∀ j, Reals g Φ₁ (l.eraseIdx j) (xs.eraseIdx j) := by
    intro l xs r
    induction l generalizing xs with
    | nil => cases r; intro j; exact .nil
    | cons v l ih =>
      cases r with | cons r1 r2 =>
        intro j
        cases j with
        | zero => exact r2
        | succ j => exact .cons r1 (ih r2 j)
  have hp2 : h'.get? b = some (lstO (xs.eraseIdx j) n') := by
    rw [hp']
    have hjl : j < xs.length := by
      rw [r.length]; exact seqIndex_lt hj
    simp [Array.eraseIdxIfInBounds, hjl]
  obtain ⟨S₂, t₂⟩ := S₁.mutate (sl' := .own (l.eraseIdx j)) hl rfl (H.keeps e₁.kept) hbO hs' rfl ⟨b, xs.eraseIdx j, n', rfl, hf₁, hp2, hr (r.mono e₁.mono) j⟩ s₁.toks
  exact ⟨Φ₁, _, O, .next, Tr.trans (Tr.of_ext e₁) t₂ (fun _ q => .inl q) fun _ q => .inl q, fun _ q => .inl q, S₂, trivial, k₁⟩
end
end Mine
end

section
set_option maxRecDepth 100000
open PySem PySem.Calls PyProof.Rows PySem.W PySem.Builtin PySem.Builtin.Str
namespace Mine

/-- a comprehension's target takes its value: only the comprehension's own names are written -/
noncomputable def AsL (g : Gd) (d : Nat) (env : Env) (σ : Sg) (target : Expr) (v : V) (K : Sg → Prop) : Prop :=
  ∀ A Φ s x, AOk d A → St g env σ [] Φ s → Real g Φ v x → wpAny (model g.prog g.w) A (assign target env x) (fun _ s' => AsP g env [] (fun a => a = env.locals) Φ s K s') bot s
noncomputable def TsAll (g : Gd) (d : Nat) (env : Env) (σ : Sg) : List Expr → (Bool → Prop) → Prop
  | [], K => K true
  | [c], K => Ts g d env σ c K
  | _, _ => False
/-- the turns of a comprehension of one clause -/
noncomputable def compP (g : Gd) (d : Nat) (env : Env) (σ : Sg) (target : Expr) (ifs : List Expr) (elt : Expr) (K : List V → Prop) : List V → List V → Prop
  | [], acc => K acc
  | v :: r, acc => acc.length ≤ sizeLine ∧ AsL g d env σ target v fun σ' => Sub σ σ' ∧ TsAll g d env σ' ifs fun ok =>
      (ok = true → Ev g d env σ' elt fun u => compP g d env σ target ifs elt K r (acc ++ [u])) ∧ (ok = false → compP g d env σ target ifs elt K r acc)

section
variable {g : Gd} {d : Nat} {env : Env} {σ : Sg} {O : List Addr} {Φ : FM} {s : Shared}

theorem asl_name {x pos v} {K : Sg → Prop} (h : K ((x, .val v) :: σ)) (hx : env.kindOf x = some .local) : AsL g d env σ (.Name x pos) v K := fun A Φ s val a S r =>
  wpAny_assign_Name (S.storeX (sl := .val v) (by unfold isVar; rw [hx]) r (fun q => by cases q) fun s' S' tr => ⟨Φ, _, tr.mono_W (fun a w => by
    rcases w with w | w
    · exact w.2
    · rw [hx] at w; cases w.1) fun _ w => w, S', h⟩)
theorem wx_local {x : Str} (hx : env.kindOf x = some .local) {a : Addr} (w : Wx env x a) : a = env.locals := w.elim (·.2) fun w => by rw [hx] at w; cases w.1
theorem asl_tup {elts k pos vs xs} {K : Sg → Prop} (h : K (bindAll xs vs σ)) (hn : names? elts = some xs) (hv : ∀ x ∈ xs, env.kindOf x = some .local) (hl : vs.length = xs.length) : AsL g d env σ (.Tuple elts k pos) (.tup vs) K := fun A Φ s val a S r =>
  wpAny_mono (as_tupW a S r hn (fun x hx => ⟨by unfold isVar; rw [hv x hx], fun a w => wx_local (hv x hx) w⟩) hl) (fun _ s₂ h₂ => ⟨Φ, _, h₂.1, h₂.2, h⟩) fun _ _ f => f

/-- what a comprehension's frame sees of the names about it -/
noncomputable def ClOk (scope : Scope) (env : Env) : List (Str × Addr) → Prop
  | [] => True
  | (x, c) :: r => env.cells.lookup x = some c ∧ (env.kindOf x = some .cell ∨ env.kindOf x = some .free) ∧ ((relabel scope env).names.lookup x = some .cell ∨ (relabel scope env).names.lookup x = some .free) ∧ ClOk scope env r
noncomputable def capt (σ : Sg) : List (Str × Addr) → Sg
  | [] => []
  | (x, _) :: r => match σ.lookup x with
    | some (.val v) => (x, .val v) :: capt σ r
    | _ => capt σ r
theorem capt_lookup {cl : List (Str × Addr)} {x : Str} {sl : Slot} (h : (capt σ cl).lookup x = some sl) : ∃ v c, sl = .val v ∧ σ.lookup x = some (.val v) ∧ cl.lookup x = some c := by
  induction cl with
  | nil => cases h
  | cons p r ih =>
    have skip : (capt σ r).lookup x = some sl → ∃ v c, sl = .val v ∧ σ.lookup x = some (.val v) ∧ (p :: r).lookup x = some c := fun h => by
      obtain ⟨v, c, h1, h2, h3⟩ := ih h
      by_cases q : x = p.1
      · exact ⟨v, p.2, h1, h2, by rw [List.lookup_cons, q]; simp⟩
      · exact ⟨v, c, h1, h2, by rw [List.lookup_cons, show (x == p.1) = false by simpa using q]; exact h3⟩
    unfold capt at h
    split at h
    · rename_i v hv
      by_cases q : x = p.1
      · rw [q, lookup_cons_eq] at h
        exact ⟨v, p.2, (Option.some.inj h).symm, q ▸ hv, by rw [List.lookup_cons, q]; simp⟩
      · exact skip ((lookup_cons_ne q).symm.trans h)
    · exact skip h
theorem ClOk.get {scope : Scope} {cl : List (Str × Addr)} (h : ClOk scope env cl) {x : Str} {c : Addr} (hc : (x, c) ∈ cl) : env.cells.lookup x = some c ∧ (env.kindOf x = some .cell ∨ env.kindOf x = some .free) ∧ ((relabel scope env).names.lookup x = some .cell ∨ (relabel scope env).names.lookup x = some .free) := by
  induction cl with
  | nil => cases hc
  | cons p r ih =>
    obtain ⟨y, c'⟩ := p
    rcases List.mem_cons.mp hc with e | e
    · cases e; exact ⟨h.1, h.2.1, h.2.2.1⟩
    · exact ih h.2.2.2 e

/-- the frame of a comprehension -/
theorem Rd.comp {scope : Scope} {cl : List (Str × Addr)} {C : Addr} {m : Str → Option Value} (R : Rd g env σ Φ s) (hkind : scope.kind = .function) (hcl : ClOk scope env cl) (hnd : (cl.map (·.1)).Nodup) (hC : s.heap.Ns C m) (hf : Φ C = none)
    (hnew : ∀ c, (∃ x, (x, c) ∈ env.cells) → c ≠ C) : St g (compEnvC scope cl C env) (capt σ cl) [] Φ s := by
  have hce : ∀ x c, (x, c) ∈ cl → (x, c) ∈ env.cells := fun x c h => mem_of_lookup (hcl.get h).1
  refine { toInv := R.toInv, ok := ⟨by show (relabel scope env).kind = _; simp [relabel, hkind], R.ok.gl, R.ok.bi⟩, ns := ⟨m, hC⟩, lf := hf, cs := fun x c hc => ?_, apart := ?_, ow := fun a h => (nomatch h), vars := fun x sl h => ?_, sep := fun x y sl sl' a _ h1 o1 => ?_ }
  · have := R.cs x c (hce x c hc)
    exact ⟨this.1, this.2, hnew c ⟨x, hce x c hc⟩⟩
  · show cl.Pairwise fun x y => x.2 ≠ y.2
    clear hC hf hnew
    induction cl with
    | nil => exact .nil
    | cons p r ih =>
      rw [List.map_cons, List.nodup_cons] at hnd
      refine List.pairwise_cons.mpr ⟨fun y hy e => ?_, ih hcl.2.2.2 hnd.2 fun x c h => hce x c (.tail _ h)⟩
      have h1 := hce p.1 p.2 (.head _)
      have h2 := hce y.1 y.2 (.tail _ hy)
      rw [← e] at h2
      have := name_of_addr R.apart h1 h2
      exact hnd.1 (this ▸ List.mem_map_of_mem hy)
  · obtain ⟨v, c, rfl, hv, hc⟩ := capt_lookup h
    obtain ⟨val, H, r⟩ := R.vars x _ hv
    obtain ⟨e1, e2, e3⟩ := hcl.get (mem_of_lookup hc)
    refine ⟨val, ?_, r, fun q => by cases q⟩
    rcases H with ⟨q, _⟩ | ⟨_, c', e, i⟩
    · rcases e2 with e2 | e2 <;> rw [e2] at q <;> cases q
    · rw [e1] at e; cases e
      exact .inr ⟨e3, c, hc, i⟩
  · obtain ⟨v, c, rfl, _⟩ := capt_lookup h1
    cases o1
end
end Mine
end

section
set_option maxRecDepth 100000
open PySem PySem.Calls PyProof.Rows PySem.W PySem.Builtin PySem.Builtin.Str
namespace Mine

section
variable {g : Gd} {d : Nat} {env : Env} {σ : Sg} {O : List Addr}

theorem tests_all {A : Around} {Φ : FM} {s : Shared} {ifs : List Expr} {K : Bool → Prop} (a : AOk d A) (S : St g env σ O Φ s) (h : TsAll g d env σ ifs K) :
    wpAny (model g.prog g.w) A (forIn ifs true fun c r => if r = true then do let ok ← isTrue c env (eval c env); pure (ForInStep.yield ok) else pure (ForInStep.yield r)) (PostB Φ s K) bot s := by
  match ifs, h with
  | [], h => exact wpAny_tests_nil ⟨Φ, .refl S.held, h⟩
  | [c], h => exact wpAny_tests_one (wpAny_mono (h A Φ s a S.rd) (fun _ _ k => k) fun _ _ f => f)
end

-- a comprehension's loop, whatever it builds: H says what stands at D
noncomputable abbrev DW (cenv : Env) (D : Addr) : Addr → Prop := fun b => b = D ∨ b = cenv.locals
structure CI {α : Type} (g : Gd) (cenv : Env) (σ : Sg) (D : Addr) (H : α → FM → Shared → Prop) (Φ₀ : FM) (s₀ : Shared) (acc : α) (Φ : FM) (s : Shared) : Prop where
  st : St g cenv σ [] Φ s
  tr : Tr (DW cenv D) no1 Φ₀ s₀ Φ s
  df : Φ D = none
  dh : (s.heap.get? D).isSome = true
  here : H acc Φ s
noncomputable def Stable {α : Type} (D : Addr) (H : α → FM → Shared → Prop) : Prop := ∀ W G acc Φ s Φ' s', Tr W G Φ s Φ' s' → ¬ W D → H acc Φ s → H acc Φ' s'
inductive BodyP {α : Type} (g : Gd) (cenv : Env) (σ : Sg) (D : Addr) (H : α → FM → Shared → Prop) (Q : α → Prop) (code : Code) (Φ : FM) (s : Shared) (o : PySem.Fin) (s' : Shared) : Prop
  | mk (Φ' : FM) (acc : α) : o = .again code → CI g cenv σ D H Φ s acc Φ' s' → Q acc → BodyP g cenv σ D H Q code Φ s o s'
inductive GoI {α : Type} (g : Gd) (cenv : Env) (σ : Sg) (D : Addr) (H : α → FM → Shared → Prop) (Q : List V → α → Prop) (J : List V → (Addr → Prop) → FM → Shared → Prop) (Φ₀ : FM) (s₀ : Shared) (n : Nat) (s : Shared) : Prop
  | mk (r : List V) (acc : α) (Φ : FM) (fp : Addr → Prop) : n = r.length → (∀ b, fp b → s₀.heap.get? b = none ∧ b ≠ D ∧ ¬ Wr cenv [] b) → Q r acc → CI g cenv σ D H Φ₀ s₀ acc Φ s → J r fp Φ s → GoI g cenv σ D H Q J Φ₀ s₀ n s

section
variable {α : Type} {g : Gd} {d : Nat} {A : Around} {cenv : Env} {σ σ' : Sg} {D I : Addr} {H : α → FM → Shared → Prop} {Φ₀ Φ Φ' : FM} {s₀ s s' : Shared} {acc : α} {W : Addr → Prop} {G : Nat → Prop}
theorem CI.step (hH : Stable D H) (c : CI g cenv σ D H Φ₀ s₀ acc Φ s) (t : Tr W G Φ s Φ' s') (S' : St g cenv σ' [] Φ' s') (hW : ∀ a, W a → a = cenv.locals ∨ s₀.heap.get? a = none) (hG : ∀ i, G i → s₀.gens[i]? = none) (hD : ¬ W D) : CI g cenv σ' D H Φ₀ s₀ acc Φ' s' :=
  ⟨S', c.tr.trans t (fun a q => (hW a q).imp .inr id) (fun i q => .inr (hG i q)), t.fresh D c.df c.dh hD, by obtain ⟨o, e⟩ := Option.isSome_iff_exists.mp c.dh; exact in_some (t.keep D o e hD), hH _ _ _ _ _ _ _ t hD c.here⟩
theorem CI.ev (hH : Stable D H) (c : CI g cenv σ D H Φ₀ s₀ acc Φ s) (t : Ext Φ s Φ' s') : CI g cenv σ D H Φ₀ s₀ acc Φ' s' := c.step hH t (c.st.ext t) (fun _ q => q.elim) (fun _ q => q.elim) id
theorem CI.start (c : CI g cenv σ D H Φ₀ s₀ acc Φ s) : CI g cenv σ D H Φ s acc Φ s := ⟨c.st, .refl c.st.held, c.df, c.dh, c.here⟩
theorem CI.weak (c : CI g cenv σ D H Φ₀ s₀ acc Φ s) (h : Sub σ' σ) : CI g cenv σ' D H Φ₀ s₀ acc Φ s := ⟨c.st.weak h, c.tr, c.df, c.dh, c.here⟩
theorem CI.after {acc' : α} (c : CI g cenv σ D H Φ₀ s₀ acc Φ s) (c' : CI g cenv σ' D H Φ s acc' Φ' s') : CI g cenv σ' D H Φ₀ s₀ acc' Φ' s' := ⟨c'.st, c.tr.trans c'.tr (fun _ q => .inl q) fun _ q => q.elim, c'.df, c'.dh, c'.here⟩

theorem comp_go {code : Code} {target : Expr} {tg : Expr → Prop} {gi : Nat → Prop} {J : List V → (Addr → Prop) → FM → Shared → Prop} {Q : List V → α → Prop} {R : Result → Shared → Prop} {body : Option Value → Sem PySem.Fin} {rest : Sem PySem.Fin}
    (W : IterD g d A I tg gi J) (ht : tg target) (hq : code.quiet = true)
    (turn : ∀ {P : PySem.Fin → Shared → Prop} {s}, wpAny (model g.prog g.w) A (pyNext (.ref I)) (fun o s₁ => wpAny (model g.prog g.w) A (body o) P bot s₁) bot s → wpAny (model g.prog g.w) (A.under code) ((model g.prog g.w).den code) P (fun e s' => R (.error e) s') s)
    (b0 : body none = pure (.done .next)) (b1 : ∀ v, body (some v) = letOwnedTupleGo target (.ref I) v >>= fun _ => assign target cenv v >>= fun _ => rest)
    (hH : Stable D H) (hgi : ∀ i, gi i → s₀.gens[i]? = none)
    (hb : ∀ v r acc Φ s x, Q (v :: r) acc → CI g cenv σ D H Φ s acc Φ s → Real g Φ v x → wpAny (model g.prog g.w) A (assign target cenv x) (fun _ s₁ => wpAny (model g.prog g.w) A rest (BodyP g cenv σ D H (Q r) code Φ s) bot s₁) bot s)
    (hR : ∀ acc Φ s, Q [] acc → CI g cenv σ D H Φ₀ s₀ acc Φ s → R (.ok .next) s)
    {items : List V} {fp : Addr → Prop} (hz : ∀ b, fp b → s₀.heap.get? b = none ∧ b ≠ D ∧ ¬ Wr cenv [] b) (hk : Q items acc) (c : CI g cenv σ D H Φ₀ s₀ acc Φ s) (hj : J items fp Φ s) : codeAny (model g.prog g.w) A code R s := by
  refine codeAny_loop hq (GoI g cenv σ D H Q J Φ₀ s₀) (fun n s' hI => turn ?_) items.length ⟨items, acc, Φ, fp, rfl, hz, hk, c, hj⟩
  clear hk c hj hz
  obtain ⟨r, acc, Φ', fp, rfl, hz, hk, c, hj⟩ := hI
  have wrf : ∀ b, Wr cenv [] b → ¬ fp b := fun b w q => (hz b q).2.2 w
  cases r with
  | nil =>
    refine wpAny_mono (W.done fp Φ' s' c.st.toInv hj) (fun o s₁ ⟨e, Φ₁, t₁⟩ => ?_) fun _ _ f => f
    rw [e, b0]
    exact wpAny_pure (hR acc Φ₁ s₁ hk (c.step hH t₁ (c.st.tr t₁ wrf) (fun b q => .inr (hz b q).1) hgi fun q => (hz D q).2.1 rfl))
  | cons v r =>
    refine wpAny_mono (W.next v r fp Φ' s' target ht c.st.toInv hj) (fun o s₁ ⟨x, e, h₁⟩ => ?_) fun _ _ f => f
    rw [e, b1]
    refine wpAny_bind (wpAny_mono h₁ (fun _ s₂ ⟨Φ₂, fp', t₂, hfn, r₂, j₂⟩ => ?_) fun _ _ f => f)
    have c₂ := c.step hH t₂ (c.st.tr t₂ wrf) (fun b q => .inr (hz b q).1) hgi fun q => (hz D q).2.1 rfl
    have hz' : ∀ b, fp' b → s₀.heap.get? b = none ∧ b ≠ D ∧ ¬ Wr cenv [] b := fun b q => (hfn b q).elim (hz b) fun e =>
      have hd : b ≠ D := fun q => in_out (q ▸ c.dh) e
      have hw : ¬ Wr cenv [] b := fun w => in_out (c.st.inheap w) e
      ⟨c.tr.upN e fun w => w.elim hd fun w => hw (.inl w), hd, hw⟩
    refine wpAny_bind (wpAny_mono (hb v r acc Φ₂ s₂ x hk c₂.start r₂) (fun _ s₃ h₃ => wpAny_mono h₃ (fun f s₄ ⟨Φ₄, acc', e, c₄, k₄⟩ => ?_) fun _ _ f => f) fun _ _ f => f)
    subst e
    exact ⟨rfl, r.length, Nat.lt_succ_self _, r, acc', Φ₄, fp', rfl, hz', k₄, c₂.after c₄, W.keep c₄.tr (fun b q w => w.elim (hz' b q).2.1 fun w => (hz' b q).2.2 (.inl w)) (fun _ _ q => q) j₂⟩

-- a list in the making
noncomputable def HL (g : Gd) (D : Addr) (acc : List V) (Φ : FM) (s : Shared) : Prop := ∃ xs n, s.heap.get? D = some (lstO xs n) ∧ Reals g Φ acc xs
theorem HL.stable : Stable D (HL g D) := fun _ _ _ _ _ _ _ t hD ⟨xs, n, ho, r⟩ => ⟨xs, n, t.keep D _ ho hD, r.mono t.mono⟩
theorem body_list {target elt : Expr} {ifs : List Expr} {code : Code} {K : List V → Prop} {acc : List V} {x : Value} {v : V} {r : List V} (a : AOk d A) (hDw : ¬ Wr cenv [] D) (hk : compP g d cenv σ target ifs elt K (v :: r) acc) (c : CI g cenv σ D (HL g D) Φ s acc Φ s) (rx : Real g Φ v x) :
    wpAny (model g.prog g.w) A (assign target cenv x) (fun _ s₁ => wpAny (model g.prog g.w) A (do
      let mut ok := true
      for c in ifs do
        if ok then ok ← isTrue c cenv (eval c cenv)
      if ok then
        (do let _ ← call (.builtin "list.append") [.ref D, ← eval elt cenv])
      again code) (BodyP g cenv σ D (HL g D) (compP g d cenv σ target ifs elt K r) code Φ s) bot s₁) bot s := by
  refine wpAny_mono (hk.2 A Φ s x a c.st rx) (fun _ s₃ ⟨Φ₃, σ₃, t₃, S₃, hsub, hk₃⟩ => ?_) fun _ _ f => f
  have c₃ := c.step HL.stable t₃ S₃ (fun b q => .inl q) (fun _ q => q.elim) (fun q => hDw (.inl q))
  refine wpAny_bind (wpAny_mono (tests_all a S₃ hk₃) (fun ok s₄ ⟨Φ₄, e₄, k₄⟩ => ?_) fun _ _ f => f)
  have c₄ := c₃.ev HL.stable e₄
  cases ok with
  | false => exact wpAny_pure ⟨Φ₄, acc, rfl, c₄.weak hsub, k₄.2 rfl⟩
  | true =>
    refine wpAny_bind (wpAny_bind (wpAny_mono (k₄.1 rfl A Φ₄ s₄ a c₄.st.rd : Wp ..) (fun y s₅ ⟨Φ₅, u, e₅, r₅, k₅⟩ => ?_) fun _ _ f => f))
    have c₅ := c₄.ev HL.stable e₅
    obtain ⟨xs, n, ho, rr⟩ := c₅.here
    refine wpAny_bind (wpAny_list_append_plain (l := D) ⟨n, ho⟩ (fun h' hp' hs' => ?_) (by rw [List.size_toArray, rr.length]; exact hk.1))
    obtain ⟨n', hp'⟩ := hp'
    have hp2 : h'.get? D = some (lstO (xs ++ [y]) n') := by rw [hp', List.push_toArray]
    have t₆ : Tr (fun b => b = D) no1 Φ₅ s₅ Φ₅ { s₅ with heap := h' } := Tr.keeps c₅.st.toInv (fun b o q e => (hs'.2 b q).trans e) (fun b q => by rw [q]; exact c₅.df) s₅.toks
    exact wpAny_pure (wpAny_pure ⟨Φ₅, acc ++ [u], rfl, ⟨(c₅.st.tr t₆ fun b hb q => hDw (q ▸ hb)).weak hsub, c₅.tr.trans t₆ (fun b q => .inl (.inl q)) (fun _ q => q.elim), c₅.df, in_some hp2, xs ++ [y], n', hp2, rr.append (.cons r₅ .nil)⟩, k₅⟩)

/-- the loop of a comprehension from its start on -/
noncomputable def LoopOk (g : Gd) (d : Nat) (cenv : Env) (σ : Sg) (target : Expr) (code : Addr → Addr → Code) (H : Addr → α → FM → Shared → Prop) (acc : α) (K : α → Prop) (items : List V) : Prop :=
  ∀ {A I tg gi J fp D Φ₀ s₀ Φ s} {R : Result → Shared → Prop}, AOk d A → IterD g d A I tg gi J → tg target → ¬ Wr cenv [] D → (∀ b, fp b → s₀.heap.get? b = none ∧ b ≠ D ∧ ¬ Wr cenv [] b) → (∀ i, gi i → s₀.gens[i]? = none) →
    CI g cenv σ D (H D) Φ₀ s₀ acc Φ s → J items fp Φ s → (∀ acc Φ s, K acc → CI g cenv σ D (H D) Φ₀ s₀ acc Φ s → R (.ok .next) s) → codeAny (model g.prog g.w) A (code I D) R s
end
section
variable {g : Gd} {d : Nat} {cenv : Env} {σ : Sg}
theorem loop_list {elt target iter : Expr} {ifs : List Expr} {scope : Scope} {pos : Pos} {K : List V → Prop} {items acc : List V} (h : compP g d cenv σ target ifs elt K items acc) :
    LoopOk g d cenv σ target (fun I D => .compLoop (.ListComp elt [⟨target, iter, ifs, 0⟩] scope pos) 0 (.ref I) (.ref D) cenv) (HL g) acc K items := fun {A I tg gi J fp D Φ₀ s₀ Φ s R} a W ht hDw hz hgi c hj hR =>
  comp_go (σ := σ) (H := HL g D) (Q := compP g d cenv σ target ifs elt K) (Φ₀ := Φ₀) (s₀ := s₀) W ht rfl
    (fun {P s} h => by
      show wpAny _ A ((compTurn (.ListComp elt [⟨target, iter, ifs, 0⟩] scope pos) 0 (.ref I) (.ref D) cenv).onRaise (fun x => do noteFrame x cenv; theTreesLotGoes x)) _ _ s
      refine wpAny_noted ?_
      rw [compTurn_list]
      exact wpAny_bind (wpAny_standAt (wpAny_bind (wpAny_mono h (fun o s₁ h => wpAny_mono h (fun _ _ q => q) fun _ _ f => f.elim) fun _ _ f => f.elim)))) rfl (fun _ => rfl) HL.stable hgi
    (fun v r acc Φ s x hk c rx => body_list a hDw hk c rx) (fun acc Φ s k c => hR acc Φ s k c) hz h c hj
end
end Mine
end

section
set_option maxRecDepth 100000
open PySem PySem.Calls PyProof.Rows PySem.W PySem.Builtin PySem.Builtin.Str
namespace Mine

section
variable {α : Type} {g : Gd} {d : Nat} {env : Env} {σ : Sg} {O : List Addr} {A : Around} {H : Addr → α → FM → Shared → Prop} {acc₀ : α} {K : α → Prop} {o₀ : Obj} {target : Expr} {e : Expr} {scope : Scope} {pos : Pos} {cl : List (Str × Addr)} {mk : Sem Value}
noncomputable abbrev cLoop (e : Expr) (cenv : Env) (I D : Addr) : Code := .compLoop e 0 (.ref I) (.ref D) cenv
/-- what a comprehension is made of -/
structure CompK (g : Gd) (e : Expr) (mk : Sem Value) (o₀ : Obj) (H : Addr → α → FM → Shared → Prop) (acc₀ : α) (mkV : α → V) : Prop where
  new : ∀ {A} {P : Value → Shared → Prop} {s : Shared}, P (.ref s.heap.objs.size) { s with heap := s.heap.push o₀ } → wpAny (model g.prog g.w) A mk P bot s
  live : o₀.isFreed = false
  start : ∀ {A it acc env} {R : Result → Shared → Prop} {s}, codeAny (model g.prog g.w) A (.compLoop e 0 it acc env) R s → wpAny (model g.prog g.w) A (pyIter it) (fun it' s' => codeAny (model g.prog g.w) A (.compLoop e 0 it' acc env) R s') (notedBy (model g.prog g.w) A env fun x s' => R (.error x) s') s → codeAny (model g.prog g.w) A (.compStart e 0 it acc env) R s
  first : ∀ D Φ s, (D == sysModules) = false → s.heap.get? D = some o₀ → H D acc₀ Φ s
  real : ∀ D acc Φ s, Φ D = none → H D acc Φ s → ∃ o, s.heap.get? D = some o ∧ Real g (Φ.put D o) (mkV acc) (.ref D)
  stable : ∀ D, Stable D (H D)
/-- the start of a comprehension, up to its end -/
theorem comp_block {mkV : α → V} {RR : Value → Addr → Result → Shared → Prop} {Φ₀ : FM} {s₀ : Shared} {it s} (k : CompK g e mk o₀ H acc₀ mkV) (a : AOk d A) (R₀ : Rd g env σ Φ₀ s₀)
    (hcl : ClOk scope env cl) (hnd : (cl.map (·.1)).Nodup) (hcell : ∀ y ∈ scope.names, y.2 ≠ .cell) (hkind : scope.kind = .function)
    (hp : ItPost g d A target Φ₀ s₀ (fun items => ∀ C, LoopOk g d (compEnvC scope cl C env) (capt σ cl) target (cLoop e (compEnvC scope cl C env)) H acc₀ K items) it s)
    (hR : ∀ D C Φ' s' acc, s₀.heap.get? D = none → s₀.heap.get? C = none → D ≠ C → K acc → CI g (compEnvC scope cl C env) (capt σ cl) D (H D) Φ₀ s₀ acc Φ' s' → RR (.ref D) C (.ok .next) s') :
    wpAny (model g.prog g.w) A mk (fun acc s₃ => wpAny (model g.prog g.w) A (newFunctionEnv scope env.globals cl [] env.qual none .none (some env)) (fun cenv s₄ =>
      codeAny (model g.prog g.w) A (.compStart e 0 it acc { cenv with scope := relabel scope env }) (RR acc cenv.locals) s₄) bot s₃) bot s := by
  obtain ⟨Φ, I, tg, fp, gi, J, items, rfl, x, W, ht, hj, hfp, hgi, hk⟩ := hp
  have R := R₀.ext x
  refine k.new (wpAny_newFunctionEnv hcell (by intro y hy; simp at hy) (fun h₁ hns₁ hsb₁ => ?_) hkind)
  dsimp only at hns₁ hsb₁ ⊢
  generalize hH2 : s.heap.push o₀ = H2 at hns₁ hsb₁ ⊢
  have hC : H2.objs.size = s.heap.objs.size + 1 := by rw [← hH2, Heap.size_push]
  have old : ∀ b o, s.heap.get? b = some o → h₁.get? b = some o := fun b o e => hsb₁.extBut b o (by rw [hC]; exact Nat.ne_of_lt (Nat.lt_succ_of_lt (Heap.lt_size e))) (Heap.get?_push_of_some _ (hH2 ▸ Heap.get?_push_of_some _ e))
  generalize hs1 : ({ s with heap := h₁, toks := s.toks + ([] : List (Str × Value)).length } : Shared) = s₁
  have e₁ : Ext Φ s Φ s₁ := hs1 ▸ Ext.keeps R.toInv old _
  have back : ∀ b, s.heap.objs.size ≤ b → s₀.heap.get? b = none := fun b hb => x.upN (above_none hb) id
  have hD0 : s₀.heap.get? s.heap.objs.size = none := back _ (Nat.le_refl _)
  have hC0 : s₀.heap.get? H2.objs.size = none := back _ (hC ▸ Nat.le_succ _)
  have hDC : s.heap.objs.size ≠ H2.objs.size := hC ▸ Nat.ne_of_lt (Nat.lt_succ_self _)
  have hDh : s₁.heap.get? s.heap.objs.size = some o₀ := hs1 ▸ hsb₁.extBut _ _ hDC (Heap.get?_push_of_some _ (hH2 ▸ Heap.get?_push_size _ k.live))
  have notfp : ∀ b, fp b → ¬ s.heap.objs.size ≤ b := fun b q hb => in_out (W.there _ _ _ _ hj b q).2 (above_none hb)
  have R₁ := R.ext e₁
  have cellsIn : ∀ c, (∃ x, (x, c) ∈ env.cells) → (s₀.heap.get? c).isSome = true := fun c ⟨y, hc⟩ => let ⟨_, v, o, ho, _⟩ := R₀.cs y c hc; in_some ho
  have S₁ : St g (compEnvC scope cl H2.objs.size env) (capt σ cl) [] Φ s₁ := R₁.comp hkind hcl hnd (by subst hs1; exact hns₁) (R.toInv.none (above_none (hC ▸ Nat.le_succ _))) fun c hc q => in_out (q ▸ cellsIn c hc) hC0
  have wr0 : ∀ b, Wr (compEnvC scope cl H2.objs.size env) [] b → b = H2.objs.size ∨ (s₀.heap.get? b).isSome = true := fun b w => by
    rcases w with w | ⟨y, w⟩ | w
    · exact .inl w
    · exact .inr (cellsIn b ⟨y, mem_of_lookup (hcl.get w).1⟩)
    · cases w
  have loop : codeAny (model g.prog g.w) A (.compLoop e 0 (.ref I) (.ref s.heap.objs.size) (compEnvC scope cl H2.objs.size env)) (RR (.ref s.heap.objs.size) H2.objs.size) s₁ :=
    hk H2.objs.size a W ht (fun w => (wr0 _ w).elim hDC fun w => in_out w hD0) (fun b q => ⟨hfp b q, fun w => notfp b q (w ▸ Nat.le_refl _), fun w => (wr0 b w).elim (fun w => notfp b q (w ▸ hC ▸ Nat.le_succ _)) fun w => in_out w (hfp b q)⟩) hgi
      ⟨S₁, Tr.of_ext (Tr.ext x e₁), R.toInv.none (size_none _), in_some hDh, k.first _ _ _ (sys_ne R.toInv (size_none _)) hDh⟩ (W.keep e₁ (fun _ _ q => q) (fun _ _ q => q) hj) fun acc Φ' s' ka ca => hR _ _ Φ' s' acc hD0 hC0 hDC ka ca
  exact k.start loop (wpAny_mono (W.self items fp Φ _ S₁.toInv (W.keep e₁ (fun _ _ q => q) (fun _ _ q => q) hj)) (fun z s' ⟨e1, e2⟩ => by subst e1 e2; exact loop) fun _ _ f => f.elim)

theorem CI.out {cenv : Env} {D : Addr} {H : α → FM → Shared → Prop} {Φ₀ Φ : FM} {s₀ s : Shared} {acc : α} (c : CI g cenv σ D H Φ₀ s₀ acc Φ s) (h0 : ∀ a o, Φ₀ a = some o → s₀.heap.get? a = some o) (hD : s₀.heap.get? D = none) (hC : s₀.heap.get? cenv.locals = none) : Ext Φ₀ s₀ Φ s :=
  (Tr.refl h0 : Ext Φ₀ s₀ Φ₀ s₀).trans c.tr (fun b q => .inr (by rcases q with q | q <;> rw [q] <;> assumption)) fun _ q => q.elim

theorem ev_go {c0 : Comprehension} {cs : List Comprehension} {mkV : α → V} {K' : V → Prop} (k : CompK g e mk o₀ H acc₀ mkV) (he : eval e env = comprehension e scope env pos mk false (eval c0.iter env) none) (hc : clausesOf e = c0 :: cs)
    (h : ItEv g d env σ c0.target c0.iter fun items => ∀ C, LoopOk g d (compEnvC scope cl C env) (capt σ cl) c0.target (cLoop e (compEnvC scope cl C env)) H acc₀ (fun r => K' (mkV r)) items)
    (hclos : closureFor scope env = pure cl) (hcl : ClOk scope env cl) (hnd : (cl.map (·.1)).Nodup) (hcell : ∀ y ∈ scope.names, y.2 ≠ .cell) (hkind : scope.kind = .function)
    (hnames : ∀ y ∈ scope.names, y.2 = .local → scope.names.lookup y.1 = some .local)
    (hs : ∀ x, foldedSetIterable c0.iter env x = pure x) : Ev g d env σ e K' := fun A Φ s a R => by
  unfold Wp
  rw [he]
  refine wpAny_comprehension_free (use := none) hc hs hclos hkind hnames (wpAny_mono (h A Φ s a R) (fun xv s₁ h₁ => wpAny_mono h₁ (fun it s₂ h₂ => ?_) fun _ _ e => e) fun _ _ e => e)
  refine comp_block (RR := fun acc C => compPost (model g.prog g.w) A bot none (Post g Φ s K') acc C) k a R hcl hnd hcell hkind h₂ fun D C Φ' s' acc hD hC hDC ka ca => ?_
  obtain ⟨m, hn⟩ := ca.st.ns
  refine ⟨m, hn, fun h' hs' => ?_⟩
  have t : Tr (fun b => b = C) no1 Φ' s' Φ' { s' with heap := h' } := Tr.keeps ca.st.toInv (fun b o q e => (hs'.2 b q).trans e) (fun b q => by rw [q]; exact ca.st.lf) s'.toks
  obtain ⟨o, ho, hr⟩ := k.real D acc Φ' _ ca.df (k.stable D _ _ _ _ _ _ _ t hDC ca.here)
  exact ⟨_, _, ((ca.out R.held hD hC).trans t (fun b q => .inr (by rw [q]; exact hC)) fun _ q => q.elim).freeze (g := g) (ca.st.toInv.ext t) ho ca.df (.inl hD), hr, ka⟩

theorem ex_go {c0 : Comprehension} {cs : List Comprehension} {mkV : α → V} {spos py : Pos} {y : Str} {K' : Fl → Sg → Prop} (k : CompK g e mk o₀ H acc₀ mkV) (hc : clausesOf e = c0 :: cs)
    (hx : evalThenUse e env (assign (.Name y py) env) = (do let _ ← comprehension e scope env pos mk false (eval c0.iter env) (some (assign (.Name y py) env))))
    (hsw : swapsWith e (some (.Name y py)) spos.line env = pure true)
    (h : ItEv g d env σ c0.target c0.iter fun items => ∀ C, LoopOk g d (compEnvC scope cl C env) (capt σ cl) c0.target (cLoop e (compEnvC scope cl C env)) H acc₀ (fun r => K' .next ((y, .val (mkV r)) :: σ)) items)
    (hclos : closureFor scope env = pure cl) (hcl : ClOk scope env cl) (hnd : (cl.map (·.1)).Nodup) (hcell : ∀ y ∈ scope.names, y.2 ≠ .cell) (hkind : scope.kind = .function)
    (hnames : ∀ y ∈ scope.names, y.2 = .local → scope.names.lookup y.1 = some .local) (hy : isVar env y = true)
    (hs : ∀ x, foldedSetIterable c0.iter env x = pure x) : Ex g d env σ (.Assign [.Name y py] e spos) K' := fun A Φ s O a S => by
  rw [exec_Assign_Name_used _ _ _ _ hsw, hx]
  refine wpAny_bind (wpAny_standAt (wpAny_bind ?_))
  refine wpAny_bind (wpAny_mono (wpAny_comprehension_free (use := some (assign (.Name y py) env)) (Q := fun _ s' => SPost g env O Φ s K' .next s') hc hs hclos hkind hnames
    (wpAny_mono (h A Φ s a S.rd) (fun xv s₁ h₁ => wpAny_mono h₁ (fun it s₂ h₂ => ?_) fun _ _ e => e) fun _ _ e => e)) (fun _ s' hq => wpAny_pure (wpAny_pure hq)) fun _ _ e => e)
  refine comp_block (RR := fun acc C => compPost (model g.prog g.w) A bot (some (assign (.Name y py) env)) (fun _ s' => SPost g env O Φ s K' .next s') acc C) k a S.rd hcl hnd hcell hkind h₂ fun D C Φ' s' acc hD hC hDC ka ca => ?_
  obtain ⟨m, hn⟩ := ca.st.ns
  obtain ⟨o, ho, hr⟩ := k.real D acc Φ' _ ca.df ca.here
  have t₂ := (ca.out S.held hD hC).freeze (g := g) ca.st.toInv ho ca.df (.inl hD)
  have hCw : ¬ Wr env O C := fun q => in_out (S.inheap q) hC
  show wpAny _ A (assign (.Name y py) env (.ref D)) _ _ _
  refine wpAny_assign_Name ((S.ext t₂).store (sl := .val (mkV acc)) hy hr (fun q => by cases q) fun s'' S'' tr => ?_)
  refine ⟨m, hn.at' fun o e => tr.keep C o e hCw, fun h' hs' => ?_⟩
  have hf'' : (Φ'.put D o) C = none := by unfold FM.put; rw [if_neg (Ne.symm hDC)]; exact ca.st.lf
  have t : Tr (fun b => b = C) no1 (Φ'.put D o) s'' (Φ'.put D o) { s'' with heap := h' } := Tr.keeps S''.toInv (fun b o q e => (hs'.2 b q).trans e) (fun b q => by rw [q]; exact hf'') s''.toks
  exact ⟨_, _, O, .next, ((Tr.of_ext t₂).trans tr (fun _ q => .inl q) fun _ q => .inl q).trans t (fun b q => .inr (by rw [q]; exact hC)) (fun _ q => .inl q), fun _ q => .inl q, S''.tr t fun b hb q => hCw (q ▸ hb), trivial, ka⟩
end
section
variable {g : Gd} {d : Nat} {env : Env} {σ : Sg}
theorem ItPost.mono {A t Φ s it s'} {K K' : List V → Prop} (h : ItPost g d A t Φ s K it s') (hk : ∀ v, K v → K' v) : ItPost g d A t Φ s K' it s' := by
  obtain ⟨Φ₂, I, tg, fp, gi, J, items, a1, a2, a3, a4, a5, a6, a7, k⟩ := h
  exact ⟨Φ₂, I, tg, fp, gi, J, items, a1, a2, a3, a4, a5, a6, a7, hk _ k⟩
theorem ItEv.mono {t e} {K K' : List V → Prop} (h : ItEv g d env σ t e K) (hk : ∀ v, K v → K' v) : ItEv g d env σ t e K' := fun A Φ s a R =>
  wpAny_mono (h A Φ s a R) (fun _ _ h1 => wpAny_mono h1 (fun _ _ h2 => h2.mono hk) fun _ _ f => f) fun _ _ f => f
theorem list_new {A : Around} {P : Value → Shared → Prop} {s : Shared} (h : P (.ref s.heap.objs.size) { s with heap := s.heap.push (lstO [] 0) }) : wpAny (model g.prog g.w) A (newList []) P bot s := wpAny_newObj_type h
theorem HL.real (D : Addr) (acc : List V) (Φ : FM) (s : Shared) (hf : Φ D = none) (h : HL g D acc Φ s) : ∃ o, s.heap.get? D = some o ∧ Real g (Φ.put D o) (.list acc) (.ref D) :=
  let ⟨xs, n, ho, r⟩ := h
  ⟨_, ho, .list (FM.put_self ..) (r.mono (FM.put_le hf))⟩
theorem compK_list {elt : Expr} {c0 : Comprehension} {cs : List Comprehension} {scope : Scope} {pos : Pos} (h0 : c0.is_async = 0) : CompK g (.ListComp elt (c0 :: cs) scope pos) (newList []) (lstO [] 0) (HL g) [] V.list where
  new := list_new
  live := rfl
  start := fun h0' h => by
    obtain ⟨t, i, f, a⟩ := c0
    cases h0
    exact codeAny_compStart_list h0' h
  first := fun D Φ s _ e => ⟨[], 0, e, .nil⟩
  real := HL.real
  stable := fun D => HL.stable

/-- a list comprehension of one clause -/
theorem ev_comp {elt target iter : Expr} {ifs : List Expr} {scope : Scope} {pos : Pos} {cl : List (Str × Addr)} {K : V → Prop}
    (h : ItEv g d env σ target iter fun items => ∀ C, compP g d (compEnvC scope cl C env) (capt σ cl) target ifs elt (fun r => K (.list r)) items [])
    (hclos : closureFor scope env = pure cl) (hcl : ClOk scope env cl) (hnd : (cl.map (·.1)).Nodup) (hcell : ∀ y ∈ scope.names, y.2 ≠ .cell) (hkind : scope.kind = .function)
    (hnames : ∀ y ∈ scope.names, y.2 = .local → scope.names.lookup y.1 = some .local)
    (hs : ∀ x, foldedSetIterable iter env x = pure x := by intro _; rfl) : Ev g d env σ (.ListComp elt [⟨target, iter, ifs, 0⟩] scope pos) K :=
  ev_go (mkV := V.list) (compK_list rfl) (eval_ListComp ..) rfl (ItEv.mono h fun items k C => loop_list (k C)) hclos hcl hnd hcell hkind hnames hs

/-- the same into a name of the frame on the same line -/
theorem ex_assign_comp {elt target iter : Expr} {ifs : List Expr} {scope : Scope} {pos spos py : Pos} {y : Str} {cl : List (Str × Addr)} {K : Fl → Sg → Prop}
    (h : ItEv g d env σ target iter fun items => ∀ C, compP g d (compEnvC scope cl C env) (capt σ cl) target ifs elt (fun r => K .next ((y, .val (.list r)) :: σ)) items [])
    (hsw : swapsWith (.ListComp elt [⟨target, iter, ifs, 0⟩] scope pos) (some (.Name y py)) spos.line env = pure true)
    (hclos : closureFor scope env = pure cl) (hcl : ClOk scope env cl) (hnd : (cl.map (·.1)).Nodup) (hcell : ∀ y ∈ scope.names, y.2 ≠ .cell) (hkind : scope.kind = .function)
    (hnames : ∀ y ∈ scope.names, y.2 = .local → scope.names.lookup y.1 = some .local) (hy : isVar env y = true)
    (hs : ∀ x, foldedSetIterable iter env x = pure x := by intro _; rfl) : Ex g d env σ (.Assign [.Name y py] (.ListComp elt [⟨target, iter, ifs, 0⟩] scope pos) spos) K :=
  ex_go (mkV := V.list) (compK_list rfl) rfl rfl hsw (ItEv.mono h fun items k C => loop_list (k C)) hclos hcl hnd hcell hkind hnames hy hs
end
end Mine
end

section
set_option maxRecDepth 100000
open PySem PySem.Calls PyProof.Rows PySem.W PySem.Builtin PySem.Builtin.Str
namespace Mine

noncomputable def retK (K : V → Prop) : Fl → Sg → Prop := fun f _ => match f with
  | .ret v => K v
  | .next => K .none
  | _ => False

/-- a function of the text's that stands in the ground -/
structure FnAt (g : Gd) (a : Addr) (fd : FuncData) (body : List Stmt) (ps : List Str) : Prop where
  obj : ∃ o, g.hB.get? a = some o ∧ o.data = .func fd
  code : g.hB.CodeRec fd.code fd.qualname
  body : fd.body = .stmts body
  clo : fd.closure = []
  gl : fd.globals = mainGlobals
  bi : fd.builtins = builtinsNs
  bind : ∀ xs : List Value, xs.length = ps.length → bindArgs fd ⟨xs, []⟩ = pure (ps.zip xs)
  plain : fd.scope.isCoroutine = false ∧ fd.scope.isGenerator = false ∧ fd.scope.kind = .function
  pars : ∀ L x, x ∈ ps → fd.scope.names.lookup x = some .local ∨ (fd.scope.names.lookup x = some .cell ∧ ((cellsFrom (L + 1) fd.scope.names []).lookup x).isSome = true)
  nodup : ps.Nodup
  cnd : ((fd.scope.names.filter fun p => p.2 == .cell).map (·.1)).Nodup

theorem cellsFrom_keys : ∀ (names : List (Str × NameKind)) (n : Nat) (acc : List (Str × Addr)), (cellsFrom n names acc).map (·.1) = ((names.filter fun p => p.2 == .cell).map (·.1)).reverse ++ acc.map (·.1)
  | [], _, _ => rfl
  | (x, k) :: r, n, acc => by
    unfold cellsFrom
    cases q : k == NameKind.cell with
    | true => simp only [if_true]; rw [cellsFrom_keys r]; simp [List.filter_cons, q]
    | false => simp only [Bool.false_eq_true, if_false]; rw [cellsFrom_keys r]; simp [List.filter_cons, q]
theorem lookup_of_mem {l : List (Str × Addr)} (hn : (l.map (·.1)).Nodup) {x : Str} {c : Addr} (h : (x, c) ∈ l) : l.lookup x = some c := by
  induction l with
  | nil => cases h
  | cons p r ih =>
    obtain ⟨y, c2⟩ := p
    rw [List.map_cons, List.nodup_cons] at hn
    rw [List.lookup_cons]
    rcases List.mem_cons.mp h with e | e
    · cases e; simp
    · have : (x == y) = false := by
        rw [beq_eq_false_iff_ne]; rintro rfl; exact hn.1 (List.mem_map_of_mem (f := (·.1)) e)
      rw [this]; exact ih hn.2 e
theorem FnAt.callee {g : Gd} {a fd body ps} (F : FnAt g a fd body ps) : Callee g (.ref a) := let ⟨o, h1, h2⟩ := F.obj; .inr ⟨a, o, fd, rfl, h1, h2⟩

section
variable {g : Gd} {d : Nat} {K : V → Prop}

theorem bindL_notin {kindOf : Str → Option NameKind} {x : Str} : ∀ (ps : List Str) (xs : List Value) (m : Str → Option Value), x ∉ ps → bindL kindOf (ps.zip xs) m x = m x
  | [], _, m, _ => by simp [bindL]
  | p :: ps, [], m, _ => by simp [bindL]
  | p :: ps, v :: xs, m, h => by
    have h1 : x ≠ p := fun q => h (q ▸ .head _)
    have h2 : x ∉ ps := fun q => h (.tail _ q)
    rw [List.zip_cons_cons]
    unfold bindL
    rw [bindL_notin ps xs _ h2]
    split
    · simp [h1]
    · rfl
theorem bindC_notin {kindOf : Str → Option NameKind} {x : Str} : ∀ (ps : List Str) (xs : List Value) (m : Str → Option Value), x ∉ ps → bindC kindOf (ps.zip xs) m x = m x
  | [], _, m, _ => by simp [bindC]
  | p :: ps, [], m, _ => by simp [bindC]
  | p :: ps, v :: xs, m, h => by
    have h1 : x ≠ p := fun q => h (q ▸ .head _)
    have h2 : x ∉ ps := fun q => h (.tail _ q)
    rw [List.zip_cons_cons]
    unfold bindC
    rw [bindC_notin ps xs _ h2]
    split
    · rfl
    · simp [h1]
theorem bound_at {g : Gd} {Φ : FM} {kindOf : Str → Option NameKind} : ∀ (ps : List Str) (vs : List V) (xs : List Value) (m cm : Str → Option Value), ps.Nodup → Reals g Φ vs xs → vs.length = ps.length →
    ∀ x sl, List.lookup x (ps.zip (vs.map Slot.val)) = some sl → ∃ val, Real g Φ (match sl with | .val v => v | _ => .none) val ∧ sl.isOwn = false ∧ x ∈ ps ∧ (kindOf x = some .local → bindL kindOf (ps.zip xs) m x = some val) ∧ (kindOf x ≠ some .local → bindC kindOf (ps.zip xs) cm x = some val)
  | [], _, _, m, cm, _, _, _, x, sl, h => by simp at h
  | p :: ps, [], _, m, cm, _, _, hl, x, sl, h => by cases hl
  | p :: ps, v :: vs, _, m, cm, hn, .cons (x := y) (xs := ys) r1 r2, hl, x, sl, h => by
    rw [List.nodup_cons] at hn
    rw [List.map_cons, List.zip_cons_cons] at h
    rw [List.zip_cons_cons]
    by_cases q : x = p
    · subst q
      rw [lookup_cons_eq] at h; cases h
      refine ⟨y, r1, rfl, .head _, fun hk => ?_, fun hk => ?_⟩
      · unfold bindL; rw [bindL_notin ps ys _ hn.1, if_pos hk]; simp
      · unfold bindC; rw [bindC_notin ps ys _ hn.1, if_neg hk]; simp
    · rw [lookup_cons_ne q] at h
      obtain ⟨val, h1, h2, h3, h4, h5⟩ := bound_at (g := g) (kindOf := kindOf) ps vs ys (if kindOf p = some .local then fun y' => if y' = p then some y else m y' else m) (if kindOf p = some .local then cm else fun y' => if y' = p then some y else cm y') hn.2 r2 (by simpa using hl) x sl h
      exact ⟨val, h1, h2, .tail _ h3, fun hk => by unfold bindL; exact h4 hk, fun hk => by unfold bindC; exact h5 hk⟩

theorem call_fn {a : Addr} {fd : FuncData} {body : List Stmt} {ps : List Str} {vs : List V} (F : FnAt g a fd body ps) (hl : vs.length = ps.length)
    (h : ∀ L, Exs g d (callEnvC fd L a) (ps.zip (vs.map Slot.val)) body (retK K)) : CallOk g (d + 1) (.ref a) vs K := fun A Φ s xs ok i r => by
  obtain ⟨o, ho, hd⟩ := F.obj
  have hx := r.length
  refine wpAny_call ?_
  refine codeAny_call_cells (binds := ps.zip xs) ok.room (i.base _ _ ho) hd (g.nolimit.keeps i.base) (F.code.keeps i.base) F.body (F.bind xs (by exact Nat.le_antisymm (le2 (c3 _ _ _) (.v 0) (.v 1) (.v 2) (.v 0) (.v 2) (.v 1) (Nat.le_of_eq hl) (Nat.le_of_eq hx)) (le2 (c3 _ _ _) (.v 1) (.v 0) (.v 0) (.v 2) (.v 1) (.v 2) (Nat.le_of_eq hl.symm) (Nat.le_of_eq hx.symm)))) F.clo
    (fun x hx => F.pars _ x.1 (List.of_mem_zip hx).1) (fun s₁ x => ?_) F.plain.1 F.plain.2.1 F.plain.2.2
  -- the frame stands
  obtain ⟨h₁, tk, rfl⟩ := x.toInCall.same
  have e₁ : Ext Φ s Φ { s with heap := h₁, toks := tk } := Ext.keeps i x.toInCall.keep tk
  have hL : (callEnvC fd s.heap.objs.size a).locals = s.heap.objs.size := rfl
  have above : ∀ n c, (n, c) ∈ (callEnvC fd s.heap.objs.size a).cells → s.heap.objs.size < c := fun n c hc => hL ▸ x.above n c hc
  have hcn : ((callEnvC fd s.heap.objs.size a).cells.map (·.1)).Nodup := by
    show ((cellsFrom (s.heap.objs.size + 1) fd.scope.names []).map (·.1)).Nodup
    rw [cellsFrom_keys, List.map_nil, List.append_nil]; exact (List.reverse_perm _).nodup_iff.mpr F.cnd
  have isCell : ∀ n c, (n, c) ∈ (callEnvC fd s.heap.objs.size a).cells → ∃ v, h₁.IsCell c v := fun n c hc => ⟨_, x.cell n c (lookup_of_mem hcn hc)⟩
  have hnone : ∀ b, s.heap.objs.size ≤ b → Φ b = none := fun b hb => i.none (above_none hb)
  have S : St g (callEnvC fd s.heap.objs.size a) (ps.zip (vs.map Slot.val)) [] Φ { s with heap := h₁, toks := tk } := by
    refine { toInv := i.ext e₁, ok := ⟨F.plain.2.2, F.gl, F.bi⟩, ns := ⟨_, x.toInCall.ns⟩, lf := hnone _ (Nat.le_refl _), cs := fun n c hc => ⟨hnone c (Nat.le_of_lt (above n c hc)), isCell n c hc, Nat.ne_of_gt (above n c hc)⟩, apart := x.apart,
             ow := fun b hb => (nomatch hb), vars := fun n sl hn => ?_, sep := fun n m sl sl' b _ h1 o1 => ?_ }
    · obtain ⟨val, r1, o1, hin, hL', hC'⟩ := bound_at (g := g) (kindOf := (callEnvC fd s.heap.objs.size a).kindOf) ps vs xs (fun _ => none) (fun _ => none) F.nodup r hl n sl hn
      cases sl with
      | own l => cases o1
      | ownd l => cases o1
      | val v =>
        refine ⟨val, ?_, r1, fun q => by cases q⟩
        rcases F.pars s.heap.objs.size n hin with q | ⟨q, q2⟩
        · exact .inl ⟨q, _, x.toInCall.ns, hL' q⟩
        · obtain ⟨c, hc⟩ := Option.isSome_iff_exists.mp q2
          refine .inr ⟨.inl q, c, hc, ?_⟩
          have := x.cell n c hc
          rw [hC' (by show fd.scope.names.lookup n ≠ _; rw [q]; decide)] at this
          exact this
    · obtain ⟨val, r1, o1', _⟩ := bound_at (g := g) (kindOf := fun _ => none) ps vs xs (fun _ => none) (fun _ => none) F.nodup r hl n sl h1
      rw [o1] at o1'; cases o1'
  refine wpAny_mono (h _ _ _ _ [] (AOk.deeper ok) S) (fun f s' hf => ?_) fun _ _ f => f.elim
  obtain ⟨Φ', σ', O', fv, tr, _, S', hf, hk⟩ := hf
  have ex : Ext Φ s Φ' s' := e₁.trans tr (fun b q => by
    rcases q with rfl | ⟨n, q⟩ | q
    · exact .inr (size_none _)
    · exact .inr (above_none (Nat.le_of_lt (above n b q)))
    · cases q) fun _ q => .inl q
  cases f <;> cases fv <;> first | exact hf.elim | exact hk.elim | skip
  · exact ⟨Φ', .none, ex, .none, hk⟩
  · exact ⟨Φ', _, ex, hf, hk⟩
end
end Mine
end

section
set_option maxRecDepth 100000
open PySem PySem.Calls PyProof.Rows PySem.W PySem.Builtin PySem.Builtin.Str
namespace Mine

/-- the i-th statement of the text, and the parts of a def -/
noncomputable def stm (i : Nat) : Stmt := (PySem.Challenge.pw_xb0020_01.main.body[i]?).getD (.Pass ⟨0, 0, 0, 0⟩)
noncomputable def bodyS : Stmt → List Stmt
  | .FunctionDef _ _ b _ _ _ _ _ _ _ => b
  | .ClassDef _ _ _ b _ _ _ _ _ _ _ => b
  | _ => []
noncomputable def scopeS : Stmt → Scope
  | .FunctionDef _ _ _ _ _ _ s _ _ _ => s
  | _ => ⟨.function, [], false, false, []⟩
noncomputable def argsS : Stmt → Arguments
  | .FunctionDef _ a _ _ _ _ _ _ _ _ => a
  | _ => ⟨[], [], none, [], [], none, []⟩
noncomputable def fnD (st : Stmt) (nm qn : Str) (doc pm cd : Value) : FuncData :=
  { name := nm, qualname := qn, params := argsS st, body := .stmts (bodyS st), scope := scopeS st, globals := mainGlobals, closure := [], defaults := .none, kwdefaults := .none, doc := doc, pyModule := pm, annotations := none, code := cd, closureTuple := .none, builtins := builtinsNs }

section
variable {g : Gd} {d : Nat} {env : Env} {σ : Sg} {K : V → Prop}
theorem ev_and1 {x pos op} (h : Ev g d env σ x K) : Ev g d env σ (.BoolOp op [x] pos) K := fun A Φ s a R => by
  unfold Wp; rw [arm_eval_BoolOp]; exact h A Φ s a R
theorem ev_and {x y rest pos} (h : Ev g d env σ x fun v => TrueOk g d v fun b => (b = false → K v) ∧ (b = true → Ev g d env σ (.BoolOp .And (y :: rest) pos) K)) : Ev g d env σ (.BoolOp .And (x :: y :: rest) pos) K := fun A Φ s a R => by
  unfold Wp; rw [arm_eval_BoolOp]
  show wpAny _ A (do
    let v ← eval x env
    standAt pos
    let t ← holding [v] (truthy v)
    match BoolOp.And, t with
    | .And, false | .Or, true => pure v
    | _, _ => boolOp pos .And (evalEach (y :: rest) env)) _ _ s
  refine wpAny_bind (wpAny_mono (h A Φ s a R) (fun z s₁ ⟨Φ₁, v, e₁, r₁, k₁⟩ => wpAny_bind (wpAny_standAt (wpAny_bind (wpAny_holding ?_)))) fun _ _ f => f)
  refine wpAny_mono (k₁ A Φ₁ s₁ z a (R.ext e₁).toInv r₁) (fun b s₂ ⟨Φ₂, e₂, k₂⟩ => ?_) fun _ _ f => f
  cases b with
  | false => exact wpAny_pure ⟨Φ₂, v, Tr.ext e₁ e₂, r₁.mono e₂.mono, k₂.1 rfl⟩
  | true =>
    have := k₂.2 rfl A Φ₂ s₂ a ((R.ext e₁).ext e₂)
    unfold Wp at this
    rw [arm_eval_BoolOp] at this
    exact wpAny_mono this (fun b s₄ ⟨Φ₄, v, e₄, r, k₄⟩ => ⟨Φ₄, v, (Tr.ext e₁ e₂).ext e₄, r, k₄⟩) fun _ _ f => f

theorem Ev.mono {e} {K K' : V → Prop} (h : Ev g d env σ e K) (hk : ∀ v, K v → K' v) : Ev g d env σ e K' := fun A Φ s a R => (h A Φ s a R : Wp ..).mono hk
theorem Ts.mono {e} {K K' : Bool → Prop} (h : Ts g d env σ e K) (hk : ∀ v, K v → K' v) : Ts g d env σ e K' := fun A Φ s a R => wpAny_mono (h A Φ s a R) (fun _ _ ⟨Φ', x, k⟩ => ⟨Φ', x, hk _ k⟩) fun _ _ f => f
theorem TsAll.mono {ifs} {K K' : Bool → Prop} (h : TsAll g d env σ ifs K) (hk : ∀ v, K v → K' v) : TsAll g d env σ ifs K' := by
  match ifs, h with
  | [], h => exact hk _ h
  | [c], h => exact Ts.mono h hk
theorem AsL.mono {t v} {K K' : Sg → Prop} (h : AsL g d env σ t v K) (hk : ∀ σ', K σ' → K' σ') : AsL g d env σ t v K' := fun A Φ s x a S r => wpAny_mono (h A Φ s x a S r) (fun _ _ ⟨Φ', σ', x, y, k⟩ => ⟨Φ', σ', x, y, hk _ k⟩) fun _ _ f => f

/-- a comprehension that keeps what passes and maps it -/
theorem compP_fm {α : Type} (f : α → V) (p : α → Bool) (F : α → V) {target ifs elt} {K : List V → Prop} : ∀ (l : List α) (acc : List V), acc.length + l.length ≤ sizeLine →
    (∀ x ∈ l, AsL g d env σ target (f x) fun σ' => Sub σ σ' ∧ TsAll g d env σ' ifs fun ok => (ok = true → p x = true ∧ Ev g d env σ' elt fun u => u = F x) ∧ (ok = false → p x = false)) →
    K (acc ++ (l.filter p).map F) → compP g d env σ target ifs elt K (l.map f) acc
  | [], acc, _, _, h => by simpa [compP] using h
  | x :: l, acc, hs, hx, h => by
    rw [List.map_cons]
    unfold compP
    rw [List.length_cons] at hs
    refine ⟨by exact le1 (c2 _ _) (.a (.v 0) (.a (.v 1) (.n 1))) (.n 16777216) (.v 0) (.n 16777216) hs, (hx x (.head _)).mono fun σ' k => ⟨k.1, k.2.mono fun ok k2 => ⟨fun e => ?_, fun e => ?_⟩⟩⟩
    · obtain ⟨hp, he⟩ := k2.1 e
      refine he.mono fun u hu => ?_
      subst hu
      refine compP_fm f p F l _ (by simp; exact le1 (c2 _ _) (.a (.v 0) (.a (.v 1) (.n 1))) (.n 16777216) (.a (.a (.v 0) (.n 1)) (.v 1)) (.n 16777216) hs) (fun y hy => hx y (.tail _ hy)) ?_
      simpa [List.filter_cons, hp] using h
    · refine compP_fm f p F l _ (by exact le1 (c2 _ _) (.a (.v 0) (.a (.v 1) (.n 1))) (.n 16777216) (.a (.v 0) (.v 1)) (.n 16777216) hs) (fun y hy => hx y (.tail _ hy)) ?_
      simpa [List.filter_cons, k2.2 e] using h
/-- a comprehension without tests -/
theorem compP_map {α : Type} (f : α → V) (F : α → V) {target elt} {K : List V → Prop} (l : List α) (hs : l.length ≤ sizeLine)
    (hx : ∀ x ∈ l, AsL g d env σ target (f x) fun σ' => Sub σ σ' ∧ Ev g d env σ' elt fun u => u = F x) (h : K (l.map F)) : compP g d env σ target [] elt K (l.map f) [] := by
  refine compP_fm f (fun _ => true) F l [] (by simpa using hs) (fun x hm => (hx x hm).mono fun σ' k => ⟨k.1, fun _ => ⟨rfl, k.2⟩, fun e => by cases e⟩) ?_
  have : l.filter (fun _ => true) = l := List.filter_eq_self.mpr fun _ _ => rfl
  rw [this]; exact h
theorem sub_bind {x : Str} {sl : Slot} (h : σ.lookup x = none) : Sub σ ((x, sl) :: σ) := fun y sl' e => by
  rw [lookup_cons_ne]
  · exact e
  · rintro rfl; rw [h] at e; cases e
end
end Mine
end

section
set_option maxRecDepth 100000
open PySem PySem.Calls PyProof.Rows PySem.W PySem.Builtin PySem.Builtin.Str
namespace Mine

section
variable {g : Gd} {d : Nat}

noncomputable def upto (n : Int) : List V := (List.range n.toNat).map fun i : Nat => V.int i
theorem it_range_core {A : Around} {Φ : FM} {s : Shared} {target : Expr} {a b : Int} {K : List V → Prop} (ok : AOk d A) (i : Inv g Φ s) (ht : isPlainT target) (hb : -1000000 ≤ a ∧ a ≤ 1000000 ∧ -1000000 ≤ b ∧ b ≤ 1000000)
    {ta tb tc : Tok} (h : K ((List.range (b - a).toNat).map fun j : Nat => V.int (a + j))) (k : Nat) :
    wpAny (model g.prog g.w) A (pyIter (.ref s.heap.objs.size)) (ItPost g d A target Φ s K) bot { s with heap := s.heap.push { cls := .type "range", data := .fields #[.int a ta, .int b tb, .int 1 tc] }, toks := k } := by
  have x₁ := Ext.push' i { cls := .type "range", data := .fields #[.int a ta, .int b tb, .int 1 tc] } k
  have i₁ := i.ext x₁
  have hsz : Builtin.Range.rangeSize a b 1 = ((b - a).toNat : Int) := by rw [rangeSize_one]; split <;> lia
  refine wpAny_pyIter_range (IsRange.new s.heap a b 1 ta tb tc) ?_ ?_
  · unfold Builtin.Range.small
    rw [hsz]
    simp [Builtin.Range.rangeFitsLong]
    omega
  have x₂ := Ext.push' i₁ { cls := .type "range_iterator", data := .fields #[rawInt a, rawInt (Builtin.Range.rangeSize a b 1), rawInt 1] } k
  generalize hR : s.heap.push { cls := .type "range", data := .fields #[.int a ta, .int b tb, .int 1 tc] } = H1 at *
  have hI : H1.objs.size = s.heap.objs.size + 1 := by rw [← hR]; exact Heap.size_push ..
  refine ItPostS.dyn ok ?_
  refine ⟨Φ, _, isPlainT, _, _, _, _, rfl, Tr.ext x₁ x₂, iter_of_walks (own := [H1.objs.size]) (n := (b - a).toNat) (items := (List.range (b - a).toNat).map fun j : Nat => V.int (a + j)) (Φ₀ := Φ) (tg := isPlainT) ok
      (fun A a' => Walks.range a'.1 H1.objs.size a 1 (b - a).toNat) (fun c hc hn => absurd hc hn) (fun c hc => hc) ?_ (by simp) ?_ ?_, ht,
    ⟨0, Nat.zero_le _, rfl, ?_, .rfl' _, (Tr.ext x₁ x₂).held, fun c hc => ?_⟩, fun c hc => ?_, (fun _ h => h.elim), h⟩
  · rintro j h st c hc
    rw [List.mem_singleton.mp hc, st]; rfl
  · rintro j v hlt ⟨t, rfl⟩ Φ' le
    refine ⟨V.int (a + j), by simp [hlt], ?_⟩
    have : a + (j : Int) * 1 = a + j := by lia
    rw [this]; exact .int _ _
  · rintro t htt A' j s' v st
    exact letGo_plain htt st rfl rfl (by decide)
  · show (H1.push _).get? H1.objs.size = _
    rw [Heap.get?_push_size _ rfl, hsz]; simp
  · rw [List.mem_singleton.mp hc]; exact i.none (above_none (by exact le1 (c2 _ _) (.a (.v 1) (.n 1)) (.v 0) (.v 1) (.v 0) (Nat.le_of_eq hI.symm)))
  · rw [List.mem_singleton.mp hc]; exact above_none (by exact le1 (c2 _ _) (.a (.v 1) (.n 1)) (.v 0) (.v 1) (.v 0) (Nat.le_of_eq hI.symm))
theorem call_range1 {target n} {K : List V → Prop} (hb : n ≤ 1000000 ∧ -1000000 ≤ n) (h : K (upto n)) (ht : isPlainT target := by trivial) : ItCall g d target (.type "range") [.int n] K := fun A Φ s xs ok i r => by
  refine r.on1 fun _ r1 => ?_
  refine r1.onI fun _ => ?_
  · refine call_range_1 (it_range_core (a := 0) (b := n) ok i ht ⟨by lia, by lia, by lia, by lia⟩ ?_ _)
    have e : (List.range (n - 0).toNat).map (fun j : Nat => V.int (0 + j)) = upto n := by
      unfold upto; rw [Int.sub_zero]; congr 1; funext j; simp
    rw [e]; exact h
theorem call_range2 {target a b} {K : List V → Prop} (hb : -1000000 ≤ a ∧ a ≤ 1000000 ∧ -1000000 ≤ b ∧ b ≤ 1000000) (h : K ((List.range (b - a).toNat).map fun j : Nat => V.int (a + j))) (ht : isPlainT target := by trivial) : ItCall g d target (.type "range") [.int a, .int b] K := fun A Φ s xs ok i r => by
  refine r.on2 fun _ _ r1 r2 => ?_
  refine r1.onI fun _ => ?_
  refine r2.onI fun _ => ?_
  exact call_range_2 (it_range_core ok i ht hb h _)

noncomputable def enumV (l : List V) : List V := l.zipIdx.map fun p => V.tup [.int p.2, p.1]
theorem call_enum {target l} {K : List V → Prop} (h : K (enumV l)) (ht : isTupT target := by trivial) : ItCall g d target (.type "enumerate") [.list l] K := fun A Φ s xs ok i r => by
  refine r.on1 fun _ r1 => ?_
  refine r1.onL fun b ys n h1 r => ?_
  have hl : s.heap.IsList b ys.toArray := ⟨_, i.held _ _ h1, rfl, n, rfl⟩
  refine call_enumerate_list hl fun h' he hit hsz hk => ?_
  -- the enumerate object is its own iterator
  refine wpAny_pyIter_enum he ?_
  have hb : b < s.heap.objs.size := Heap.lt_size (i.held _ _ h1)
  have x₂ := Ext.keeps i hk s.toks
  refine ItPostS.dyn ok ?_
  refine ⟨Φ, _, isTupT, _, _, _, enumV l, rfl, x₂, iter_of_walksT (own := [s.heap.objs.size + 1, s.heap.objs.size]) (items := enumV l) (Φ₀ := Φ) ok
    (fun A a' => WalksT.enumerate a'.1 (s.heap.objs.size + 1) s.heap.objs.size b (Nat.succ_ne_self _) (Nat.ne_of_lt (Nat.lt_succ_of_lt hb)) (Nat.ne_of_lt hb) ys.toArray) ?_ (fun c hc => hc) ?_ ?_ ?_, ht,
    ⟨0, Nat.zero_le _, rfl, ⟨⟨_, he⟩, hit, hl.at fun o e => hk b o e⟩, .rfl' _, x₂.held, fun c hc => ?_⟩, fun c hc => ?_, (fun _ h => h.elim), h⟩
  · intro c hc hn
    simp at hc hn
    rcases hc with hc | hc | hc
    · exact absurd hc hn.1
    · exact absurd hc hn.2
    · rw [hc, h1]; rfl
  · rintro j hh ⟨⟨old, he⟩, ⟨o, ho, _⟩, _⟩ c hc
    simp at hc
    rcases hc with rfl | rfl
    · rw [he]; rfl
    · rw [ho]; rfl
  · simp [enumV, r.length]
  · rintro j vals hlt ⟨t, x, hx, rfl⟩ Φ' le
    have hlt' : j < l.length := by rw [← r.length]; simpa using hlt
    obtain ⟨y, hy, ry⟩ := r.get (List.getElem?_eq_getElem hlt')
    have hx' : ys[j]? = some x := by simpa using hx
    rw [hx'] at hy; cases hy
    exact ⟨[.int j, l[j]], by simp [enumV, hlt'], .cons (.int _ _) (.cons (ry.mono le) .nil)⟩
  · simp at hc
    rcases hc with rfl | rfl
    · exact i.none (above_none (Nat.le_succ _))
    · exact i.none (size_none _)
  · simp at hc
    rcases hc with rfl | rfl
    · exact above_none (Nat.le_succ _)
    · exact size_none _
end
end Mine
end

section
set_option maxRecDepth 100000
open PySem PySem.Calls PyProof.Rows PySem.W PySem.Builtin PySem.Builtin.Str
namespace Mine

section
variable {g : Gd} {d : Nat}

noncomputable def zipV (l l' : List V) : List V := (l.zip l').map fun p => V.tup [p.1, p.2]
theorem call_zip {target l l'} {K : List V → Prop} (h : K (zipV l l')) (ht : isTupT target := by trivial) : ItCall g d target (.type "zip") [.list l, .list l'] K := fun A Φ s xs ok i r => by
  refine r.on2 fun _ _ r1 r2 => ?_
  refine r1.onL fun b1 ys1 n1 h1 r1 => ?_
  refine r2.onL fun b2 ys2 n2 h2 r2 => ?_
  have hl1 : s.heap.IsList b1 ys1.toArray := ⟨_, i.held _ _ h1, rfl, n1, rfl⟩
  have hl2 : s.heap.IsList b2 ys2.toArray := ⟨_, i.held _ _ h2, rfl, n2, rfl⟩
  refine call_zip_2 hl1 hl2 fun h' hz hTI hTO hi1 hi2 hsz hk => ?_
  refine wpAny_pyIter_zip hz ?_
  have hb1 : @LT.lt Nat _ b1 s.heap.objs.size := Heap.lt_size (i.held _ _ h1)
  have hb2 : @LT.lt Nat _ b2 s.heap.objs.size := Heap.lt_size (i.held _ _ h2)
  have x₂ := Ext.keeps i hk s.toks
  have D : ZipApart (s.heap.objs.size + 4) (s.heap.objs.size + 2) (s.heap.objs.size + 3) s.heap.objs.size (s.heap.objs.size + 1) b1 b2 := by
    constructor <;> first | exact Nat.ne_of_lt (by (first | exact le0 (c1 _) (.a (.a (.v 0) (.n 2)) (.n 1)) (.a (.v 0) (.n 4)) | exact le0 (c1 _) (.a (.a (.v 0) (.n 3)) (.n 1)) (.a (.v 0) (.n 4)) | exact le0 (c1 _) (.a (.v 0) (.n 1)) (.a (.v 0) (.n 4)) | exact le0 (c1 _) (.a (.a (.v 0) (.n 1)) (.n 1)) (.a (.v 0) (.n 4)) | exact le0 (c1 _) (.a (.a (.v 0) (.n 2)) (.n 1)) (.a (.v 0) (.n 3)) | exact le0 (c1 _) (.a (.v 0) (.n 1)) (.a (.v 0) (.n 1)) | exact le1 (c2 _ _) (.a (.v 0) (.n 1)) (.v 1) (.a (.v 0) (.n 1)) (.a (.v 1) (.n 4)) hb1 | exact le1 (c2 _ _) (.a (.v 0) (.n 1)) (.v 1) (.a (.v 0) (.n 1)) (.a (.v 1) (.n 3)) hb1 | exact le1 (c2 _ _) (.a (.v 0) (.n 1)) (.v 1) (.a (.v 0) (.n 1)) (.v 1) hb1 | exact le1 (c2 _ _) (.a (.v 0) (.n 1)) (.v 1) (.a (.v 0) (.n 1)) (.a (.v 1) (.n 1)) hb1 | exact le1 (c2 _ _) (.a (.v 0) (.n 1)) (.v 1) (.a (.v 0) (.n 1)) (.a (.v 1) (.n 4)) hb2 | exact le1 (c2 _ _) (.a (.v 0) (.n 1)) (.v 1) (.a (.v 0) (.n 1)) (.a (.v 1) (.n 3)) hb2 | exact le1 (c2 _ _) (.a (.v 0) (.n 1)) (.v 1) (.a (.v 0) (.n 1)) (.v 1) hb2 | exact le1 (c2 _ _) (.a (.v 0) (.n 1)) (.v 1) (.a (.v 0) (.n 1)) (.a (.v 1) (.n 1)) hb2)) | exact (Nat.ne_of_lt (by (first | exact le0 (c1 _) (.a (.v 0) (.n 1)) (.a (.v 0) (.n 2)) | exact le0 (c1 _) (.a (.a (.v 0) (.n 1)) (.n 1)) (.a (.v 0) (.n 2)) | exact le0 (c1 _) (.a (.v 0) (.n 1)) (.a (.v 0) (.n 3)) | exact le0 (c1 _) (.a (.a (.v 0) (.n 1)) (.n 1)) (.a (.v 0) (.n 3))))).symm
  refine ItPostS.dyn ok ?_
  refine ⟨Φ, _, isTupT, _, _, _, zipV l l', rfl, x₂, iter_of_walksT (own := [s.heap.objs.size + 4, s.heap.objs.size + 2, s.heap.objs.size + 3, s.heap.objs.size, s.heap.objs.size + 1]) (items := zipV l l') (Φ₀ := Φ) ok
    (fun A a' => WalksT.zip2 a'.1 (s.heap.objs.size + 4) (s.heap.objs.size + 2) (s.heap.objs.size + 3) s.heap.objs.size (s.heap.objs.size + 1) b1 b2 D ys1.toArray ys2.toArray) ?_ ?_ ?_ ?_ ?_, ht,
    ⟨0, Nat.zero_le _, rfl, ⟨hz, hTI, ⟨_, _, hTO⟩, hi1, hi2, hl1.at fun o e => hk b1 o e, hl2.at fun o e => hk b2 o e⟩, .rfl' _, x₂.held, fun c hc => ?_⟩, fun c hc => ?_, (fun _ h => h.elim), h⟩
  · intro c hc hn
    simp at hc hn
    rcases hc with hc | hc | hc | hc | hc | hc | hc
    · exact absurd hc hn.1
    · exact absurd hc hn.2.1
    · exact absurd hc hn.2.2.1
    · exact absurd hc hn.2.2.2.1
    · exact absurd hc hn.2.2.2.2
    · rw [hc, h1]; rfl
    · rw [hc, h2]; rfl
  · intro c hc
    simp at hc ⊢
    rcases hc with hc | hc | hc | hc <;> simp [hc]
  · rintro j hh ⟨hz, hTI, ⟨a, b, hTO⟩, ⟨o1, ho1, _⟩, ⟨o2, ho2, _⟩, _⟩ c hc
    simp at hc
    rcases hc with rfl | rfl | rfl | rfl | rfl
    · rw [hz]; rfl
    · rw [hTI]; rfl
    · rw [hTO]; rfl
    · rw [ho1]; rfl
    · rw [ho2]; rfl
  · unfold zipV
    rw [List.length_map, List.length_zip, List.size_toArray, List.size_toArray, r1.length, r2.length]
  · rintro j vals hlt ⟨x, y, hx, hy, rfl⟩ Φ' le
    simp only [List.size_toArray, r1.length, r2.length] at hlt
    have hl1' : j < l.length := by lia
    have hl2' : j < l'.length := by lia
    obtain ⟨z1, hz1, rz1⟩ := r1.get (List.getElem?_eq_getElem hl1')
    obtain ⟨z2, hz2, rz2⟩ := r2.get (List.getElem?_eq_getElem hl2')
    have hx' : ys1[j]? = some x := by simpa using hx
    have hy' : ys2[j]? = some y := by simpa using hy
    rw [hx'] at hz1; cases hz1
    rw [hy'] at hz2; cases hz2
    refine ⟨[l[j], l'[j]], ?_, .cons (rz1.mono le) (.cons (rz2.mono le) .nil)⟩
    unfold zipV
    have hz : j < (l.zip l').length := by rw [List.length_zip]; omega
    rw [List.getElem?_map, List.getElem?_eq_getElem hz]
    simp
  · have : s.heap.objs.size ≤ c := by
      simp at hc
      rcases hc with rfl | rfl | rfl | rfl | rfl <;> first | exact Nat.le_add_right _ _ | exact Nat.le_refl _
    exact i.none (above_none this)
  · have : s.heap.objs.size ≤ c := by
      simp at hc
      rcases hc with rfl | rfl | rfl | rfl | rfl <;> first | exact Nat.le_add_right _ _ | exact Nat.le_refl _
    exact above_none this

theorem meth_dict {name : Str} {l : List (Str × Int)} {id : String} (slot : PySem.Slot "dict" name id) (hty : typeOf (.builtin id) = pure (.type "method_descriptor")) : Meth g d name (.dict l) (.builtin id) :=
  meth_of PySem.F.plainAttrs_dict slot hty fun Φ s x i r => by
    cases r with | dict h1 hd iv hq =>
      rename_i a o kvs
      have ho := i.held _ _ h1
      have hD : s.heap.DictOf (PySem.strKind g.prog g.w) a kvs := Heap.dictOf_iff.mpr ⟨o, ho, hd⟩
      exact ⟨hD.typeIs, fun a' e => by cases e; exact hD.mapOf.noDict a rfl⟩

theorem IntVals.at {l : List (Str × Int)} {kvs : List (Str × Value)} (h : IntVals l kvs) : ∀ {j : Nat} (hj : j < l.length), ∃ t, kvs[j]? = some (l[j].1, .int l[j].2 t) := by
  induction h with
  | nil => intro j hj; cases hj
  | @cons k i t l kvs _ ih =>
    intro j hj
    cases j with
    | zero => exact ⟨t, rfl⟩
    | succ j => obtain ⟨u, hu⟩ := ih (j := j) (by simpa using hj); exact ⟨u, by simpa using hu⟩

theorem call_values {target l} {K : List V → Prop} (h : K (l.map fun p => V.int p.2)) (ht : isPlainT target := by trivial) : ItCall g d target (.builtin "dict.values") [.dict l] K := fun A Φ s xs ok i r => by
  refine r.on1 fun _ r1 => ?_
  refine r1.onD fun a o kvs h1 hd iv hq => ?_
  have ho := i.held _ _ h1
  have hD : s.heap.DictOf (PySem.strKind g.prog g.w) a kvs := Heap.dictOf_iff.mpr ⟨o, ho, hd⟩
  obtain ⟨ep, hat⟩ := hD.dictAt
  refine call_meetsIn PySem.F.slot_dict_values hD.typeIs PySem.F.entry_dict_values (PySem.F.args_dict_values_1 _) (meets_dict_values _ a hq) ⟨⟨kvs, hD⟩, ?_⟩
  have x₁ := Ext.push' i { cls := .type "dict_values", data := .fields #[.ref a] } s.toks
  have i₁ := i.ext x₁
  generalize hR : s.heap.push { cls := .type "dict_values", data := .fields #[.ref a] } = H1 at *
  have hH : H1.get? s.heap.objs.size = some { cls := .type "dict_values", data := .fields #[.ref a] } := by rw [← hR]; exact Heap.get?_push_size _ rfl
  have hs1 : H1.objs.size = s.heap.objs.size + 1 := by rw [← hR]; exact Heap.size_push ..
  have hat1 : H1.DictAt (PySem.strKind g.prog g.w) a kvs ep := hat.keep x₁.kept
  refine wpAny_pyIter_values (s := { s with heap := H1 }) ⟨_, hH, rfl, rfl⟩ hat1 ?_
  have x₂ := Ext.push' i₁ { cls := .type "dict_valueiterator", data := .fields #[.ref a, .int 0 0, .int kvs.length 0, .int ep 0] } s.toks
  have ha : @LT.lt Nat _ a s.heap.objs.size := Heap.lt_size ho
  refine ItPostS.dyn ok ?_
  refine ⟨Φ, _, isPlainT, _, _, _, l.map (fun p => V.int p.2), rfl, Tr.ext x₁ x₂, iter_of_walks (own := [H1.objs.size]) (n := kvs.length) (items := l.map fun p => V.int p.2) (Φ₀ := Φ) (tg := isPlainT) ok
      (fun A a' => Walks.dictValues a'.1 H1.objs.size a (Nat.ne_of_lt (by exact le2 (c3 _ _ _) (.a (.v 1) (.n 1)) (.v 0) (.a (.v 2) (.n 1)) (.v 1) (.a (.v 2) (.n 1)) (.v 0) (Nat.le_of_eq hs1.symm) ha)) kvs ep) ?_ (fun c hc => hc) ?_ (by simp [iv.length]) ?_ ?_, ht,
    ⟨0, Nat.zero_le _, rfl, ⟨⟨_, Heap.get?_push_size _ rfl, rfl, rfl⟩, hat1.push _⟩, .rfl' _, (Tr.ext x₁ x₂).held, fun c hc => ?_⟩, fun c hc => ?_, (fun _ h => h.elim), h⟩
  · intro c hc hn
    simp at hc hn
    rcases hc with hc | hc
    · exact absurd hc hn
    · rw [hc, h1]; rfl
  · rintro j hh ⟨⟨o, ho, _⟩, _⟩ c hc
    rw [List.mem_singleton.mp hc, ho]; rfl
  · rintro j v hlt ⟨k, hk⟩ Φ' le
    have hlt' : j < l.length := by rw [← iv.length]; exact hlt
    obtain ⟨t, ht'⟩ := iv.at hlt'
    rw [hk] at ht'; cases ht'
    exact ⟨V.int l[j].2, by simp [hlt'], .int _ _⟩
  · rintro t htt A' j s' v ⟨⟨o, ho, hc, hd⟩, _⟩
    exact letGo_plain htt ho hc hd (by decide)
  · rw [List.mem_singleton.mp hc]; exact i.none (above_none (by exact le1 (c2 _ _) (.a (.v 1) (.n 1)) (.v 0) (.v 1) (.v 0) (Nat.le_of_eq hs1.symm)))
  · rw [List.mem_singleton.mp hc]; exact above_none (by exact le1 (c2 _ _) (.a (.v 1) (.n 1)) (.v 0) (.v 1) (.v 0) (Nat.le_of_eq hs1.symm))

noncomputable def itemsV (l : List (Str × Int)) : List V := l.map fun p => V.tup [.str p.1, .int p.2]
noncomputable def ItemSt (g : Gd) (I a : Addr) (n : Nat) (kvs : List (Str × Value)) (ep : Nat) (i : Nat) (h : Heap) : Prop := ∃ ok ov, IsItemIter h I a i n ep ok ov ∧ h.DictAt (PySem.strKind g.prog g.w) a kvs ep
theorem iter_items {I a : Addr} {o : Obj} {l : List (Str × Int)} {kvs : List (Str × Value)} {ep : Nat} {Φ₀ : FM} (hI : a ≠ I) (h1 : Φ₀ a = some o) (iv : IntVals l kvs) :
    Iter g d I isTupT (fun b => b = I) no1 (IxI (itemsV l) (fun b => b = I) Φ₀ (ItemSt g I a kvs.length kvs ep)) := iter_ix
  (fun i h h' ⟨ok, ov, hit, hat⟩ hk hf => ⟨ok, ov, hk I rfl _ hit, hat.at fun o' e => (Option.some.inj ((hf a o h1).1.symm.trans e)) ▸ (hf a o h1).2⟩)
  (fun i h ⟨ok, ov, hit, hat⟩ b hb => by rw [hb, hit]; rfl)
  (fun A v i Φ s target ak ht inv hlt hv ⟨ok, ov, hit, hat⟩ le ho => by
    have hlt' : i < l.length := by unfold itemsV at hlt; rw [List.length_map] at hlt; exact hlt
    obtain ⟨t, htk⟩ := iv.at hlt'
    cases target <;> first | exact ht.elim | skip
    rename_i elts k pos
    refine wpAny_pyNext_items_item hit hat htk fun key h' hkey heo hT hz hk => ⟨_, rfl, wpAny_letOwnedTupleGo_items heo fun h'' hit'' hs'' => ?_⟩
    have hTn : (s.heap.objs.size : Nat) ≠ I := (Nat.ne_of_lt (Heap.lt_size hit)).symm
    have hTo : h''.get? s.heap.objs.size = some { cls := .type "tuple", data := .seq #[key, .int l[i].2 t] } := (hs''.2 _ hTn).trans hT
    have tr : Tr (fun b => b = I) no1 Φ s Φ { s with heap := h'' } := Tr.keeps inv (fun b o q e => (hs''.2 b q).trans (hk b o q e)) ho s.toks
    have tr' := tr.freeze (g := g) (inv.ext tr) hTo (inv.none (size_none _)) (.inl (size_none _))
    obtain ⟨tk, rfl⟩ := Value.isStrOf_shape hkey
    have e : v = V.tup [.str l[i].1, .int l[i].2] := by
      unfold itemsV at hv
      rw [List.getElem?_map, List.getElem?_eq_getElem hlt'] at hv
      exact (Option.some.inj hv).symm
    exact ⟨Φ.put s.heap.objs.size _, tr', e ▸ .tup (xs := [.str l[i].1 tk, .int l[i].2 t]) (FM.put_self ..) rfl rfl (.cons (.str _ _) (.cons (.int _ _) .nil)), ⟨_, _, hit'', (hat.at fun o' e => hk a o' hI e).extBut hs''.extBut hI⟩, fun b hb => (if_neg fun q => hTn (q.symm.trans hb)).trans (ho b hb)⟩)
  (fun A Φ s ak inv ⟨ok, ov, hit, hat⟩ ho => wpAny_pyNext_items_end ak.1 hit hat (by unfold itemsV; rw [List.length_map, ← iv.length]; exact List.getElem?_eq_none (Nat.le_refl _)) fun h' he => ⟨rfl, Φ, Tr.keeps inv (fun b o q e => he b o q e) ho s.toks⟩)
  (fun A i s ak ⟨ok, ov, hit, hat⟩ => kcp_self hit ⟨rfl, rfl⟩)
theorem call_items {target l} {K : List V → Prop} (h : K (itemsV l)) (ht : isTupT target := by trivial) : ItCall g d target (.builtin "dict.items") [.dict l] K := fun A Φ s xs ok i r => by
  refine r.on1 fun _ r1 => ?_
  refine r1.onD fun a o kvs h1 hd iv hq => ?_
  have ho := i.held _ _ h1
  have hD : s.heap.DictOf (PySem.strKind g.prog g.w) a kvs := Heap.dictOf_iff.mpr ⟨o, ho, hd⟩
  obtain ⟨ep, hat⟩ := hD.dictAt
  refine call_meetsIn PySem.F.slot_dict_items hD.typeIs PySem.F.entry_dict_items (PySem.F.args_dict_items_1 _) (meets_dict_items _ a hq) ⟨⟨kvs, hD⟩, ?_⟩
  have x₁ := Ext.push' i { cls := .type "dict_items", data := .fields #[.ref a] } s.toks
  have i₁ := i.ext x₁
  generalize hR : s.heap.push { cls := .type "dict_items", data := .fields #[.ref a] } = H1 at *
  have hH : H1.get? s.heap.objs.size = some { cls := .type "dict_items", data := .fields #[.ref a] } := by rw [← hR]; exact Heap.get?_push_size _ rfl
  have hs1 : H1.objs.size = s.heap.objs.size + 1 := by rw [← hR]; exact Heap.size_push ..
  have hat1 : H1.DictAt (PySem.strKind g.prog g.w) a kvs ep := hat.keep x₁.kept
  refine wpAny_pyIter_items (s := { s with heap := H1 }) ⟨_, hH, rfl, rfl⟩ hat1 ?_
  have x₂ := Ext.push' i₁ { cls := .type "dict_itemiterator", data := .fields #[.none, .bool false, .ref a, .int 0 0, .int kvs.length 0, .int ep 0, .none, .none] } s.toks
  have ha : @LT.lt Nat _ a s.heap.objs.size := Heap.lt_size ho
  refine ItPostS.dyn ok ?_
  refine ⟨Φ, _, isTupT, _, _, _, itemsV l, rfl, Tr.ext x₁ x₂, iter_items (ep := ep) (Φ₀ := Φ) (Nat.ne_of_lt (by show @LT.lt Nat _ a H1.objs.size; exact le2 (c3 _ _ _) (.a (.v 1) (.n 1)) (.v 0) (.a (.v 2) (.n 1)) (.v 1) (.a (.v 2) (.n 1)) (.v 0) (Nat.le_of_eq hs1.symm) ha)) h1 iv, ht,
    ⟨0, Nat.zero_le _, rfl, ⟨_, _, Heap.get?_push_size _ rfl, hat1.push _⟩, .rfl' _, (Tr.ext x₁ x₂).held, fun c hc => ?_⟩, fun c hc => ?_, (fun _ h => h.elim), h⟩
  · rw [hc]; exact i.none (above_none (by show s.heap.objs.size ≤ H1.objs.size; exact le1 (c2 _ _) (.a (.v 1) (.n 1)) (.v 0) (.v 1) (.v 0) (Nat.le_of_eq hs1.symm)))
  · rw [hc]; exact above_none (by show s.heap.objs.size ≤ H1.objs.size; exact le1 (c2 _ _) (.a (.v 1) (.n 1)) (.v 0) (.v 1) (.v 0) (Nat.le_of_eq hs1.symm))
end
end Mine
end

section
set_option maxRecDepth 100000
open PySem PySem.Calls PyProof.Rows PySem.W PySem.Builtin PySem.Builtin.Str
namespace Mine

section
variable {g : Gd} {d : Nat} {env : Env} {σ : Sg} {O : List Addr} {Φ : FM} {s : Shared}

inductive PostNs (g : Gd) (Φ : FM) (s : Shared) (K : List Slot → Prop) (xs : List Value) (s' : Shared) : Prop
  | mk (Φ' : FM) (ps : List (Slot × Value)) : Ext Φ s Φ' s' → xs = ps.map (·.2) → (∀ p ∈ ps, SReal g Φ' s'.heap p.1 p.2) → (∀ p ∈ ps, p.1.isOwn = true → ∀ a, p.2 = .ref a → s.heap.get? a = none) → (ps.Pairwise fun p q => p.1.isOwn = true → q.1.isOwn = true → p.2 ≠ q.2) → K (ps.map (·.1)) → PostNs g Φ s K xs s'
noncomputable def EvNs (g : Gd) (d : Nat) (env : Env) (σ : Sg) (es : List Expr) (K : List Slot → Prop) : Prop :=
  ∀ A Φ s pos, AOk d A → Rd g env σ Φ s → wpAny (model g.prog g.w) A (spliced (backTo pos (starEach es env))) (PostNs g Φ s K) bot s
theorem evns_nil {K : List Slot → Prop} (h : K []) : EvNs g d env σ [] K := fun A Φ s pos _ R => spliced_nil ⟨Φ, [], .refl R.held, rfl, fun _ h => (nomatch h), fun _ h => (nomatch h), .nil, h⟩
theorem evns_cons {e es} {K : List Slot → Prop} (h : EvN g d env σ e fun v => EvNs g d env σ es fun vs => K (v :: vs)) (he : starEach (e :: es) env = (false, eval e env) :: starEach es env := by with_unfolding_all rfl) : EvNs g d env σ (e :: es) K := fun A Φ s pos a R => by
  rw [he]
  refine spliced_cons (wpAny_mono (h A Φ s a R) (fun x s₁ ⟨Φ₁, sl, e₁, r₁, n₁, k₁⟩ => wpAny_mono (k₁ A Φ₁ s₁ pos a (R.ext e₁)) (fun xs s₂ ⟨Φ₂, ps, e₂, hx, r₂, n₂, p₂, k₂⟩ => ?_) fun _ _ f => f) fun _ _ f => f)
  subst hx
  refine ⟨Φ₂, (sl, x) :: ps, Tr.ext e₁ e₂, rfl, fun p hp => ?_, fun p hp o a e => ?_, List.pairwise_cons.mpr ⟨fun q hq o1 o2 e => ?_, p₂⟩, k₂⟩
  · rcases List.mem_cons.mp hp with rfl | hp
    · exact r₁.keeps e₂.mono e₂.kept (Ext.fresh e₂)
    · exact r₂ p hp
  · rcases List.mem_cons.mp hp with rfl | hp
    · exact n₁ o a e
    · have := n₂ p hp o a e
      cases q : s.heap.get? a with
      | none => rfl
      | some o' => rw [e₁.kept _ _ q] at this; cases this
  · obtain ⟨b, hb, _, hs⟩ := r₁.own_ref o1
    have hb : x = .ref b := hb
    have hq2 : q.2 = .ref b := e.symm.trans hb
    have := n₂ q hq o2 b hq2
    rw [this] at hs; cases hs

theorem St.pend {Φ₁ s₁ ps} (S : St g env σ O Φ s) (e₁ : Ext Φ s Φ₁ s₁) (hr : ∀ p ∈ ps, SReal g Φ₁ s₁.heap p.1 p.2) (hn : ∀ p ∈ ps, p.1.isOwn = true → ∀ a, p.2 = .ref a → s.heap.get? a = none)
    (ha : ps.Pairwise fun p q => p.1.isOwn = true → q.1.isOwn = true → p.2 ≠ q.2) : ∃ O', (∀ a ∈ O', a ∈ O ∨ s.heap.get? a = none) ∧ (∀ a ∈ O, a ∈ O') ∧ St g env σ O' Φ₁ s₁ ∧ Pend g env σ O' Φ₁ s₁ ps := by
  have S₁ := S.ext e₁
  have main : ∀ qs : List (Slot × Value), (∀ p ∈ qs, p ∈ ps) → ∃ O', (∀ a ∈ O', a ∈ O ∨ s.heap.get? a = none) ∧ (∀ a ∈ O, a ∈ O') ∧ St g env σ O' Φ₁ s₁ ∧ ∀ p ∈ qs, p.1.isOwn = true → ∀ a, p.2 = .ref a → a ∈ O' := by
    intro qs
    induction qs with
    | nil => exact fun _ => ⟨O, fun _ h => .inl h, fun _ h => h, S₁, fun _ h => (nomatch h)⟩
    | cons q qs ih =>
      intro hq
      obtain ⟨O', h1, h2, h3, h4⟩ := ih fun p hp => hq p (.tail _ hp)
      by_cases ho : q.1.isOwn = true
      · obtain ⟨a, e, hf, hs⟩ := (hr q (hq q (.head _))).own_ref ho
        have hna := hn q (hq q (.head _)) ho a e
        refine ⟨a :: O', fun b hb => ?_, fun b hb => .tail _ (h2 b hb), S.addOwn' h3 e₁ hna hf hs, fun p hp o b e' => ?_⟩
        · rcases List.mem_cons.mp hb with rfl | hb
          · exact .inr hna
          · exact h1 b hb
        · rcases List.mem_cons.mp hp with rfl | hp
          · rw [e] at e'; cases e'; exact .head _
          · exact .tail _ (h4 p hp o b e')
      · refine ⟨O', h1, h2, h3, fun p hp o b e' => ?_⟩
        rcases List.mem_cons.mp hp with rfl | hp
        · exact absurd o ho
        · exact h4 p hp o b e'
  obtain ⟨O', h1, h2, h3, h4⟩ := main ps fun _ h => h
  refine ⟨O', h1, h2, h3, hr, fun p hp o a e => ⟨h4 p hp o a e, fun y sl' hy ho H => ?_⟩, ha⟩
  obtain ⟨v, H0, R0, hO0⟩ := S.vars y sl' hy
  have : v = .ref a := Holds.det (H0.keeps e₁.kept) H
  subst this
  have hs := (S.ow a (hO0 ho a rfl)).2.1
  rw [hn p hp o a e] at hs; cases hs

theorem Pend.ext {ps Φ' s'} (P : Pend g env σ O Φ s ps) (S : St g env σ O Φ s) (e : Ext Φ s Φ' s') : Pend g env σ O Φ' s' ps :=
  ⟨fun p hp => (P.real p hp).keeps e.mono (Ext.kept e) (Ext.fresh e), fun p hp o b q => ⟨(P.own p hp o b q).1, fun y sl' hy hyo H => by
    obtain ⟨v, H0, _⟩ := S.vars y sl' hy
    exact (P.own p hp o b q).2 y sl' hy hyo (Holds.det (H0.keeps (Ext.kept e)) H ▸ H0)⟩, P.apart⟩
/-- a tuple of values, some of the frame's own, into names -/
theorem ex_tup_new {elts k tpos es k' vpos pos xs} {K : Fl → Sg → Prop} (h : EvNs g d env σ es fun sls => sls.length = xs.length ∧ K .next (bindS xs sls σ)) (hn : names? elts = some xs) (hv : (xs.all (isVar env)) = true) (hsz : xs.length ≤ 1000)
    (hs : swapsWithSole [.Tuple elts k tpos] (.Tuple es k' vpos) pos.line env = pure false := by with_unfolding_all rfl)
    (hw : swappedStores [.Tuple elts k tpos] (.Tuple es k' vpos) env = pure none := by with_unfolding_all rfl) : Ex g d env σ (.Assign [.Tuple elts k tpos] (.Tuple es k' vpos) pos) K := fun A Φ s O a S => by
  have hm : ∀ {α : Type} {t : Sem α}, t = t := fun {_ _} => rfl
  refine Assign_Tuple ?_ hs hw
  refine Tuple_ (wpAny_mono (h A Φ s vpos a S.rd) (fun ys s₁ ⟨Φ₁, ps, e₁, hx, hr, hf, ha, hl, hk⟩ => ?_) fun _ _ f => f)
  subst hx
  have hlen : xs.length = ps.length := by simpa using hl.symm
  have hszl : sizeLine = 2 ^ 24 := rfl
  refine wpAny_newTuple ?_ (by rw [List.length_map]; exact le2 (c2 _ _) (.v 0) (.n 1000) (.v 1) (.v 0) (.v 1) (.n 16777216) hsz (Nat.le_of_eq hlen.symm))
  obtain ⟨O', ho1, ho2, S₁, P₁⟩ := S.pend e₁ hr hf ha
  have e₂ := Ext.push' S₁.toInv (tupO (ps.map (·.2)) 0) s₁.toks
  have np := names_plain (env := env) (names_of hn)
  refine wpAny_assign_Tuple a.1 (t := s₁.heap.objs.size) (items := (ps.map (·.2)).toArray) ⟨_, Heap.get?_push_size _ rfl, rfl, 0, rfl⟩ (by rw [np.1, List.size_toArray, List.length_map, hlen]) np.2 fun h' hx => ?_
  have e₃ : Ext Φ₁ { s₁ with heap := s₁.heap.push (tupO (ps.map (·.2)) 0) } Φ₁ { s₁ with heap := h' } := Ext.keeps (S₁.toInv.ext e₂) (fun a o e => hx a o (Nat.ne_of_lt (Heap.lt_size e)) e) s₁.toks
  have e₂₃ := Tr.ext e₂ e₃
  have S₃ := S₁.ext e₂₃
  have P₃ := P₁.ext S₁ e₂₃
  have := Pend.stores (A := A) (W := Wr env O') (fits_names (names_of hn)) hlen (fun x hx => ⟨List.all_eq_true.mp hv x hx, fun a w => wx_wr a w⟩) S₃ P₃
  refine wpAny_mono this (fun _ s₂ h₂ => ?_) fun _ _ f => f
  exact ⟨Φ₁, _, O', .next, ((Tr.of_ext e₁).ext e₂₃).trans h₂.1 (wr_osub ho1) (fun _ q => q.elim), ho1, h₂.2, trivial, hk⟩
theorem unpack_n {A : Around} {E : Value → Shared → Prop} {n : Nat} {t : Addr} {items : Array Value} {Q : List Value → Shared → Prop} (hh : A.handled = none) (ht : IsTup s.heap t items) (hn : n = items.size)
    (hQ : ∀ h', Heap.ExtBut s.heap.objs.size s.heap h' → Q items.toList { s with heap := h' }) : wpAny (model g.prog g.w) A (unpackItems (.ref t) n none) Q E s := by
  subst hn
  exact unpackItems_tuple hh ht hQ
theorem ex_tup_new_swapped {elts k tpos es k' vpos pos xs} {K : Fl → Sg → Prop} (h : EvNs g d env σ es fun sls => sls.length = xs.length ∧ K .next (bindS xs.reverse sls.reverse σ)) (hv : (xs.all (isVar env)) = true) (hsz : xs.length ≤ 1000)
    (hs : swapsWithSole [.Tuple elts k tpos] (.Tuple es k' vpos) pos.line env = pure false := by with_unfolding_all rfl)
    (hw : swappedStores [.Tuple elts k tpos] (.Tuple es k' vpos) env = pure (some xs) := by with_unfolding_all rfl) : Ex g d env σ (.Assign [.Tuple elts k tpos] (.Tuple es k' vpos) pos) K := fun A Φ s O a S => by
  refine Assign_Tuple_swapped ?_ hs hw
  refine Tuple_ (wpAny_mono (h A Φ s vpos a S.rd) (fun ys s₁ ⟨Φ₁, ps, e₁, hx, hr, hf, ha, hl, hk⟩ => ?_) fun _ _ f => f)
  subst hx
  have hlen : xs.length = ps.length := by simpa using hl.symm
  have hszl : sizeLine = 2 ^ 24 := rfl
  refine wpAny_newTuple ?_ (by rw [List.length_map]; exact le2 (c2 _ _) (.v 0) (.n 1000) (.v 1) (.v 0) (.v 1) (.n 16777216) hsz (Nat.le_of_eq hlen.symm))
  obtain ⟨O', ho1, ho2, S₁, P₁⟩ := S.pend e₁ hr hf ha
  have e₂ := Ext.push' S₁.toInv (tupO (ps.map (·.2)) 0) s₁.toks
  have hsize : xs.length = (ps.map (·.2)).toArray.size := by rw [List.size_toArray, List.length_map, hlen]
  refine unpack_n a.1 (t := s₁.heap.objs.size) (items := (ps.map (·.2)).toArray) ⟨_, Heap.get?_push_size _ rfl, rfl, 0, rfl⟩ hsize fun h' hx => ?_
  have e₃ : Ext Φ₁ { s₁ with heap := s₁.heap.push (tupO (ps.map (·.2)) 0) } Φ₁ { s₁ with heap := h' } := Ext.keeps (S₁.toInv.ext e₂) (fun a o e => hx a o (Nat.ne_of_lt (Heap.lt_size e)) e) s₁.toks
  have e₂₃ := Tr.ext e₂ e₃
  have S₃ := S₁.ext e₂₃
  have P₃ := P₁.ext S₁ e₂₃
  have := Pend.stores (A := A) (W := Wr env O') (fits_bind xs.reverse) (by rw [List.length_reverse, List.length_reverse, hlen]) (fun x hx => ⟨List.all_eq_true.mp hv x (List.mem_reverse.mp hx), fun a w => wx_wr a w⟩) S₃ P₃.rev
  have hrev : ps.reverse.map (·.2) = (ps.map (·.2)).reverse := List.map_reverse ..
  have hrev1 : ps.reverse.map (·.1) = (ps.map (·.1)).reverse := List.map_reverse ..
  rw [hrev, hrev1] at this
  refine wpAny_mono this (fun _ s₂ h₂ => ?_) fun _ _ f => f
  exact ⟨Φ₁, _, O', .next, ((Tr.of_ext e₁).ext e₂₃).trans h₂.1 (wr_osub ho1) (fun _ q => q.elim), ho1, h₂.2, trivial, hk⟩
/-- a value unpacked into names -/
theorem ex_unpack {elts k tpos value pos} {K : Fl → Sg → Prop} (h : Ev g d env σ value fun v => As g d env σ (.Tuple elts k tpos) v fun σ' => K .next σ')
    (hs : swapsWithSole [.Tuple elts k tpos] value pos.line env = pure false := by with_unfolding_all rfl)
    (hw : swappedStores [.Tuple elts k tpos] value env = pure none := by with_unfolding_all rfl) : Ex g d env σ (.Assign [.Tuple elts k tpos] value pos) K := fun A Φ s O a S => by
  refine Assign_Tuple (wpAny_mono (h A Φ s a S.rd) (fun x s₁ ⟨Φ₁, v, e₁, r₁, k₁⟩ => ?_) fun _ _ f => f) hs hw
  refine wpAny_mono (k₁ A Φ₁ s₁ O x a (S.ext e₁) r₁) (fun _ s₂ ⟨Φ₂, σ₂, t₂, S₂, k₂⟩ => ?_) fun _ _ f => f
  exact spost_end .next (Tr.trans (Tr.of_ext e₁) t₂ (fun _ q => .inl q) fun _ q => .inl q) S₂ trivial k₂
end
end Mine
end

section
set_option maxRecDepth 100000
open PySem PySem.Calls PyProof.Rows PySem.W PySem.Builtin PySem.Builtin.Str
namespace Mine

section
variable {g : Gd} {d : Nat} {env : Env} {σ : Sg} {O : List Addr} {Φ : FM} {s : Shared}

theorem ex_set_dict {x px i p value pos l} {K : Fl → Sg → Prop} (hl : σ.lookup x = some (.ownd l)) (hz : l.length ≤ 1000)
    (h : Ev g d env σ value fun v => Ev g d env σ i fun u => ∃ k j, u = .str k ∧ v = .int j ∧ K .next ((x, .ownd (dput l k j)) :: σ))
    (hs : swapsWith value (some (.Subscript (.Name x px) i p)) pos.line env = pure false := by with_unfolding_all rfl)
    (hd : (x == ("__debug__" : Str)) = false := by decide) (hn : (x == ("__classdict__" : Str)) = false := by decide) : Ex g d env σ (.Assign [.Subscript (.Name x px) i p] value pos) K := fun A Φ s O a S => by
  obtain ⟨b, o, kvs, H, hbO, hf, ho, hdo, iv, hq⟩ := S.ownDict hl
  refine wpAny_Assign_Subscript (wpAny_mono (h A Φ s a S.rd) (fun v s₁ ⟨Φ₁, vv, e₁, r₁, k₁⟩ => ?_) fun _ _ f => f) hs
  refine Holds.load (h := s₁.heap) S.ok (H.keeps e₁.kept) ?_ hd hn
  refine wpAny_mono (k₁ A Φ₁ s₁ a (S.rd.ext e₁)) (fun u s₂ ⟨Φ₂, uu, e₂, r₂, k, j, hu, hv, k₂⟩ => ?_) fun _ _ f => f
  subst hu hv
  obtain ⟨tk, rfl⟩ := real_str r₂
  obtain ⟨tj, rfl⟩ := real_int r₁
  have e := Tr.ext e₁ e₂
  have S₂ := S.ext e
  have ho₂ : s₂.heap.get? b = some o := Ext.kept e _ _ ho
  have hf₂ : Φ₂ b = none := Ext.fresh e b hf (by rw [ho]; rfl)
  have hszl : sizeLine = 2 ^ 24 := rfl
  refine wpAny_setItem_pairs (knd := PySem.strKind g.prog g.w) (isStr k tk) (Heap.dictOf_iff.mpr ⟨o, ho₂, hdo⟩) (fun h' hd' hs' => ?_) (by rw [iv.length]; exact le1 (c1 _) (.v 0) (.n 1000) (.v 0) (.n 16777216) hz)
  obtain ⟨o', ho', hdo'⟩ := Heap.dictOf_iff.mp hd'
  obtain ⟨S₃, t₃⟩ := S₂.mutate (sl' := .ownd (dput l k j)) hl rfl (H.keeps (Ext.kept e)) hbO hs' rfl ⟨b, o', _, rfl, hf₂, ho', hdo', iv.put k j tj, hq⟩ (s₂.toks + 1)
  exact ⟨Φ₂, _, O, .next, Tr.trans (Tr.of_ext e) t₃ (fun _ q => .inl q) fun _ q => .inl q, fun _ q => .inl q, S₃, trivial, k₂⟩

theorem ex_aug_dict {x px i p op value pos l} {K : Fl → Sg → Prop} (hl : σ.lookup x = some (.ownd l)) (hz : l.length ≤ 1000)
    (h : Ev g d env σ i fun u => ∃ k old, u = .str k ∧ dget l k = some old ∧ Ev g d env σ value fun v => InpOk g d op (.int old) v fun r => ∃ j, r = .int j ∧ K .next ((x, .ownd (dput l k j)) :: σ))
    (hi : ∀ ov iv new, augStore i ov iv new = (do holding [new, ov, iv] (setItem ov iv new); release [new, ov, iv] []; pure .next) := by intros; rfl)
    (hd : (x == ("__debug__" : Str)) = false := by decide) (hn : (x == ("__classdict__" : Str)) = false := by decide) : Ex g d env σ (.AugAssign (.Subscript (.Name x px) i p) op value pos) K := fun A Φ s O a S => by
  obtain ⟨b, o, kvs, H, hbO, hf, ho, hdo, iv, hq⟩ := S.ownDict hl
  refine wpAny_AugAssign_SubscriptAny (Holds.load (h := s.heap) S.ok H ?_ hd hn) hi
  refine wpAny_mono (h A Φ s a S.rd) (fun u s₁ ⟨Φ₁, uu, e₁, r₁, k, old, hu, hold, k₁⟩ => ?_) fun _ _ f => f
  subst hu
  obtain ⟨tk, rfl⟩ := real_str r₁
  have ho₁ : s₁.heap.get? b = some o := e₁.kept _ _ ho
  have hD₁ : s₁.heap.DictOf (PySem.strKind g.prog g.w) b kvs := Heap.dictOf_iff.mpr ⟨o, ho₁, hdo⟩
  obtain ⟨ti, hva⟩ : ∃ t, valueAt kvs k = some (.int old t) := by
    rcases iv.get k with ⟨q, _⟩ | ⟨i', t, q1, q2⟩
    · rw [hold] at q; cases q
    · rw [hold] at q1; cases q1; exact ⟨t, q2⟩
  refine wpAny_getItem_of (isStr k tk) hD₁.mapOf hva ?_
  have e₂ : Ext Φ₁ s₁ Φ₁ { s₁ with toks := s₁.toks + 1 } := .tok (S.ext e₁).toInv _
  have S₂ := (S.ext e₁).ext e₂
  refine wpAny_mono (k₁ A Φ₁ _ a S₂.rd) (fun v s₃ ⟨Φ₃, vv, e₃, r₃, k₃⟩ => ?_) fun _ _ f => f
  have S₃ := S₂.ext e₃
  refine wpAny_mono (k₃ A Φ₃ s₃ _ v a S₃.toInv (.int old ti) r₃ : Wp ..) (fun r s₄ ⟨Φ₄, rr, e₄, r₄, j, hj, k₄⟩ => ?_) fun _ _ f => f
  subst hj
  obtain ⟨tj, rfl⟩ := real_int r₄
  have e := ((Tr.ext e₁ e₂).ext e₃).ext e₄
  have S₄ := S.ext e
  have ho₄ : s₄.heap.get? b = some o := Ext.kept e _ _ ho
  have hf₄ : Φ₄ b = none := Ext.fresh e b hf (by rw [ho]; rfl)
  have hszl : sizeLine = 2 ^ 24 := rfl
  refine wpAny_setItem_pairs (knd := PySem.strKind g.prog g.w) (isStr k tk) (Heap.dictOf_iff.mpr ⟨o, ho₄, hdo⟩) (fun h' hd' hs' => ?_) (by rw [iv.length]; exact le1 (c1 _) (.v 0) (.n 1000) (.v 0) (.n 16777216) hz)
  obtain ⟨o', ho', hdo'⟩ := Heap.dictOf_iff.mp hd'
  obtain ⟨S₅, t₅⟩ := S₄.mutate (sl' := .ownd (dput l k j)) hl rfl (H.keeps (Ext.kept e)) hbO hs' rfl ⟨b, o', _, rfl, hf₄, ho', hdo', iv.put k j tj, hq⟩ (s₄.toks + 1)
  exact ⟨Φ₄, _, O, .next, Tr.trans (Tr.of_ext e) t₅ (fun _ q => .inl q) fun _ q => .inl q, fun _ q => .inl q, S₅, trivial, k₄⟩

theorem setItem_exact {A : Around} {E : Value → Shared → Prop} {l : Addr} {xs : List Value} {n : Nat} {k : Int} {t : Tok} {v : Value} {Q : Unit → Shared → Prop} (ho : s.heap.get? l = some (lstO xs n))
    (h0 : 0 ≤ k) (hfit : k < 2 ^ 63) (hn : k < xs.length)
    (hQ : ∀ h' n', h'.get? l = some (lstO (xs.set k.toNat v) n') → Heap.SameBut l s.heap h' → Q () { s with heap := h' }) :
    wpAny (model g.prog g.w) A (setItem (.ref l) (.int k t) v) Q E s := by
  have hl : s.heap.IsList l xs.toArray := ⟨_, ho, rfl, n, rfl⟩
  unfold setItem
  try with_reducible refine wpAny_holding ?_
  first | refine wpAny_bind (wpAny_pure ?_) | skip
  refine wpAny_bind (wpAny_sequenceKey hl.typeIs (by decide) ?_)
  refine wpAny_bind (wpAny_callSpecial?_slot (name := Str.ofString "__setitem__") hl.typeIs slot_list_setitem
    (wpAny_call_entry slot_list_setitem hl.typeIs entry_list_setitem ?_ (args_list_setitem _ _ _)))
  show wpAny _ _ (Builtin.List.listSubscript? (.int k t) >>= _) _ _ s
  refine wpAny_bind (wpAny_listSubscript_int (fitsIndex_of h0 hfit) ?_)
  clear hfit
  obtain ⟨j, rfl⟩ := Int.eq_ofNat_of_zero_le h0
  have hj : j < xs.toArray.size := by rw [List.size_toArray]; omega
  have hx' : xs.toArray[j]? = some xs.toArray[j] := Array.getElem?_eq_getElem hj
  show wpAny _ _ ((seqItemAt l j >>= fun r => pure (r.map (j, ·))) >>= _) _ _ s
  refine wpAny_bind (wpAny_bind (wpAny_seqItemAt ho rfl (wpAny_pure ?_)))
  rw [hx']
  show wpAny _ _ (setSeqItemAt l j v >>= _) _ _ s
  have hfin : ∃ n', (s.heap.update l (Obj.mapSeq (·.setIfInBounds j v))).get? l = some (lstO (xs.set j v) n') := by
    have hu := IsL.update (h := s.heap) (l := l) (items := xs.toArray) (n := n) ho (fun x => x.setIfInBounds j v)
    have he : xs.toArray.setIfInBounds j v = (xs.set j v).toArray := by simp
    exact ⟨_, hu.trans (by rw [he])⟩
  obtain ⟨n', hfin⟩ := hfin
  refine wpAny_bind (wpAny_setSeqItemAt ho rfl ?_)
  first
    | exact wpAny_bind (wpAny_pure (wpAny_pure ⟨.none, rfl, wpAny_pure (hQ _ n' hfin (Heap.SameBut.update ..))⟩))
    | exact wpAny_pure ⟨.none, rfl, wpAny_pure (hQ _ n' hfin (Heap.SameBut.update ..))⟩
theorem reals_set {l : List V} {xs : List Value} {v : V} {x : Value} (r : Reals g Φ l xs) (rv : Real g Φ v x) : ∀ j, Reals g Φ (l.set j v) (xs.set j x) := by
  induction l generalizing xs with
  | nil => cases r; intro j; exact .nil
  | cons u l ih =>
    cases r with | cons r1 r2 =>
      intro j
      cases j with
      | zero => exact .cons rv r2
      | succ j => exact .cons r1 (ih r2 j)
theorem ex_aug_list {x px i p op value pos l} {K : Fl → Sg → Prop} (hl : σ.lookup x = some (.own l)) (hz : l.length ≤ 1000)
    (h : Ev g d env σ i fun u => ∃ (k : Nat) (old : V), u = .int k ∧ l[k]? = some old ∧ Ev g d env σ value fun v => InpOk g d op old v fun r => K .next ((x, .own (l.set k r)) :: σ))
    (hi : ∀ ov iv new, augStore i ov iv new = (do holding [new, ov, iv] (setItem ov iv new); release [new, ov, iv] []; pure .next) := by intros; rfl)
    (hd : (x == ("__debug__" : Str)) = false := by decide) (hn : (x == ("__classdict__" : Str)) = false := by decide) : Ex g d env σ (.AugAssign (.Subscript (.Name x px) i p) op value pos) K := fun A Φ s O a S => by
  obtain ⟨b, xs, n, H, hbO, hf, ho, rl⟩ := S.ownList hl
  refine wpAny_AugAssign_SubscriptAny (Holds.load (h := s.heap) S.ok H ?_ hd hn) hi
  refine wpAny_mono (h A Φ s a S.rd) (fun u s₁ ⟨Φ₁, uu, e₁, r₁, k, old, hu, hold, k₁⟩ => ?_) fun _ _ f => f
  subst hu
  obtain ⟨tk, rfl⟩ := real_int r₁
  have ho₁ : s₁.heap.get? b = some (lstO xs n) := e₁.kept _ _ ho
  have hlt := (List.getElem?_eq_some_iff.mp hold).1
  obtain ⟨z, hz', rz⟩ := (rl.mono e₁.mono).get hold
  refine wpAny_getItem_list (items := xs.toArray) ⟨_, ho₁, rfl, n, rfl⟩ (by lia) (by lia) (by simpa using hz') ?_
  have S₁ := S.ext e₁
  refine wpAny_mono (k₁ A Φ₁ _ a S₁.rd) (fun v s₃ ⟨Φ₃, vv, e₃, r₃, k₃⟩ => ?_) fun _ _ f => f
  have S₃ := S₁.ext e₃
  refine wpAny_mono (k₃ A Φ₃ s₃ _ v a S₃.toInv (rz.mono e₃.mono) r₃ : Wp ..) (fun r s₄ ⟨Φ₄, rr, e₄, r₄, k₄⟩ => ?_) fun _ _ f => f
  have e := ((Tr.ext e₁ e₃).ext e₄)
  have S₄ := S.ext e
  have ho₄ : s₄.heap.get? b = some (lstO xs n) := Ext.kept e _ _ ho
  have hf₄ : Φ₄ b = none := Ext.fresh e b hf (by rw [ho]; rfl)
  refine setItem_exact (g := g) (k := (k : Int)) ho₄ (by omega) (by omega) (by rw [rl.length]; lia) fun h' n' hh hs' => ?_
  obtain ⟨S₅, t₅⟩ := S₄.mutate (sl' := .own (l.set k rr)) hl rfl (H.keeps (Ext.kept e)) hbO hs' rfl ⟨b, _, n', rfl, hf₄, hh, by simpa using reals_set (rl.mono (Tr.mono e)) r₄ k⟩ s₄.toks
  exact ⟨Φ₄, _, O, .next, Tr.trans (Tr.of_ext e) t₅ (fun _ q => .inl q) fun _ q => .inl q, fun _ q => .inl q, S₅, trivial, k₄⟩
end
end Mine
end

section
set_option maxRecDepth 100000
open PySem PySem.Calls PyProof.Rows PySem.W PySem.Builtin PySem.Builtin.Str
namespace Mine

theorem over_func {d A body env} (h : AOk (d + 2) A) : AOk d (A.over (.func body env) []) := by
  refine ⟨h.1, ?_, ?_⟩
  · have := h.2.1
    show A.depth + frameCount [] + Code.weight (.func body env) + d ≤ 990
    have e : Code.weight (.func body env) = 1 := rfl
    have e2 : frameCount [] = 0 := rfl
    exact le3 (c4 _ _ _ _) (.a (.v 0) (.a (.v 1) (.n 2))) (.n 990) (.v 2) (.n 1) (.v 3) (.n 0) (.a (.a (.a (.v 0) (.v 3)) (.v 2)) (.v 1)) (.n 990) this (Nat.le_of_eq e) (Nat.le_of_eq e2)
  · have := h.2.2
    show A.units + PySem.unitsOf [] + Code.cUnits (.func body env) + 10 * d ≤ 9800
    have e : Code.cUnits (.func body env) = 3 := rfl
    have e2 : PySem.unitsOf [] = 0 := rfl
    exact le3 (c4 _ _ _ _) (.a (.v 0) (.m 10 (.a (.v 1) (.n 2)))) (.n 9800) (.v 2) (.n 3) (.v 3) (.n 0) (.a (.a (.a (.v 0) (.v 3)) (.v 2)) (.m 10 (.v 1))) (.n 9800) this (Nat.le_of_eq e) (Nat.le_of_eq e2)
theorem over_loop {d A body env t it b o k g l p kp} (h : AOk (d + 2) A) : AOk d (A.over (.forLoop t it b o env) [.ret k none g l (.func body env) p kp]) := by
  refine ⟨h.1, ?_, ?_⟩
  · have := h.2.1
    show A.depth + frameCount [(Code.func body env, p)] + Code.weight (.forLoop t it b o env) + d ≤ 990
    have e : Code.weight (.forLoop t it b o env) = 0 := rfl
    have e2 : frameCount [(Code.func body env, p)] = 1 := rfl
    exact le3 (c4 _ _ _ _) (.a (.v 0) (.a (.v 1) (.n 2))) (.n 990) (.v 2) (.n 0) (.v 3) (.n 1) (.a (.a (.a (.v 0) (.v 3)) (.v 2)) (.v 1)) (.n 990) this (Nat.le_of_eq e) (Nat.le_of_eq e2)
  · have := h.2.2
    show A.units + PySem.unitsOf [(Code.func body env, p)] + Code.cUnits (.forLoop t it b o env) + 10 * d ≤ 9800
    have e : Code.cUnits (.forLoop t it b o env) = 0 := rfl
    have e2 : PySem.unitsOf [(Code.func body env, p)] = 3 := rfl
    exact le3 (c4 _ _ _ _) (.a (.v 0) (.m 10 (.a (.v 1) (.n 2)))) (.n 9800) (.v 2) (.n 0) (.v 3) (.n 3) (.a (.a (.a (.v 0) (.v 3)) (.v 2)) (.m 10 (.v 1))) (.n 9800) this (Nat.le_of_eq e) (Nat.le_of_eq e2)

section
variable {g : Gd} {d : Nat} {A : Around} {R : GenEnd} {Y : Protocol} {n : Nat} {s₀ : Shared} {c : Code} {fs : List Frame} {s : Shared} {env : Env} {σ : Sg} {Φ : FM}
  {Kf : Flow → Sem PySem.Fin} {H : Value → Sem PySem.Fin} {gd : Bool → Bool} {lv : List Value → List Value}

theorem seg_assign {x p' value pos v0} (ok : AOk d (A.over c fs)) (S : St g env σ [] Φ s) (hev : Ev g d env σ value fun v => v = v0) (hx : env.kindOf x = some .local)
    (h : ∀ Φ' s', St g env ((x, .val v0) :: σ) [] Φ' s' → Tr (fun a => a = env.locals) no1 Φ s Φ' s' → Seg (model g.prog g.w) A R Y n s₀ c (Kf .next) fs s')
    (hs : swapsWith value (some (.Name x p')) pos.line env = pure false := by with_unfolding_all rfl) : Seg (model g.prog g.w) A R Y n s₀ c ((exec (.Assign [.Name x p'] value pos) env).wrap Kf H gd lv) fs s := by
  refine seg_wrap (wpAny_Assign_Name (wpAny_mono (hev _ Φ s ok S.rd) (fun val s₁ ⟨Φ₁, v, e₁, r₁, k₁⟩ => ?_) fun _ _ f => f.elim) hs)
  subst k₁
  refine (S.ext e₁).storeX (sl := .val v) (by unfold isVar; rw [hx]) r₁ (fun q => by cases q) fun s' S' tr => h Φ₁ s' S' (Tr.trans (Tr.of_ext e₁) (tr.mono_W (fun a w => ?_) fun _ w => w) (fun _ q => .inl q) fun _ q => .inl q)
  rcases w with w | w
  · exact w.2
  · rw [hx] at w; cases w.1
/-- a constant into a local: no new object -/
theorem seg_assignC {x p' value pos v0} (ok : AOk d (A.over c fs)) (S : St g env σ [] Φ s) (hev : ∀ (A : Around) (Q : Value → Shared → Prop), (∀ y k, Real g Φ v0 y → Q y { s with toks := k }) → wpAny (model g.prog g.w) A (eval value env) Q bot s) (hx : env.kindOf x = some .local)
    (h : ∀ s', St g env ((x, .val v0) :: σ) [] Φ s' → Tr (fun a => a = env.locals) no1 Φ s Φ s' → s'.heap.objs.size = s.heap.objs.size → Seg (model g.prog g.w) A R Y n s₀ c (Kf .next) fs s')
    (hs : swapsWith value (some (.Name x p')) pos.line env = pure false := by with_unfolding_all rfl) : Seg (model g.prog g.w) A R Y n s₀ c ((exec (.Assign [.Name x p'] value pos) env).wrap Kf H gd lv) fs s := by
  refine seg_wrap (wpAny_Assign_Name (wpAny_mono (hev _ (fun y s₁ => ∃ k, Real g Φ v0 y ∧ s₁ = { s with toks := k }) fun y k r => ⟨k, r, rfl⟩) (fun val s₁ ⟨k, r₁, e⟩ => ?_) fun _ _ f => f.elim) hs)
  subst e
  have e₁ := Ext.tok S.toInv k
  refine (S.ext e₁).storeY (sl := .val v0) (by unfold isVar; rw [hx]) r₁ (fun q => by cases q) fun s' S' tr _ _ hz => h s' S' (Tr.trans (Tr.of_ext e₁) (tr.mono_W (fun a w => ?_) fun _ w => w) (fun _ q => .inl q) fun _ q => .inl q) hz
  rcases w with w | w
  · exact w.2
  · rw [hx] at w; cases w.1
theorem exec_If_wrap (test : Expr) (b o : List Stmt) (pos : Pos) : exec (.If test b o pos) env = (do standAt pos; if ← isTrue test env (eval test env) then execs b env else execs o env) := rfl
theorem seg_If {test b o pos} {K : Bool → Prop} (ok : AOk d (A.over c fs)) (S : St g env σ [] Φ s) (ht : Ts g d env σ test K)
    (h : ∀ c' Φ' s', K c' → Ext Φ s Φ' s' → Seg (model g.prog g.w) A R Y n s₀ c ((execs (if c' = true then b else o) env).wrap Kf H gd lv) fs s') :
    Seg (model g.prog g.w) A R Y n s₀ c ((exec (.If test b o pos) env).wrap Kf H gd lv) fs s := by
  rw [exec_If_wrap]
  show Seg _ A R Y n s₀ c (.at pos fun _ => (isTrue test env (eval test env) >>= fun t => if t = true then execs b env else execs o env).wrap Kf H gd lv) fs s
  refine seg_at ?_
  rw [Sem.bind_eq_wrap', Sem.wrap_wrap]
  refine seg_wrap (wpAny_mono (ht _ Φ s ok S.rd) (fun t s' ⟨Φ', e, k⟩ => ?_) fun _ _ f => f.elim)
  have := h t Φ' s' k e
  cases t with
  | true => exact this
  | false => exact this
/-- a tuple of a display handed out -/
theorem seg_yield_tup {es k tp ypos pos vs} (ok : AOk d (A.over c fs)) (S : St g env σ [] Φ s) (hev : Evs g d env σ es fun v => v = vs) (hsz : vs.length ≤ 100) (hfs : splitAtGen fs = none) (hgd : gd false = false) (hfg : fs.any Frame.guarded = false)
    (h : ∀ Φ' s' xs T, St g env σ [] Φ' s' → Ext Φ s Φ' s' → s.heap.get? T = none → s'.heap.get? T = some (tupO xs 0) → Reals g Φ' vs xs → ∀ kap : Resume → Shared → Prop,
        (∀ s'', Seg (model g.prog g.w) A R Y n s'' c (Kf .next) fs s'' → kap (.send .none) s'') → Y n s₀ (.ref T) s' kap)
    (hco : env.scope.isCoroutine = false := by with_unfolding_all rfl) (hi : interactive env = false := by with_unfolding_all rfl) :
    Seg (model g.prog g.w) A R Y (n + 1) s₀ c ((exec (.Expr (.Yield (some (.Tuple es k tp)) ypos) pos) env).wrap Kf H gd lv) fs s := by
  refine seg_Expr_Yield hfs hgd hfg ?_ hco hi
  refine Tuple_ (wpAny_mono (hev _ Φ s tp ok S.rd) (fun xs s₁ ⟨Φ₁, v, e₁, r₁, k₁⟩ => ?_) fun _ _ f => f.elim)
  subst k₁
  have hszl : sizeLine = 2 ^ 24 := rfl
  have S₁ := S.ext e₁
  have e₂ := Ext.push' S₁.toInv (tupO xs 0) s₁.toks
  refine wpAny_newTuple (fun kap hk => ?_) (by rw [r₁.length]; exact le1 (c1 _) (.v 0) (.n 100) (.v 0) (.n 16777216) hsz)
  refine h Φ₁ _ xs s₁.heap.objs.size (S₁.ext e₂) (Tr.ext e₁ e₂) ?_ (Heap.get?_push_size _ rfl) r₁ kap fun s'' hs => hk .none s'' hs
  cases q : s.heap.get? s₁.heap.objs.size with
  | none => rfl
  | some o => have := e₁.kept _ _ q; rw [size_none] at this; cases this

theorem seg_For {target iter body pos}
    (h : wpAny (model g.prog g.w) (A.over c fs) (eval iter env) (fun x s₁ => wpAny (model g.prog g.w) (A.over c fs) (pyIter x) (fun it s₂ => ∀ p, Seg (model g.prog g.w) A R Y n s₀ (.forLoop target it body [] env) ((model g.prog g.w).den (.forLoop target it body [] env))
      (.ret (fun r => ((match r with | .ok f => (.pure f : Sem Flow) | .error e => .raise e).onRaise fun (x : Value) => do
        if (← field x 1) == Value.none then unsupported "frame.own-activation:exception-without-traceback"
        setFlight x env.frame).wrap Kf H gd lv) none (gd false) (lv []) c p [] :: fs) s₂) bot s₁) bot s)
    (hs : ∀ x, foldedSetIterable iter env x = pure x := by intro _; rfl) :
    Seg (model g.prog g.w) A R Y n s₀ c ((exec (.For target iter body [] pos) env).wrap Kf H gd lv) fs s := by
  have e : exec (.For target iter body [] pos) env = (do
    standAt pos
    let x ← foldedSetIterable iter env (← eval iter env)
    standAt iter.pos
    runOwn (.forLoop target (← holding [x] (pyIter x)) body [] env) env) := rfl
  rw [e]
  simp only [hs]
  show Seg _ A R Y n s₀ c (.at pos fun _ => (eval iter env >>= fun x => (Sem.at iter.pos fun _ => (holding [x] (pyIter x) >>= fun it => runOwn (.forLoop target it body [] env) env))).wrap Kf H gd lv) fs s
  refine seg_at ?_
  rw [Sem.bind_eq_wrap', Sem.wrap_wrap]
  refine seg_wrap (wpAny_mono h (fun x s₁ h₁ => ?_) fun _ _ f => f.elim)
  refine seg_at ?_
  rw [Sem.bind_eq_wrap', Sem.wrap_wrap]
  refine seg_wrap (wpAny_holding (wpAny_mono h₁ (fun it s₂ h₂ => ?_) fun _ _ f => f.elim))
  exact seg_call h₂

noncomputable def loopHx (env : Env) : Value → Sem PySem.Fin := fun e => (do noteFrame e env; theTreesLotGoes e : Sem Unit).wrap (fun _ => .raise e) .raise id id
noncomputable def loopKf (target : Expr) (it : Value) (body : List Stmt) (env : Env) : Flow → Sem PySem.Fin := fun f => match f with
  | .next | .cont => .pure (.again (.forLoop target it body [] env))
  | .brk => .pure (.done .next)
  | .ret v => .pure (.done (.ret v))
theorem seg_forLoop {target it body}
    (h : wpAny (model g.prog g.w) (A.over (.forLoop target it body [] env) fs) (pyNext it) (fun r s₁ => match r with
      | none => Seg (model g.prog g.w) A R Y n s₀ (.block [] env) (leafOf (.ok .next)) fs s₁
      | some v => wpAny (model g.prog g.w) (A.over (.forLoop target it body [] env) fs) (letOwnedTupleGo target it v) (fun _ s₂ => wpAny (model g.prog g.w) (A.over (.forLoop target it body [] env) fs) (assign target env v) (fun _ s₃ =>
          Seg (model g.prog g.w) A R Y n s₀ (.forLoop target it body [] env) ((execs body env).wrap (loopKf target it body env) (loopHx env) id id) fs s₃) bot s₂) bot s₁) bot s) :
    Seg (model g.prog g.w) A R Y n s₀ (.forLoop target it body [] env) ((model g.prog g.w).den (.forLoop target it body [] env)) fs s := by
  show Seg _ A R Y n s₀ _ ((forTurn target it body [] env).onRaise (fun x => do noteFrame x env; theTreesLotGoes x)) fs s
  unfold forTurn
  rw [Sem.onRaise_eq_wrap]
  show Seg _ A R Y n s₀ _ (.at target.pos fun _ => ((pyNext it).onRaise (fun _ => standAt { target.pos with line := 0 }) >>= _).wrap _ _ id id) fs s
  refine seg_at ?_
  rw [Sem.bind_eq_wrap', Sem.wrap_wrap]
  refine seg_wrap (wpAny_onRaise (wpAny_mono h (fun r s₁ h₁ => ?_) fun _ _ f => f.elim))
  cases r with
  | none =>
    show Seg _ A R Y n s₀ _ (.pure (.again (.block [] env))) fs s₁
    exact seg_again rfl h₁
  | some v =>
    dsimp only
    rw [Sem.bind_eq_wrap', Sem.wrap_wrap]
    refine seg_wrap (wpAny_mono h₁ (fun _ s₂ h₂ => ?_) fun _ _ f => f.elim)
    rw [Sem.bind_eq_wrap', Sem.wrap_wrap]
    refine seg_wrap (wpAny_mono h₂ (fun _ s₃ h₃ => ?_) fun _ _ f => f.elim)
    rw [Sem.bind_eq_wrap', Sem.wrap_wrap]
    rw [Sem.wrap_congr (execs body env) _ _ (K' := loopKf target it body env) (H' := loopHx env) (fun f => by cases f <;> rfl)
      (fun e => by unfold loopHx; first | exact Sem.bind_eq_wrap _ _ | (show (do noteFrame e env; theTreesLotGoes e : Sem Unit).bind (fun _ => .raise e) = _; rw [Sem.bind_eq_wrap]))]
    exact h₃
end
end Mine
end

section
set_option maxRecDepth 100000
open PySem PySem.Calls PyProof.Rows PySem.W PySem.Builtin PySem.Builtin.Str
namespace Mine

/-- what the generator hands out -/
noncomputable def escs : List Nat → Nat → Bool → List (Int × Str)
  | [], i, true => [((i : Int) - 1, ⟨#[92]⟩)]
  | [], i, false => []
  | c :: r, i, true => ((i : Int), ⟨#[92, c]⟩) :: escs r (i + 1) false
  | c :: r, i, false => if c = 92 then escs r (i + 1) true else ((i : Int), ⟨#[c]⟩) :: escs r (i + 1) false

noncomputable def fp3 (L e it : Addr) (b : Addr) : Prop := b = L ∨ b = e ∨ b = it
noncomputable def Keep3 (g : Gd) (L e it : Addr) (s s' : Shared) : Prop := ∃ Φ', Tr (fp3 L e it) no1 (fun a => g.hB.get? a) s Φ' s'
noncomputable def Agree (g : Gd) (fq : Addr → Prop) (s' s'' : Shared) : Prop := (∀ b, fq b → ∀ o, s'.heap.get? b = some o → s''.heap.get? b = some o) ∧ ∀ b o, g.hB.get? b = some o → s''.heap.get? b = some o
inductive YgP (g : Gd) (L e it : Addr) (its : List (Int × Str)) (n : Nat) (s₀ : Shared) (v : Value) (s' : Shared) (κ : Resume → Shared → Prop) : Prop
  | mk (p : Int) (c : Str) (T : Addr) (t u : Tok) : its[its.length - 1 - n]? = some (p, c) → v = .ref T → s₀.heap.get? T = none → ¬ fp3 L e it T → s'.heap.get? T = some (tupO [.int p t, .str c u] 0) →
    Keep3 g L e it s₀ s' → (∀ b, fp3 L e it b → (s'.heap.get? b).isSome = true) → (∀ s'', Agree g (fp3 L e it) s' s'' → κ (.send .none) s'') → YgP g L e it its n s₀ v s' κ
noncomputable def Yg (g : Gd) (L e it : Addr) (its : List (Int × Str)) : Protocol := YgP g L e it its
noncomputable def Rg (g : Gd) (L e it : Addr) : GenEnd := fun n s₀ r s₁ => r = .ok (.ret .none) ∧ n = 0 ∧ Keep3 g L e it s₀ s₁

noncomputable def σg (x : Str) (p : Int) (flag : Bool) : Sg := [("escape", .val (.bool flag)), ("pos", .val (.int p)), ("addr", .val (.str x))]
noncomputable def prim : V → Bool
  | .int _ => true
  | .str _ => true
  | .bool _ => true
  | .none => true
  | _ => false
theorem Real.prim {g : Gd} {Φ Φ' : FM} {v : V} {x : Value} (r : Real g Φ v x) (h : prim v = true) : Real g Φ' v x := by
  cases r <;> first | (cases h; done) | skip
  · exact .none
  · exact .bool _
  · exact .int _ _
  · exact .str _ _

structure GI (g : Gd) (env : Env) (L e it : Addr) (x : Str) (En : Nat → Heap → Prop) (i : Nat) (σ : Sg) (s₀ : Shared) (Φ : FM) (s : Shared) : Prop where
  st : St g env σ [] Φ s
  tr : Tr (fp3 L e it) no1 (fun a => g.hB.get? a) s₀ Φ s
  en : En i s.heap
  ef : Φ e = none ∧ Φ it = none

section
variable {g : Gd} {d : Nat} {A : Around} {env : Env} {L e it : Addr} {x : Str} {its : List (Int × Str)} {En : Nat → Heap → Prop} {Mid : Nat → Addr → Heap → Prop}

theorem st_again {σ : Sg} {Φ : FM} {s s'' : Shared} (S : St g env σ [] Φ s) (hL : env.locals = L) (hc : env.cells = []) (hσ : ∀ y sl, σ.lookup y = some sl → ∃ v, sl = .val v ∧ prim v = true)
    (hb : g.hB.get? L = none) (keepL : ∀ o, s.heap.get? L = some o → s''.heap.get? L = some o) (hB : ∀ b o, g.hB.get? b = some o → s''.heap.get? b = some o) : St g env σ [] (fun a => g.hB.get? a) s'' := by
  subst hL
  refine { sup := fun a o h => h, held := hB, ok := S.ok, ns := let ⟨m, n⟩ := S.ns; ⟨m, n.at' keepL⟩, lf := hb, cs := (fun y c h => by rw [hc] at h; cases h), apart := S.apart, ow := fun a h => (nomatch h), vars := fun y sl h => ?_, sep := fun y z sl sl' a _ h1 o1 => ?_ }
  · obtain ⟨val, H, R, _⟩ := S.vars y sl h
    obtain ⟨v, rfl, hp⟩ := hσ y sl h
    refine ⟨val, ?_, Real.prim R hp, fun q => by cases q⟩
    rcases H with ⟨q, m, n, e'⟩ | ⟨_, c, e', _⟩
    · exact .inl ⟨q, m, n.at' keepL, e'⟩
    · rw [hc] at e'; cases e'
  · obtain ⟨v, rfl, _⟩ := hσ y sl h1
    cases o1
/-- a state that a resumption finds -/
theorem GI.again {i : Nat} {σ : Sg} {s₀ : Shared} {Φ : FM} {s s'' : Shared} (G : GI g env L e it x En i σ s₀ Φ s) (hL : env.locals = L) (hc : env.cells = []) (hσ : ∀ y sl, σ.lookup y = some sl → ∃ v, sl = .val v ∧ prim v = true)
    (hb : ∀ b, fp3 L e it b → g.hB.get? b = none) (hen : ∀ h h', En i h → (∀ b, b = e ∨ b = it → ∀ o, h.get? b = some o → h'.get? b = some o) → En i h') (ag : Agree g (fp3 L e it) s s'') : GI g env L e it x En i σ s'' (fun a => g.hB.get? a) s'' :=
  ⟨st_again G.st hL hc hσ (hb _ (.inl rfl)) (fun o => ag.1 _ (.inl rfl) o) ag.2, .refl ag.2, hen _ _ G.en fun b hb => ag.1 b (by rcases hb with h | h; exact .inr (.inl h); exact .inr (.inr h)), hb e (.inr (.inl rfl)), hb it (.inr (.inr rfl))⟩

theorem GI.step {i : Nat} {σ σ' : Sg} {s₀ : Shared} {Φ Φ' : FM} {s s' : Shared} (G : GI g env L e it x En i σ s₀ Φ s) (S' : St g env σ' [] Φ' s') (t : Tr (fun a => a = env.locals) no1 Φ s Φ' s') (hL : env.locals = L) (hne : L ≠ e ∧ L ≠ it)
    (hen : ∀ h h', En i h → (∀ b, b = e ∨ b = it → ∀ o, h.get? b = some o → h'.get? b = some o) → En i h') (hex : (s.heap.get? e).isSome = true ∧ (s.heap.get? it).isSome = true) : GI g env L e it x En i σ' s₀ Φ' s' := by
  have ne : ∀ b, b = e ∨ b = it → ¬ b = env.locals := fun b hb q => by
    rcases hb with rfl | rfl
    · exact hne.1 (hL ▸ q.symm)
    · exact hne.2 (hL ▸ q.symm)
  refine ⟨S', G.tr.trans t (fun b q => .inl (.inl (q.trans hL))) fun _ q => .inl q, hen _ _ G.en fun b hb o ho => t.keep b o ho (ne b hb), t.fresh e G.ef.1 hex.1 (ne e (.inl rfl)), t.fresh it G.ef.2 hex.2 (ne it (.inr rfl))⟩

noncomputable def tgG : Expr := match (bodyS (stm 1)).getD 2 (.Pass ⟨0, 0, 0, 0⟩) with
  | .For t _ _ _ _ => t
  | _ => .Name "x" ⟨0, 0, 0, 0⟩
noncomputable def bdG : List Stmt := match (bodyS (stm 1)).getD 2 (.Pass ⟨0, 0, 0, 0⟩) with
  | .For _ _ b _ _ => b
  | _ => []
variable {nm qn : Str} {doc pm cd : Value} {a : Addr}
theorem isome {h : Heap} {b : Addr} (i : Nat) (x : En i h) (hl : ∀ i h, En i h → ∀ b, b = e ∨ b = it → (h.get? b).isSome = true) : (h.get? e).isSome = true ∧ (h.get? it).isSome = true := ⟨hl i h x e (.inl rfl), hl i h x it (.inr rfl)⟩

/-- one turn of the generator's loop up to its body -/
theorem gen_turn (ok : AOk d A) (henv : env = callEnvC (fnD (stm 1) nm qn doc pm cd) L a) {i : Nat} {σ : Sg} {s₀ : Shared} {Φ : FM} {s : Shared} (hne : L ≠ e ∧ L ≠ it)
    (W : WalksT g.prog g.w A e [e, it] [e, it] x.cps.size (fun i vals => ∃ t y, (∃ c u, x.cps[i]? = some c ∧ y = .str ⟨#[c]⟩ u) ∧ vals = #[.int i t, y]) En Mid)
    (hl : ∀ i h, En i h → ∀ b, b = e ∨ b = it → (h.get? b).isSome = true)
    (G : GI g env L e it x En i σ s₀ Φ s) (hi : i < x.cps.size) {Q : Unit → Shared → Prop}
    (h : ∀ Φ' s' c, x.cps[i]? = some c → GI g env L e it x En (i + 1) (("ch", .val (.str ⟨#[c]⟩)) :: ("pos", .val (.int i)) :: σ) s₀ Φ' s' → Q () s') :
    wpAny (model g.prog g.w) A (pyNext (.ref e)) (fun r s₁ => ∃ v, r = some v ∧ wpAny (model g.prog g.w) A (letOwnedTupleGo tgG (.ref e) v) (fun _ s₂ => wpAny (model g.prog g.w) A (assign tgG env v) Q bot s₂) bot s₁) bot s := by
  refine W.item i s _ _ hi G.en fun T vals h' tk hP hT hIs mid hk => ⟨.ref T, rfl, ?_⟩
  obtain ⟨t, y, ⟨c, u, hc, rfl⟩, rfl⟩ := hP
  refine W.go _ _ _ i T { s with heap := h', toks := tk } _ _ mid fun h'' st'' hk'' => ?_
  have hTw := W.apart i T h' mid
  obtain ⟨o, ho', hcl, m, hd⟩ := hIs
  have hTo : h''.get? T = some o := hk'' T o hTw ho'
  have exi := isome (b := T) i G.en hl
  have hnone : ∀ b, b ∈ [e, it] → Φ b = none := fun b hb => by simp at hb; rcases hb with rfl | rfl; exact G.ef.1; exact G.ef.2
  have tr : Tr (fun b => b ∈ [e, it]) no1 Φ s Φ { s with heap := h'', toks := tk } := Tr.keeps G.st.toInv (fun b o q z => hk'' b o (fun w => q w) (hk b o (fun w => q w) z)) hnone tk
  have hTn : Φ T = none := G.st.toInv.none (above_none hT)
  have tr' := tr.freeze (g := g) (G.st.toInv.ext tr) hTo hTn (.inl (above_none hT))
  have hLn : ∀ b, Wr env [] b → ¬ b ∈ [e, it] := fun b hb q => by
    subst henv
    rcases hb with rfl | ⟨z, hb⟩ | hb
    · simp at q; exact q.elim hne.1 hne.2
    · cases hb
    · cases hb
  have S₂ := G.st.tr tr' hLn
  have hr : Real g (Φ.put T o) (.tup [.int i, .str ⟨#[c]⟩]) (.ref T) := .tup (xs := [.int i t, .str ⟨#[c]⟩ u]) (FM.put_self ..) hcl hd (.cons (.int _ _) (.cons (.str _ _) .nil))
  have as : AsL g d env σ tgG (.tup [.int i, .str ⟨#[c]⟩]) (fun σ' : Sg => σ' = ((("ch" : Str), Slot.val (.str ⟨#[c]⟩)) :: (("pos" : Str), Slot.val (.int i)) :: σ : Sg)) := asl_tup rfl rfl (by subst henv; intro z hz; simp at hz; rcases hz with rfl | rfl <;> rfl) rfl
  have eT : e ≠ T ∧ it ≠ T := ⟨fun q => (by have := exi.1; rw [q, above_none hT] at this; cases this), fun q => (by have := exi.2; rw [q, above_none hT] at this; cases this)⟩
  have G₂ : GI g env L e it x En (i + 1) σ s₀ (Φ.put T o) { s with heap := h'', toks := tk } := by
    refine ⟨S₂, G.tr.trans tr' (fun b q => .inl ?_) (fun _ q => .inl q), st'', by simp [FM.put, eT.1, G.ef.1], by simp [FM.put, eT.2, G.ef.2]⟩
    simp at q
    rcases q with q | q
    · exact .inr (.inl q)
    · exact .inr (.inr q)
  refine wpAny_mono (as A (Φ.put T o) _ (.ref T) ok S₂ hr) (fun _ s₃ ⟨Φ₃, σ₃, t₃, S₃, e₃⟩ => ?_) fun _ _ f => f
  subst e₃
  exact h Φ₃ s₃ c hc (G₂.step S₃ t₃ (by subst henv; rfl) hne (fun h1 h2 e1 hk => W.frame _ _ _ e1 fun b hb o ho => hk b (by simpa using hb) o ho) (isome (b := T) (i + 1) st'' hl))

/-- the names after a turn, put in order -/
theorem sub_turn {i : Nat} {p : Int} {flag : Bool} {c : Nat} : Sub (σg x i flag) ((("ch" : Str), Slot.val (.str ⟨#[c]⟩)) :: (("pos" : Str), Slot.val (.int i)) :: σg x p flag) :=
  sub_cons rfl (sub_cons rfl (sub_cons rfl sub_nil))
theorem GI.weak {i : Nat} {σ σ' : Sg} {s₀ : Shared} {Φ : FM} {s : Shared} (G : GI g env L e it x En i σ s₀ Φ s) (h : Sub σ' σ) : GI g env L e it x En i σ' s₀ Φ s := ⟨G.st.weak h, G.tr, G.en, G.ef⟩
theorem GI.ext {i : Nat} {σ : Sg} {s₀ : Shared} {Φ Φ' : FM} {s s' : Shared} (G : GI g env L e it x En i σ s₀ Φ s) (t : Ext Φ s Φ' s')
    (hen : ∀ h h', En i h → (∀ b, b = e ∨ b = it → ∀ o, h.get? b = some o → h'.get? b = some o) → En i h') (hex : (s.heap.get? e).isSome = true ∧ (s.heap.get? it).isSome = true) : GI g env L e it x En i σ s₀ Φ' s' :=
  ⟨G.st.ext t, G.tr.trans t (fun _ q => q.elim) (fun _ q => q.elim), hen _ _ G.en fun b hb o ho => t.kept b o ho, t.fresh e G.ef.1 hex.1, t.fresh it G.ef.2 hex.2⟩

theorem primσ {p : Int} {flag : Bool} : ∀ y sl, (σg x p flag).lookup y = some sl → ∃ v, sl = .val v ∧ prim v = true := fun y sl h => by
  have := mem_of_lookup h
  simp [σg] at this
  rcases this with ⟨_, rfl⟩ | ⟨_, rfl⟩ | ⟨_, rfl⟩ <;> exact ⟨_, rfl, rfl⟩

theorem pair_real {Φ : FM} {p : Int} {c : Str} {xs : List Value} (hr : Reals g Φ [.int p, .str c] xs) : ∃ t u, xs = [.int p t, .str c u] := by
  obtain ⟨y, ys', rfl, ry, hr1⟩ := hr.uncons
  obtain ⟨z, zs', rfl, rz, hr2⟩ := hr1.uncons
  obtain ⟨ty, rfl⟩ := real_int ry
  obtain ⟨tz, rfl⟩ := real_str rz
  exact ⟨ty, tz, congrArg (fun l => Value.int p ty :: Value.str c tz :: l) hr2.unnil⟩
/-- a pair handed out: what the protocol asks -/
theorem gen_yield {i : Nat} {p q : Int} {flag : Bool} {m : Nat} {σ : Sg} {s₀ : Shared} {Φ Φ' : FM} {s s' : Shared} {xs : List Value} {T : Addr} {ch : Str} {kap : Resume → Shared → Prop} (hL : env.locals = L) (hc : env.cells = []) (hne : L ≠ e ∧ L ≠ it)
    (hb : ∀ b, fp3 L e it b → g.hB.get? b = none) (hen : ∀ i h h', En i h → (∀ b, b = e ∨ b = it → ∀ o, h.get? b = some o → h'.get? b = some o) → En i h')
    (hl : ∀ i h, En i h → ∀ b, b = e ∨ b = it → (h.get? b).isSome = true)
    (G : GI g env L e it x En i σ s₀ Φ s) (hsub : Sub (σg x q flag) σ) (hit : its[its.length - 1 - m]? = some (p, ch)) (S' : St g env σ [] Φ' s') (t : Ext Φ s Φ' s') (hT : s.heap.get? T = none) (hT' : s'.heap.get? T = some (tupO xs 0)) (hr : Reals g Φ' [.int p, .str ch] xs)
    (hk : ∀ s'', GI g env L e it x En i (σg x q flag) s'' (fun a => g.hB.get? a) s'' → kap (.send .none) s'') : Yg g L e it its m s₀ (.ref T) s' kap := by
  obtain ⟨ty, tz, rfl⟩ := pair_real hr
  have exi := isome (b := T) i G.en hl
  have G' := G.ext t (hen i) exi
  have ex3 : ∀ b, fp3 L e it b → (s.heap.get? b).isSome = true := fun b hb => by
    rcases hb with rfl | rfl | rfl
    · rw [← hL]; exact G.st.inheap (.inl rfl)
    · exact exi.1
    · exact exi.2
  have hTf : ¬ fp3 L e it T := fun q => in_out (ex3 T q) hT
  exact ⟨p, ch, T, ty, tz, hit, rfl, G.tr.upN hT hTf, hTf, hT', ⟨Φ', G'.tr⟩, fun b hb => by
    obtain ⟨o, ho⟩ := Option.isSome_iff_exists.mp (ex3 b hb)
    exact in_some (t.kept _ _ ho), fun s'' ag => hk s'' ((G'.weak hsub).again hL hc primσ hb (hen i) ag)⟩

theorem at_drop {m : Nat} {y : Int × Str} {r : List (Int × Str)} (h : its.drop (its.length - (m + 1)) = y :: r) (hm : r.length = m) : its[its.length - 1 - m]? = some y ∧ its.drop (its.length - m) = r := by
  have hlen : (its.drop (its.length - (m + 1))).length = m + 1 := by rw [h]; simp [hm]
  rw [List.length_drop] at hlen
  have hle : m + 1 ≤ its.length := by omega
  have e1 : its.length - 1 - m = its.length - (m + 1) := by lia
  have h0 : (its.drop (its.length - (m + 1)))[0]? = some y := by rw [h]; rfl
  rw [List.getElem?_drop] at h0
  refine ⟨by rw [e1]; simpa using h0, ?_⟩
  have h1 : (its.drop (its.length - (m + 1))).drop 1 = r := by rw [h]; rfl
  rw [List.drop_drop] at h1
  have e2 : its.length - (m + 1) + 1 = its.length - m := by lia
  rw [e2] at h1
  exact h1

theorem gen_loop (ok : AOk (d + 2) A) (henv : env = callEnvC (fnD (stm 1) nm qn doc pm cd) L a) (hne : L ≠ e ∧ L ≠ it) (hb : ∀ b, fp3 L e it b → g.hB.get? b = none)
    (W : ∀ A, AOk d A → WalksT g.prog g.w A e [e, it] [e, it] x.cps.size (fun i vals => ∃ t y, (∃ c u, x.cps[i]? = some c ∧ y = .str ⟨#[c]⟩ u) ∧ vals = #[.int i t, y]) En Mid)
    (hl : ∀ i h, En i h → ∀ b, b = e ∨ b = it → (h.get? b).isSome = true)
    (hdone : ∀ A, AOk d A → ∀ (s : Shared) (Q : Option Value → Shared → Prop), En x.cps.size s.heap → (∀ h', (∀ b o, b ≠ it → s.heap.get? b = some o → h'.get? b = some o) → (h'.get? it).isSome = true → Q none { s with heap := h' }) → wpAny (model g.prog g.w) A (pyNext (.ref e)) Q bot s) {kont : Result → Sem PySem.Fin} {lv : List Value} {p0 : Pos} {kp : List Value}
    (hEnd : ∀ n s₀ p flag Φ s, n = (escs [] x.cps.size flag).length → its.drop (its.length - n) = escs [] x.cps.size flag → (flag = true → p = (x.cps.size : Int) - 1) → St g env (σg x p flag) [] Φ s → Tr (fp3 L e it) no1 (fun a => g.hB.get? a) s₀ Φ s → (s.heap.get? e).isSome = true ∧ (s.heap.get? it).isSome = true →
      Seg (model g.prog g.w) A (Rg g L e it) (Yg g L e it its) n s₀ (.block [] env) (leafOf (.ok .next)) [.ret kont none false lv (.func (bodyS (stm 1)) env) p0 kp] s) :
    ∀ k i p flag n s₀ Φ s, x.cps.size - i = k → i ≤ x.cps.size → n = (escs (x.cps.toList.drop i) i flag).length → its.drop (its.length - n) = escs (x.cps.toList.drop i) i flag → (flag = true → p = (i : Int) - 1) →
      GI g env L e it x En i (σg x p flag) s₀ Φ s →
      Seg (model g.prog g.w) A (Rg g L e it) (Yg g L e it its) n s₀ (.forLoop tgG (.ref e) bdG [] env) ((model g.prog g.w).den (.forLoop tgG (.ref e) bdG [] env)) [.ret kont none false lv (.func (bodyS (stm 1)) env) p0 kp] s := by
  have ok' := over_loop (d := d) (A := A) (body := bodyS (stm 1)) (env := env) (t := tgG) (it := .ref e) (b := bdG) (o := []) (k := kont) (g := false) (l := lv) (p := p0) (kp := kp) ok
  have hL : env.locals = L := by subst henv; rfl
  have hc : env.cells = [] := by subst henv; rfl
  have hen : ∀ i h h', En i h → (∀ b, b = e ∨ b = it → ∀ o, h.get? b = some o → h'.get? b = some o) → En i h' := fun i h1 h2 e1 hk => (W _ ok').frame _ _ _ e1 fun b hb o ho => hk b (by simpa using hb) o ho
  have kOf : ∀ {y : Str} {kd : NameKind}, (scopeS (stm 1)).names.lookup y = some kd → env.kindOf y = some kd := fun h => by subst henv; exact h
  intro k
  induction k with
  | zero =>
    intro i p flag n s₀ Φ s hk hi hn hd hp G
    have : i = x.cps.size := by lia
    subst this
    have hdr : x.cps.toList.drop x.cps.size = [] := by simp
    rw [hdr] at hn hd
    refine seg_forLoop ?_
    refine hdone _ ok' s _ G.en fun h' hk' hit' => ?_
    have exi := isome (b := L) _ G.en hl
    have tr : Tr (fun b => b ∈ [e, it]) no1 Φ s Φ { s with heap := h' } := Tr.keeps G.st.toInv (fun b o q z => hk' b o (fun w => q (by simp [w])) z) (fun b q => by simp at q; rcases q with rfl | rfl; exact G.ef.1; exact G.ef.2) s.toks
    have ee : (h'.get? e).isSome = true := by
      by_cases q : e = it
      · rw [q]; exact hit'
      · obtain ⟨o, ho⟩ := Option.isSome_iff_exists.mp exi.1
        rw [hk' e o q ho]; rfl
    have hLn : ∀ b, Wr env [] b → ¬ b ∈ [e, it] := fun b hb q => by
      rcases hb with rfl | ⟨z, hb⟩ | hb
      · rw [hL] at q; simp at q; exact q.elim hne.1 hne.2
      · rw [hc] at hb; cases hb
      · cases hb
    exact hEnd n s₀ p flag Φ _ hn hd (fun h => by have := hp h; simpa using this) (G.st.tr tr hLn) (G.tr.trans tr (fun b q => .inl (by simp at q; rcases q with q | q; exact .inr (.inl q); exact .inr (.inr q))) fun _ q => .inl q) ⟨ee, hit'⟩
  | succ k ih =>
    intro i p flag n s₀ Φ s hk hi hn hd hp G
    have hi' : i < x.cps.size := by omega
    refine seg_forLoop (wpAny_mono (gen_turn ok' henv hne (W _ ok') hl G hi' (Q := fun _ s₃ => ∃ Φ' c, x.cps[i]? = some c ∧ GI g env L e it x En (i + 1) ((("ch" : Str), Slot.val (.str ⟨#[c]⟩)) :: (("pos" : Str), Slot.val (.int i)) :: σg x p flag) s₀ Φ' s₃) fun Φ' s' c hc G' => ⟨Φ', c, hc, G'⟩) (fun r s₁ ⟨v, hr, h₁⟩ => ?_) fun _ _ f => f)
    subst hr
    refine wpAny_mono h₁ (fun _ s₂ h₂ => wpAny_mono h₂ (fun _ s₃ ⟨Φ₃, c, hcc, G₃⟩ => ?_) fun _ _ f => f) fun _ _ f => f
    have hdr : x.cps.toList.drop i = c :: x.cps.toList.drop (i + 1) := by
      have hlt : i < x.cps.toList.length := by simpa using hi'
      rw [List.drop_eq_getElem_cons hlt]
      congr 1
      have := Array.getElem?_eq_getElem hi'
      rw [hcc] at this
      simpa using this.symm
    rw [hdr] at hn hd
    have exi₃ := isome (b := L) _ G₃.en hl
    -- the loop's next turn
    have next : ∀ (flag' : Bool) (n' : Nat) (s₁ : Shared) (Φ' : FM) (s' : Shared), n' = (escs (x.cps.toList.drop (i + 1)) (i + 1) flag').length → its.drop (its.length - n') = escs (x.cps.toList.drop (i + 1)) (i + 1) flag' →
        GI g env L e it x En (i + 1) (σg x i flag') s₁ Φ' s' →
        Seg (model g.prog g.w) A (Rg g L e it) (Yg g L e it its) n' s₁ (.forLoop tgG (.ref e) bdG [] env) (loopKf tgG (.ref e) bdG env .next) [.ret kont none false lv (.func (bodyS (stm 1)) env) p0 kp] s' := fun flag' n' s₁ Φ' s' h1 h2 h3 =>
      seg_again rfl (ih (i + 1) i flag' n' s₁ Φ' s' (by omega) hi' h1 h2 (fun _ => by push_cast; lia) h3)
    have cesc : env.kindOf "escape" = some .local := kOf rfl
    refine seg_execs_cons (seg_If (K := fun c' => c' = flag) ok' G₃.st (ts_of (ev_var (v := .bool flag) (by rfl) (true_b rfl))) fun c' Φ₄ s₄ hc' e₄ => ?_)
    subst hc'
    have G₄ := G₃.ext e₄ (hen (i + 1)) exi₃
    have exi₄ := isome (b := L) _ G₄.en hl
    cases c' with
    | true =>
      rw [if_pos rfl]
      have hn' : n = (escs (x.cps.toList.drop (i + 1)) (i + 1) false).length + 1 := by rw [hn]; rfl
      subst hn'
      obtain ⟨hit, hd'⟩ := at_drop (y := ((i : Int), ⟨#[92, c]⟩)) hd rfl
      refine seg_execs_cons (seg_yield_tup (vs := [.int i, .str ⟨#[92, c]⟩]) (hco := by subst henv; rfl) (hi := by subst henv; rfl) ok' G₄.st ?_ (by simp) rfl rfl rfl fun Φ₅ s₅ xs T S₅ e₅ hT hT' hr kap hk => ?_)
      · refine evs_cons (ev_var (by rfl) (evs_cons (ev_bin (ev_str (ev_var (by rfl) (bin_add_s (by show (1 : Nat) + 1 ≤ sizeLine; decide) ?_)))) rfl)) rfl
        exact evs_nil rfl
      · refine gen_yield hL hc hne hb hen hl G₄ sub_turn hit S₅ e₅ hT hT' hr fun s'' G'' => hk s'' ?_
        refine seg_execs_cons (seg_assignC (v0 := .bool false) ok' G''.st (fun A Q hq => wpAny_pure (hq _ _ (.bool false))) cesc fun s₆ S₆ t₆ _ => ?_)
        refine seg_execs_nil (next false _ s'' (fun a => g.hB.get? a) s₆ rfl hd' ?_)
        exact (G''.step S₆ t₆ hL hne (hen (i + 1)) (isome (b := L) _ G''.en hl)).weak (sub_cons rfl (sub_cons rfl (sub_cons rfl sub_nil)))
    | false =>
      rw [if_neg (by decide)]
      refine seg_execs_cons (seg_If (K := fun c' => c' = (⟨#[c]⟩ == (⟨#[92]⟩ : Str))) ok' G₄.st (ts_cmp (ev_var (by rfl) (ev_str (cmp_eq_s (true_b rfl))))) fun c' Φ₅ s₅ hc' e₅ => ?_)
      have G₅ := G₄.ext e₅ (hen (i + 1)) exi₄
      have hcc' : c' = decide (c = 92) := by
        rw [hc', Bool.eq_iff_iff, beq_iff_eq, decide_eq_true_eq]
        constructor
        · intro h; injection h with h; simpa using h
        · rintro rfl; rfl
      by_cases h92 : c = 92
      · have : c' = true := by rw [hcc']; simpa using h92
        subst this
        rw [if_pos rfl]
        have he : escs (c :: x.cps.toList.drop (i + 1)) i false = escs (x.cps.toList.drop (i + 1)) (i + 1) true := by simp [escs, h92]
        rw [he] at hn hd
        refine seg_execs_cons (seg_assignC (v0 := .bool true) ok' G₅.st (fun A Q hq => wpAny_pure (hq _ _ (.bool true))) cesc fun s₆ S₆ t₆ _ => ?_)
        refine seg_execs_nil (seg_execs_nil (next true n s₀ Φ₅ s₆ hn hd ?_))
        exact (G₅.step S₆ t₆ hL hne (hen (i + 1)) (isome (b := L) _ G₅.en hl)).weak (sub_cons rfl (sub_cons rfl (sub_cons rfl sub_nil)))
      · have : c' = false := by rw [hcc']; simpa using h92
        subst this
        rw [if_neg (by decide)]
        have he : escs (c :: x.cps.toList.drop (i + 1)) i false = ((i : Int), ⟨#[c]⟩) :: escs (x.cps.toList.drop (i + 1)) (i + 1) false := by simp [escs, h92]
        rw [he] at hn hd
        have hn' : n = (escs (x.cps.toList.drop (i + 1)) (i + 1) false).length + 1 := by rw [hn]; rfl
        subst hn'
        obtain ⟨hit, hd'⟩ := at_drop hd rfl
        refine seg_execs_cons (seg_yield_tup (vs := [.int i, .str ⟨#[c]⟩]) (hco := by subst henv; rfl) (hi := by subst henv; rfl) ok' G₅.st ?_ (by simp) rfl rfl rfl fun Φ₆ s₆ xs T S₆ e₆ hT hT' hr kap hk => ?_)
        · exact evs_cons (ev_var (by rfl) (evs_cons (ev_var (by rfl) (evs_nil rfl)) rfl)) rfl
        · refine gen_yield hL hc hne hb hen hl G₅ sub_turn hit S₆ e₆ hT hT' hr fun s'' G'' => hk s'' ?_
          refine seg_execs_nil (seg_execs_nil (next false _ s'' (fun a => g.hB.get? a) s'' rfl hd' G''))
end
end Mine
end

section
set_option maxRecDepth 100000
open PySem PySem.Calls PyProof.Rows PySem.W PySem.Builtin PySem.Builtin.Str
namespace Mine

section
variable {g : Gd} {d : Nat} {A : Around} {env : Env} {L e it : Addr} {x : Str} {its : List (Int × Str)} {En : Nat → Heap → Prop} {Mid : Nat → Addr → Heap → Prop} {nm qn : Str} {doc pm cd : Value} {a : Addr}

noncomputable def lastG : Stmt := (bodyS (stm 1)).getD 3 (.Pass ⟨0, 0, 0, 0⟩)
noncomputable def endK : Flow → Sem PySem.Fin := fun f => .pure (.done (.ret (match f with | .ret v => v | _ => .none)))

/-- the generator's last statement -/
theorem gen_last (ok : AOk (d + 2) A) (henv : env = callEnvC (fnD (stm 1) nm qn doc pm cd) L a) (hne : L ≠ e ∧ L ≠ it) (hb : ∀ b, fp3 L e it b → g.hB.get? b = none)
    {H : Value → Sem PySem.Fin} {n : Nat} {s₀ : Shared} {p : Int} {flag : Bool} {Φ : FM} {s : Shared} (hn : n = (escs [] x.cps.size flag).length) (hd : its.drop (its.length - n) = escs [] x.cps.size flag) (hp : flag = true → p = (x.cps.size : Int) - 1)
    (S : St g env (σg x p flag) [] Φ s) (t : Tr (fp3 L e it) no1 (fun a => g.hB.get? a) s₀ Φ s) (hx0 : (s.heap.get? e).isSome = true ∧ (s.heap.get? it).isSome = true) :
    Seg (model g.prog g.w) A (Rg g L e it) (Yg g L e it its) n s₀ (.func (bodyS (stm 1)) env) ((execs [lastG] env).wrap endK H id id) [] s := by
  have hL : env.locals = L := by subst henv; rfl
  have hc : env.cells = [] := by subst henv; rfl
  have ok' := over_func (d := d) (A := A) (body := bodyS (stm 1)) (env := env) ok
  refine seg_execs_cons (seg_If (K := fun c' => c' = flag) ok' S (ts_of (ev_var (v := .bool flag) (by rfl) (true_b rfl))) fun c' Φ₄ s₄ hc' e₄ => ?_)
  subst hc'
  have S₄ := S.ext e₄
  have t₄ := t.trans e₄ (fun _ q => q.elim) (fun _ q => q.elim)
  cases c' with
  | false =>
    rw [if_neg (by decide)]
    have : n = 0 := by rw [hn]; rfl
    subst this
    refine seg_execs_nil (seg_execs_nil (seg_end (.ok (.ret .none)) ⟨rfl, rfl, Φ₄, t₄⟩))
  | true =>
    rw [if_pos rfl]
    have : n = 0 + 1 := by rw [hn]; rfl
    subst this
    obtain ⟨hit, hd'⟩ := at_drop (m := 0) (y := ((x.cps.size : Int) - 1, ⟨#[92]⟩)) (r := []) hd rfl
    have hpp := hp rfl
    subst hpp
    refine seg_execs_cons (seg_yield_tup (hco := by subst henv; rfl) (hi := by subst henv; rfl) (vs := [.int ((x.cps.size : Int) - 1), .str ⟨#[92]⟩]) ok' S₄ ?_ (by simp) rfl rfl rfl fun Φ₅ s₅ xs T S₅ e₅ hT hT' hr kap hk => ?_)
    · exact evs_cons (ev_var (by rfl) (evs_cons (ev_str (evs_nil rfl)) rfl)) rfl
    · obtain ⟨ty, tz, rfl⟩ := pair_real hr
      have t₅ := t₄.trans e₅ (fun _ q => q.elim) (fun _ q => q.elim)
      have ex3 : ∀ b, fp3 L e it b → (s₄.heap.get? b).isSome = true := fun b hb => by
        rcases hb with rfl | rfl | rfl
        · rw [← hL]; exact S₄.inheap (.inl rfl)
        · obtain ⟨o, ho⟩ := Option.isSome_iff_exists.mp hx0.1
          exact in_some (e₄.kept _ _ ho)
        · obtain ⟨o, ho⟩ := Option.isSome_iff_exists.mp hx0.2
          exact in_some (e₄.kept _ _ ho)
      have hTf : ¬ fp3 L e it T := fun q => in_out (ex3 T q) hT
      exact ⟨_, _, T, ty, tz, hit, rfl, t₄.upN hT hTf, hTf, hT', ⟨Φ₅, t₅⟩, fun b hb => by
        obtain ⟨o, ho⟩ := Option.isSome_iff_exists.mp (ex3 b hb)
        exact in_some (e₅.kept _ _ ho), fun s'' ag => hk s'' (seg_execs_nil (seg_execs_nil (seg_end (.ok (.ret .none)) ⟨rfl, rfl, (fun a => g.hB.get? a), .refl ag.2⟩)))⟩

theorem call_name_raw {M : Model} {A : Around} {E : Value → Shared → Prop} {s : Shared} {f : Str} {fp : Pos} {es : List Expr} {pos : Pos} {Q : Value → Shared → Prop}
    (h : wpAny M A (eval (.Name f fp) env) (fun fv s₁ => wpAny M A (callWith pos fv [] (backTo pos (starEach es env)) []) Q E s₁) E s) : wpAny M A (eval (.Call (.Name f fp) es [] pos) env) Q E s := by
  have e : eval (.Call (.Name f fp) es [] pos) env = (do callWith pos (← eval (.Name f fp) env) [] (backTo pos (starEach es env)) (backToKw pos (keywordEach [] env))) := rfl
  rw [e]
  exact wpAny_bind (wpAny_mono h (fun _ _ h' => h') fun _ _ h' => h')
theorem draws_str {prog : Program} {w : World} {A : Around} (hh : A.handled = none) (it : Addr) (x : Str) (t : Tok) : Draws prog w A it [it] x.cps.size (fun i v => ∃ c u, x.cps[i]? = some c ∧ v = .str ⟨#[c]⟩ u) (fun i h => h.IsStrIter it (strIterType x) x t i) := by
  cases ha : x.cps.all (· < 128)
  · have : strIterType x = "str_iterator" := by unfold strIterType; rw [ha]; rfl
    rw [this]; exact Draws.strWide hh it x t
  · have : strIterType x = "str_ascii_iterator" := by unfold strIterType; rw [ha]; rfl
    rw [this]; exact Draws.strAscii hh it x t

theorem nextOf_end {prog : Program} {w : World} {A : Around} {E : Value → Shared → Prop} {s : Shared} {it : Addr} {x : Str} {t : Tok} {i : Nat} {Q : Value → Shared → Prop} (hh : A.handled = none)
    (hit : s.heap.IsStrIter it (strIterType x) x t i) (hx : x.cps[i]? = none)
    (hE : ∀ h' e, Heap.ExtBut it s.heap h' → (h'.get? it).isSome = true → (∃ o, h'.get? e = some o ∧ o.cls = .type "StopIteration") → E (.ref e) { s with heap := h' }) :
    wpAny (model prog w) A (Builtin.SmallTypes.nextOf (.ref it)) Q E s := by
  have fin : ∀ (o : Obj) (f : Obj → Obj) (p1 p2 : Obj), s.heap.get? it = some o → (f o).isFreed = false → ((((s.heap.update it f).push p1).push p2).get? it).isSome = true := fun o f p1 p2 ho hf => by
    rw [Heap.get?_push_of_some _ (Heap.get?_push_of_some _ (Heap.get?_update_self _ ho hf))]; rfl
  cases ha : x.cps.all (· < 128)
  · have ht : strIterType x = "str_iterator" := by unfold strIterType; rw [ha]; rfl
    rw [ht] at hit
    obtain ⟨o, ho, hc, hd⟩ := id hit
    unfold Builtin.SmallTypes.nextOf
    refine wpAny_bind (wpAny_callSpecial?_slot (name := Str.ofString "__next__") hit.typeIs F.slot_str_iterator_next
      (wpAny_call_entry F.slot_str_iterator_next hit.typeIs F.entry_str_iterator_next ?_ (F.args_str_iterator_next_1 _)))
    show wpAny _ _ (field (.ref it) 0 >>= _) _ _ s
    refine wpAny_bind (wpAny_field ho hd (x := .str x t) rfl ?_)
    show wpAny _ _ (field (.ref it) 1 >>= _) _ _ s
    refine wpAny_bind (wpAny_field ho hd (x := .int i 0) rfl ?_)
    simp only [Int.toNat_natCast, hx]
    refine wpAny_bind (wpAny_rule (wpAny_bind (wpAny_setField ho hd (by simp) (wpAny_bind (wpAny_letGo ?_)))))
    show wpAny _ _ (newExc (.type "StopIteration") [] >>= _) _ _ _
    refine wpAny_bind ?_
    simp only [newExc, newTuple]
    refine wpAny_bind (wpAny_newObj_type ?_ (by size_fits))
    refine wpAny_bind (m := firstArgMember _ _) (wpAny_of_eq (a := Value.none) (by first | rfl | (simp only [firstArgMember]; rfl)) ?_)
    refine wpAny_newObj_type ?_ (by size_fits)
    simp only [raiseNew]
    refine wpAny_bind (wpAny_handled ?_)
    first | rw [show A.in1.handled = none from hh] | rw [hh]
    refine wpAny_bind (wpAny_pure (wpAny_throw ?_))
    exact hE _ _ (((Heap.SameBut.update ..).extBut.push _).push _) (fin o _ _ _ ho (Obj.isFreed_of_fields (Obj.data_mapFields hd _))) ⟨_, Heap.get?_push_size _ rfl, rfl⟩
  · have ht : strIterType x = "str_ascii_iterator" := by unfold strIterType; rw [ha]; rfl
    rw [ht] at hit
    obtain ⟨o, ho, hc, hd⟩ := id hit
    unfold Builtin.SmallTypes.nextOf
    refine wpAny_bind (wpAny_callSpecial?_slot (name := Str.ofString "__next__") hit.typeIs F.slot_str_ascii_iterator_next
      (wpAny_call_entry F.slot_str_ascii_iterator_next hit.typeIs F.entry_str_ascii_iterator_next ?_ (F.args_str_ascii_iterator_next_1 _)))
    show wpAny _ _ (field (.ref it) 0 >>= _) _ _ s
    refine wpAny_bind (wpAny_field ho hd (x := .str x t) rfl ?_)
    show wpAny _ _ (field (.ref it) 1 >>= _) _ _ s
    refine wpAny_bind (wpAny_field ho hd (x := .int i 0) rfl ?_)
    simp only [Int.toNat_natCast, hx]
    refine wpAny_bind (wpAny_rule (wpAny_bind (wpAny_setField ho hd (by simp) (wpAny_bind (wpAny_letGo ?_)))))
    show wpAny _ _ (newExc (.type "StopIteration") [] >>= _) _ _ _
    refine wpAny_bind ?_
    simp only [newExc, newTuple]
    refine wpAny_bind (wpAny_newObj_type ?_ (by size_fits))
    refine wpAny_bind (m := firstArgMember _ _) (wpAny_of_eq (a := Value.none) (by first | rfl | (simp only [firstArgMember]; rfl)) ?_)
    refine wpAny_newObj_type ?_ (by size_fits)
    simp only [raiseNew]
    refine wpAny_bind (wpAny_handled ?_)
    first | rw [show A.in1.handled = none from hh] | rw [hh]
    refine wpAny_bind (wpAny_pure (wpAny_throw ?_))
    exact hE _ _ (((Heap.SameBut.update ..).extBut.push _).push _) (fin o _ _ _ ho (Obj.isFreed_of_fields (Obj.data_mapFields hd _))) ⟨_, Heap.get?_push_size _ rfl, rfl⟩
theorem enum_end {A : Around} {s : Shared} {e it : Addr} {x : Str} {t : Tok} {i : Int} {old : Value} {E : Value → Shared → Prop} {Q : Option Value → Shared → Prop} (hh : A.handled = none) (he : IsEnum s.heap e it i old) (hit : s.heap.IsStrIter it (strIterType x) x t x.cps.size)
    (hQ : ∀ h', (∀ b o, b ≠ it → s.heap.get? b = some o → h'.get? b = some o) → (h'.get? it).isSome = true → Q none { s with heap := h' }) : wpAny (model g.prog g.w) A (pyNext (.ref e)) Q E s := by
  have hT : s.TypeIs (.ref e) "enumerate" := ⟨_, he, rfl⟩
  unfold pyNext
  refine wpAny_bind (wpAny_attempt (wpAny_callSpecial?_slot (name := Str.ofString "__next__") hT F.slot_enumerate_next
    (wpAny_call_entry F.slot_enumerate_next hT F.entry_enumerate_next ?_ (F.args_enumerate_next_1 _))))
  show wpAny _ _ (field (.ref e) 2 >>= _) _ _ _
  refine wpAny_bind (wpAny_field he rfl (x := .ref it) rfl ?_)
  refine wpAny_bind (nextOf_end (A := A.in1) hh hit (by simp) fun h' z he' hz hx' => ?_)
  obtain ⟨o, ho, hc⟩ := hx'
  refine wpAny_bind (wpAny_isInstance (T := "StopIteration") (b := true) ⟨o, ho, hc⟩ isSubtype_stop ?_)
  exact wpAny_pure (hQ _ (fun b o hb y => he' b o hb y) hz)

/-- the whole generator, from its start -/
theorem gen_seg {A : Around} (ok : AOk (d + 2) A) (okd : 0 < d) (L : Addr) (x : Str) (s₀ : Shared) (henv : env = callEnvC (fnD (stm 1) nm qn doc pm cd) L a)
    (hbL : g.hB.get? L = none) (hen : g.mg "enumerate" = none) (S : St g env [("addr", .val (.str x))] [] (fun a => g.hB.get? a) s₀) :
    Seg (model g.prog g.w) A (Rg g L (s₀.heap.objs.size + 1) s₀.heap.objs.size) (Yg g L (s₀.heap.objs.size + 1) s₀.heap.objs.size (escs x.cps.toList 0 false)) (escs x.cps.toList 0 false).length s₀ (.func (bodyS (stm 1)) env) ((model g.prog g.w).den (.func (bodyS (stm 1)) env)) [] s₀ := by
  have ok' := over_func (d := d) (A := A) (body := bodyS (stm 1)) (env := env) ok
  have hL : env.locals = L := by subst henv; rfl
  have hc : env.cells = [] := by subst henv; rfl
  have kOf : ∀ {y : Str} {kd : NameKind}, (scopeS (stm 1)).names.lookup y = some kd → env.kindOf y = some kd := fun h => by subst henv; exact h
  refine seg_func ?_
  refine seg_execs_cons (seg_assignC (v0 := .int 0) ok' S (fun A Q hq => wpAny_Constant_int (hq _ _ (.int _ _))) (kOf rfl) fun s₁ S₁ t₁ z₁ => ?_)
  refine seg_execs_cons (seg_assignC (v0 := .bool false) ok' S₁ (fun A Q hq => wpAny_pure (hq _ _ (.bool false))) (kOf rfl) fun s₂ S₂ t₂ z₂ => ?_)
  have hz : s₂.heap.objs.size = s₀.heap.objs.size := z₂.trans z₁
  have t₁₂ := t₁.trans t₂ (fun _ q => .inl q) fun _ q => .inl q
  refine seg_execs_cons (seg_For ?_ (by subst henv; intro x; rfl))
  obtain ⟨val, H, R, _⟩ := S₂.vars "addr" _ (by rfl)
  obtain ⟨tk, rfl⟩ := real_str R
  refine call_name_raw (Name_function_global S₂.ok.fn (kOf rfl) (loadGlobal_builtin (env := env) (by rw [S₂.ok.gl]; exact g.hmg.keeps S₂.toInv.base) hen (by rw [S₂.ok.bi]; exact g.hmb.keeps S₂.toInv.base) ((g.hbb _ (by decide)).trans rfl) ?_) (by decide))
  refine callWith_val (f := .type "enumerate") rfl rfl ?_
  show wpAny _ _ (spliced (backTo _ [(false, eval (.Name "addr" _) env)])) _ _ _
  refine spliced_cons (Holds.load (h := s₂.heap) S₂.ok H (spliced_nil ?_) (by decide) (by decide))
  refine call_enumerate_str fun h' he hit hsz hk => ?_
  refine wpAny_pyIter_enum (e := s₂.heap.objs.size + 1) he fun p => ?_
  rw [hz] at he hit hsz ⊢
  have S₃ := S₂.ext (Ext.keeps S₂.toInv hk s₂.toks)
  have exL : (s₂.heap.get? L).isSome = true := by obtain ⟨m, o, es, ep, ho, _⟩ := S₂.ns; rw [← hL, ho]; rfl
  have neL : ∀ b, s₀.heap.objs.size ≤ b → L ≠ b := fun b hb q => by rw [q, above_none (by rw [hz]; exact hb)] at exL; cases exL
  have hBn : ∀ b, s₀.heap.objs.size ≤ b → g.hB.get? b = none := fun b hb => by
    cases q : g.hB.get? b with
    | none => rfl
    | some o => have := S.toInv.base _ _ q; rw [above_none hb] at this; cases this
  have hb3 : ∀ b, fp3 L (s₀.heap.objs.size + 1) s₀.heap.objs.size b → g.hB.get? b = none := fun b hb => by
    rcases hb with rfl | rfl | rfl
    · exact hbL
    · exact hBn _ (Nat.le_succ _)
    · exact hBn _ (Nat.le_refl _)
  have tr : Tr (fp3 L (s₀.heap.objs.size + 1) s₀.heap.objs.size) no1 (fun a => g.hB.get? a) s₀ (fun a => g.hB.get? a) { s₂ with heap := h' } :=
    (t₁₂.mono_W (fun b q => .inl (q.trans hL)) fun _ q => q).trans (Ext.keeps S₂.toInv hk s₂.toks) (fun _ q => q.elim) fun _ q => q.elim
  have W : ∀ A, AOk d A → WalksT g.prog g.w A (s₀.heap.objs.size + 1) [s₀.heap.objs.size + 1, s₀.heap.objs.size] [s₀.heap.objs.size + 1, s₀.heap.objs.size] x.cps.size
      (fun i vals => ∃ t y, (∃ c u, x.cps[i]? = some c ∧ y = .str ⟨#[c]⟩ u) ∧ vals = #[.int i t, y]) (fun i h => (∃ old, IsEnum h (s₀.heap.objs.size + 1) s₀.heap.objs.size i old) ∧ h.IsStrIter s₀.heap.objs.size (strIterType x) x tk i) _ :=
    fun A a => WalksT.enumerateD (draws_str (A := A.in1) a.1 s₀.heap.objs.size x tk) (s₀.heap.objs.size + 1) (Nat.succ_ne_self _) (by simp) (by simp)
  refine gen_loop (d := d) ok henv ⟨neL _ (Nat.le_succ _), neL _ (Nat.le_refl _)⟩ hb3 W ?_ (fun A a s Q ⟨⟨old, h1⟩, h2⟩ hQ => enum_end a.1 h1 h2 hQ) ?_ x.cps.size 0 0 false _ s₀ (fun a => g.hB.get? a) _ (by simp) (Nat.zero_le _) (by simp) (by simp) (by intro h; cases h) ?_
  · rintro i h ⟨⟨old, h1⟩, ⟨o, h2, _⟩⟩ b hb
    rcases hb with rfl | rfl
    · rw [h1]; rfl
    · rw [h2]; rfl
  · intro n s₁ p' flag Φ s hn hd hp S t ex
    refine seg_leaf (.ok .next) ?_
    exact gen_last (d := d) ok henv ⟨neL _ (Nat.le_succ _), neL _ (Nat.le_refl _)⟩ hb3 hn hd hp S t ex
  · exact ⟨S₃.weak (sub_cons rfl (sub_cons rfl (sub_cons rfl sub_nil))), tr, ⟨⟨_, he⟩, hit⟩, hBn _ (Nat.le_succ _), hBn _ (Nat.le_refl _)⟩
end
end Mine
end

section
set_option maxRecDepth 100000
open PySem PySem.Calls PyProof.Rows PySem.W PySem.Builtin PySem.Builtin.Str
namespace Mine

theorem pyNext_genQ {prog : Program} {w : World} {A : Around} {E : Value → Shared → Prop} {s : Shared} {a : Addr} {g n : Nat} {gs : GenState} {P : Nat → Shared → Shared → Prop} {Y : Protocol} {Q : Option Value → Shared → Prop} (hh : A.handled = none)
    (hl : s.heap.NoLimit) (hroom : A.depth < recursionLimit)
    (hg : s.heap.IsGen a g) (hgs : s.gens[g]? = some gs)
    (hgo : gs.Goes (model prog w) A.in1 (fun n s₀ r s₁ => r = .ok (.ret .none) ∧ P n s₀ s₁) Y n (.send .none) (s.setGen g .running))
    (hY : ∀ v s₁ gs', gs'.bare = true → Y (n - 1) (s.setGen g .running) v s₁ (fun r' s'' => match n with
        | 0 => False
        | m + 1 => gs'.Goes (model prog w) A.in1 (fun n s₀ r s₁ => r = .ok (.ret .none) ∧ P n s₀ s₁) Y m r' s'') → Q (some v) (s₁.setGen g gs'))
    (hP : ∀ s₁, P n (s.setGen g .running) s₁ → ∀ h', (∀ b o, s₁.heap.get? b = some o → h'.get? b = some o) → Q none { s₁.setGen g .finished with heap := h' }) :
    wpAny (model prog w) A (pyNext (.ref a)) Q E s := by
  unfold pyNext
  refine wpAny_bind (wpAny_attempt (wpAny_callSpecial?_slot (name := Str.ofString "__next__") hg.typeIs slot_gen_next
    (wpAny_call_entry slot_gen_next hg.typeIs entry_gen_next ?_ (args_gen_next _))))
  show wpAny _ _ (Builtin.Generator.genWake (.ref a) (.send .none)) _ _ s
  unfold Builtin.Generator.genWake
  refine wpAny_bind (wpAny_holding (wpAny_genNumber hg (wpAny_bind (wpAny_genState hgs ?_))))
  cases gs with
  | running => exact hgo.elim
  | finished => exact hgo.elim
  | _ =>
    refine wpAny_bind (wpAny_roomToWake hl hroom ?_)
    show wpAny _ _ (.resume g (.send .none) [] _) _ _ s
    refine wpAny_resumeQ hgs hgo (fun x s₁ hx => ?_) (fun v s₁ gs' hb hv => ?_)
    · obtain ⟨rfl, hp⟩ := hx
      show wpAny _ _ (newExc (.type "StopIteration") [] >>= _) _ _ _
      refine wpAny_bind ?_
      simp only [newExc, newTuple]
      refine wpAny_bind (wpAny_newObj_type ?_ (by size_fits))
      refine wpAny_bind (m := firstArgMember _ _) (wpAny_of_eq (a := Value.none) (by first | rfl | (simp only [firstArgMember]; rfl)) ?_)
      refine wpAny_newObj_type ?_ (by size_fits)
      simp only [raiseNew]
      refine wpAny_bind (wpAny_bind (wpAny_handled ?_))
      rw [show A.in1.handled = none from hh]
      refine wpAny_throw ?_
      refine wpAny_bind (wpAny_isInstance (T := "StopIteration") (b := true) ⟨_, Heap.get?_push_size _ rfl, rfl⟩ isSubtype_stop ?_)
      exact wpAny_pure (hP s₁ hp _ fun b o hb => Heap.get?_push_of_some _ (Heap.get?_push_of_some _ hb))
    · exact wpAny_pure ⟨v, rfl, wpAny_pure (hY v s₁ gs' hb hv)⟩

noncomputable def escV (p : Int × Str) : V := .tup [.int p.1, .str p.2]

noncomputable def itsG (x : Str) : List (Int × Str) := escs x.cps.toList 0 false
/-- the generator's state: at its start, or k pairs on -/
inductive JS (g : Gd) (A : Around) (L G : Addr) (gi : Nat) (env : Env) (x : Str) (r : List V) (fp : Addr → Prop) (s : Shared) : Prop
  | start : r = (itsG x).map escV → s.gens[gi]? = some (.fresh (.func (bodyS (stm 1)) env)) → (∀ b, fp b ↔ b = L ∨ b = G) → St g env [("addr", .val (.str x))] [] (fun a => g.hB.get? a) s → JS g A L G gi env x r fp s
  | go (k : Nat) (e it : Addr) (gs : GenState) : r = ((itsG x).map escV).drop k → k ≤ (itsG x).length → s.gens[gi]? = some gs → (∀ b, fp b ↔ b = G ∨ fp3 L e it b) → ¬ fp3 L e it G →
      (∀ s'', Agree g (fp3 L e it) s s'' → gs.Goes (model g.prog g.w) A.in1 (Rg g L e it) (Yg g L e it (itsG x)) ((itsG x).length - k) (.send .none) s'') → JS g A L G gi env x r fp s
/-- the generator under way -/
structure JG (g : Gd) (A : Around) (L G : Addr) (gi : Nat) (env : Env) (x : Str) (r : List V) (fp : Addr → Prop) (Φ : FM) (s : Shared) : Prop where
  sup : ∀ a o, g.hB.get? a = some o → Φ a = some o
  held : ∀ a o, Φ a = some o → s.heap.get? a = some o
  gen : s.heap.IsGen G gi
  there : ∀ b, fp b → Φ b = none ∧ (s.heap.get? b).isSome = true
  inG : fp G
  LG : L ≠ G
  bL : g.hB.get? L = none
  st : JS g A L G gi env x r fp s
/-- what a resumption needs -/
inductive JGo (g : Gd) (A : Around) (L G : Addr) (gi : Nat) (x : Str) (r : List V) (fp : Addr → Prop) (s : Shared) : Prop
  | mk (k : Nat) (e it : Addr) (gs : GenState) : r = ((itsG x).map escV).drop k → k ≤ (itsG x).length → s.gens[gi]? = some gs → (∀ b, fp3 L e it b → fp b ∨ s.heap.get? b = none) → ¬ fp3 L e it G →
      gs.Goes (model g.prog g.w) A.in1 (Rg g L e it) (Yg g L e it (itsG x)) ((itsG x).length - k) (.send .none) (s.setGen gi .running) → JGo g A L G gi x r fp s

section
variable {g : Gd} {d : Nat} {A : Around} {L G : Addr} {gi : Nat} {env : Env} {x : Str} {nm qn : Str} {doc pm cd : Value} {a : Addr}

theorem setGen_heap (s : Shared) (gi : Nat) (gs : GenState) : (s.setGen gi gs).heap = s.heap := rfl
theorem setGen_at {s : Shared} {gi : Nat} {gs : GenState} (h : (s.gens[gi]?).isSome = true) : (s.setGen gi gs).gens[gi]? = some gs := by
  obtain ⟨o, ho⟩ := Option.isSome_iff_exists.mp h
  exact setGen_self ho
theorem setGen_not {s : Shared} {gi i : Nat} {gs : GenState} (h : i ≠ gi) : (s.setGen gi gs).gens[i]? = s.gens[i]? := (GenOnly.setGen s gi gs).2 i h
theorem setGen_bare {s : Shared} {gi : Nat} {gs : GenState} (hs : (s.gens[gi]?).isSome = true) (hb : gs.bare = true) (h : AllBare s.gens) : AllBare (s.setGen gi gs).gens := fun y hy => by
  obtain ⟨i, hi, rfl⟩ := Array.mem_iff_getElem.mp hy
  by_cases e : i = gi
  · subst e
    have := setGen_at (gs := gs) hs
    rw [Array.getElem?_eq_getElem hi] at this
    rw [Option.some.inj this]; exact hb
  · have h1 := setGen_not (s := s) (gs := gs) e
    rw [Array.getElem?_eq_getElem hi] at h1
    obtain ⟨hi', e'⟩ := Array.getElem?_eq_some_iff.mp h1.symm
    exact e' ▸ h _ (Array.getElem_mem hi')

theorem addrσ {x : Str} : ∀ y sl, List.lookup y ([("addr", .val (.str x))] : Sg) = some sl → ∃ v, sl = .val v ∧ prim v = true := fun y sl h => by
  have := mem_of_lookup h
  simp at this
  exact ⟨_, this.2, rfl⟩
/-- what a resumption needs of the generator under way -/
theorem JG.goes {r : List V} {fp : Addr → Prop} {Φ : FM} {s : Shared} (ok : AOk 4 A) (henv : env = callEnvC (fnD (stm 1) nm qn doc pm cd) L a) (hen : g.mg "enumerate" = none) (J : JG g A L G gi env x r fp Φ s) : JGo g A L G gi x r fp s := by
  have exG := (J.there G J.inG).2
  cases J.st with
  | start h1 h2 h3 h4 =>
    have S' : St g env [("addr", .val (.str x))] [] (fun a => g.hB.get? a) (s.setGen gi .running) := st_again h4 (by subst henv; rfl) (by subst henv; rfl) addrσ J.bL (fun o h => h) h4.held
    exact ⟨0, s.heap.objs.size + 1, s.heap.objs.size, _, h1, Nat.zero_le _, h2, fun b hb => hb.elim (fun q => .inl ((h3 b).mpr (.inl q))) fun q => .inr (q.elim (fun q => q ▸ above_none (Nat.le_succ _)) fun q => q ▸ size_none _),
      fun q => q.elim (fun q => J.LG q.symm) fun q => in_out exG (q.elim (fun q => q ▸ above_none (Nat.le_succ _)) fun q => q ▸ size_none _), rfl, gen_seg (d := 1) (A := A.in1) ok.in1 (by decide) L x _ henv J.bL hen S'⟩
  | go k e it gs h1 hk1 h2 h3 h4 h5 => exact ⟨k, e, it, gs, h1, hk1, h2, fun b hb => .inl ((h3 b).mpr (.inr hb)), h4, h5 _ ⟨fun b hb o ho => ho, fun b o ho => J.held b o (J.sup b o ho)⟩⟩
theorem JG.keeps {r : List V} {fp : Addr → Prop} {Φ Φ' : FM} {s s' : Shared} (henv : env = callEnvC (fnD (stm 1) nm qn doc pm cd) L a) (J : JG g A L G gi env x r fp Φ s) (hk : ∀ b, fp b → ∀ o, s.heap.get? b = some o → s'.heap.get? b = some o) (m : FLe Φ Φ') (held : ∀ a o, Φ' a = some o → s'.heap.get? a = some o)
    (fr : ∀ b, fp b → Φ' b = none) (hg : s'.gens[gi]? = s.gens[gi]?) : JG g A L G gi env x r fp Φ' s' where
  sup := fun b o h => m b o (J.sup b o h)
  held := held
  gen := let ⟨o, nm, qn, ho, q⟩ := J.gen; ⟨o, nm, qn, hk G J.inG o ho, q⟩
  there := fun b hb => ⟨fr b hb, by obtain ⟨o, ho⟩ := Option.isSome_iff_exists.mp (J.there b hb).2; exact in_some (hk b hb o ho)⟩
  inG := J.inG
  LG := J.LG
  bL := J.bL
  st := match J.st with
    | .start h1 h2 h3 h4 => .start h1 (hg.trans h2) h3 (st_again h4 (by subst henv; rfl) (by subst henv; rfl) addrσ J.bL (fun o => hk L ((h3 L).mpr (.inl rfl)) o) fun b o h => held b o (m b o (J.sup b o h)))
    | .go k e it gs h1 hk1 h2 h3 h4 h5 => .go k e it gs h1 hk1 (hg.trans h2) h3 h4 fun s'' ag => h5 s'' ⟨fun b hb o ho => ag.1 b hb o (hk b ((h3 b).mpr (.inr hb)) o ho), ag.2⟩
theorem JG.gth {r : List V} {fp : Addr → Prop} {Φ : FM} {s : Shared} (J : JG g A L G gi env x r fp Φ s) : (s.gens[gi]?).isSome = true := by
  cases J.st with
  | start _ h => rw [h]; rfl
  | go _ _ _ _ _ _ h => rw [h]; rfl
theorem idx_eq {N k n : Nat} (hk : k ≤ N) (h : N - k = n + 1) : N - 1 - (n + 1 - 1) = k ∧ N - (k + 1) = n := by
  have e : N = n + 1 + k := (Nat.sub_eq_iff_eq_add hk).mp h
  refine ⟨?_, (Nat.sub_add_eq N k 1).trans (congrArg (· - 1) h)⟩
  rw [e, Nat.sub_sub, Nat.add_comm 1]
  exact Nat.add_sub_cancel_left (n + 1) k
theorem gen_next {v : V} {r : List V} {fp : Addr → Prop} {Φ : FM} {s : Shared} {target : Expr} (ok' : AOk d A) (h4 : 4 ≤ d) (henv : env = callEnvC (fnD (stm 1) nm qn doc pm cd) L a) (hen : g.mg "enumerate" = none) (ht : isTupT target) (inv : Inv g Φ s) (J : JG g A L G gi env x (v :: r) fp Φ s) :
    wpAny (model g.prog g.w) A (pyNext (.ref G)) (fun o s₁ => ∃ x', o = some x' ∧ wpAny (model g.prog g.w) A (letOwnedTupleGo target (.ref G) x') (fun _ s₂ => NextD g fp (fun i => i = gi) Φ s v x' (JG g A L G gi env x r) s₂) bot s₁) bot s := by
  obtain ⟨k, e, it, gs, hr, hk, hgs, hsub, hG3, hgo⟩ := J.goes (ok'.le h4) henv hen
  obtain ⟨hlt, hv, rfl⟩ := drop_cons hr
  have hlt' : k < (itsG x).length := by rw [List.length_map] at hlt; exact hlt
  obtain ⟨n, hn⟩ : ∃ n, (itsG x).length - k = n + 1 := ⟨(itsG x).length - k - 1, (Nat.succ_pred_eq_of_pos (Nat.sub_pos_of_lt hlt')).symm⟩
  rw [hn] at hgo
  have exG := (J.there G J.inG).2
  have hgsome := J.gth
  refine pyNext_genQ (P := fun n s₀ s₁ => n = 0 ∧ Keep3 g L e it s₀ s₁) ok'.1 (g.nolimit.keeps inv.base) ok'.room J.gen hgs hgo (fun v' s₁ gs' hb hY => ?_) (fun s₁ hp h' hk' => absurd hp.1 (Nat.succ_ne_zero n))
  obtain ⟨p, c, T, t, u, hit, e1, hT0, hT3, hT', ⟨Φ1, tr⟩, hex, hκ⟩ := hY
  have hT0 : s.heap.get? T = none := hT0
  rw [(idx_eq hk hn).1] at hit
  have keepN : ∀ b o, ¬ fp b → s.heap.get? b = some o → s₁.heap.get? b = some o := fun b o hb ho => tr.keep b o ho fun w => (hsub b w).elim hb fun q => in_out (in_some ho) q
  obtain ⟨oG, nmG, qnG, hoG, hcG, hdG, hslG⟩ := J.gen
  have hoG1 : s₁.heap.get? G = some oG := tr.keep G oG hoG hG3
  have hg1 : (s₁.gens[gi]?).isSome = true := by rw [tr.gens gi .running (fun q => q) (setGen_at hgsome)]; rfl
  have hTn : Φ T = none := inv.none hT0
  have hh : ∀ b o, (Φ.put T (tupO [.int p t, .str c u] 0)) b = some o → (s₁.setGen gi gs').heap.get? b = some o := fun b o ho => (FM.put_cases ho).elim (fun q => by rw [q.1, ← q.2]; exact hT') fun q => keepN b o (fun hb => by rw [(J.there b hb).1] at q; cases q.2) (J.held b o q.2)
  have hGT : G ≠ T := fun q : G = T => in_out exG (q.symm ▸ hT0)
  refine ⟨v', rfl, ?_⟩
  subst e1
  refine wpAny_mono (letGo_plain (s := s₁.setGen gi gs') (target := target) (by cases target <;> first | exact ht.elim | trivial) (show (s₁.setGen gi gs').heap.get? G = some oG from hoG1) hcG hdG (by decide)) (fun _ s₂ e2 => ?_) fun _ _ f => f
  subst e2
  refine ⟨Φ.put T (tupO [.int p t, .str c u] 0), fun b => b = G ∨ fp3 L e it b, ⟨fun b o ho hb => keepN b o hb ho, FM.put_le hTn, fun b o ho => (FM.put_cases ho).elim (fun q => .inr (.inl (q.1 ▸ hT0))) fun q => .inl q.2, hh,
    fun i st hi hst => (setGen_not hi).trans (tr.gens i st (fun q => q) ((setGen_not hi).trans hst)), fun hb0 => setGen_bare hg1 hb (tr.bare (setGen_bare hgsome rfl hb0)), tr.os⟩, fun b hb => hb.elim (fun q => .inl (q ▸ J.inG)) (hsub b), ?_, ?_⟩
  · have : v = escV (p, c) := by
      rw [List.getElem?_map, hit] at hv
      exact (Option.some.inj hv).symm
    rw [this]
    exact .tup (xs := [.int p t, .str c u]) (FM.put_self ..) rfl rfl (.cons (.int _ _) (.cons (.str _ _) .nil))
  · refine ⟨fun b o ho => FM.put_le hTn b o (J.sup b o ho), hh, ⟨oG, nmG, qnG, hoG1, hcG, hdG, hslG⟩, fun b hb => ?_, .inl rfl, J.LG, J.bL, .go (k + 1) e it gs' rfl hlt' (setGen_at hg1) (fun b => Iff.rfl) hG3 fun s'' ag => ?_⟩
    · rcases hb with rfl | hb
      · exact ⟨(if_neg hGT).trans (J.there b J.inG).1, in_some hoG1⟩
      · exact ⟨(if_neg fun q : b = T => hT3 (q ▸ hb)).trans ((hsub b hb).elim (fun q => (J.there b q).1) inv.none), hex b hb⟩
    · rw [(idx_eq hk hn).2]
      exact hκ s'' ag
theorem gen_done {fp : Addr → Prop} {Φ : FM} {s : Shared} (ok' : AOk d A) (h4 : 4 ≤ d) (henv : env = callEnvC (fnD (stm 1) nm qn doc pm cd) L a) (hen : g.mg "enumerate" = none) (inv : Inv g Φ s) (J : JG g A L G gi env x [] fp Φ s) :
    wpAny (model g.prog g.w) A (pyNext (.ref G)) (fun o s₁ => o = none ∧ ∃ Φ', Tr fp (fun i => i = gi) Φ s Φ' s₁) bot s := by
  obtain ⟨k, e, it, gs, hr, hk, hgs, hsub, hG3, hgo⟩ := J.goes (ok'.le h4) henv hen
  have hn : (itsG x).length - k = 0 := Nat.sub_eq_zero_of_le (by have := List.drop_eq_nil_iff.mp hr.symm; rw [List.length_map] at this; exact this)
  rw [hn] at hgo
  have hgsome := J.gth
  refine pyNext_genQ (P := fun n s₀ s₁ => n = 0 ∧ Keep3 g L e it s₀ s₁) ok'.1 (g.nolimit.keeps inv.base) ok'.room J.gen hgs hgo (fun v' s₁ gs' hb hY => ?_) (fun s₁ ⟨_, Φ1, tr⟩ h' hk' => ?_)
  · obtain ⟨p, c, T, t, u, hit, e1, hT0, hT3, hT', ⟨Φ1, tr⟩, hex, hκ⟩ := hY
    exact (hκ s₁ ⟨fun b hb o ho => ho, fun b o ho => tr.held b o (tr.mono b o ho)⟩).elim
  · have hg1 : (s₁.gens[gi]?).isSome = true := by rw [tr.gens gi .running (fun q => q) (setGen_at hgsome)]; rfl
    have keepN : ∀ b o, ¬ fp b → s.heap.get? b = some o → h'.get? b = some o := fun b o hb ho => hk' b o (tr.keep b o ho fun w => (hsub b w).elim hb fun q => in_out (in_some ho) q)
    exact ⟨rfl, Φ, fun b o ho hb => keepN b o hb ho, .rfl' _, fun b o ho => .inl ho, fun b o ho => keepN b o (fun hb => by rw [(J.there b hb).1] at ho; cases ho) (J.held b o ho),
      fun i st hi hst => (setGen_not hi).trans (tr.gens i st (fun q => q) ((setGen_not hi).trans hst)), fun hb0 => setGen_bare hg1 rfl (tr.bare (setGen_bare hgsome rfl hb0)), tr.os⟩
theorem gen_iter (ok' : AOk d A) (h4 : 4 ≤ d) (henv : env = callEnvC (fnD (stm 1) nm qn doc pm cd) L a) (hen : g.mg "enumerate" = none) :
    IterD g d A G isTupT (fun i => i = gi) (JG g A L G gi env x) where
  stable := fun r fp Φ s Φ' s' J hk m held fr hg => J.keeps henv hk m held fr (hg gi rfl)
  there := fun r fp Φ s J => J.there
  gthere := fun r fp Φ s J i e => e ▸ J.gth
  next := fun v r fp Φ s target ht inv J => gen_next ok' h4 henv hen ht inv J
  done := fun fp Φ s inv J => gen_done ok' h4 henv hen inv J
  self := fun r fp Φ s inv J => wpAny_pyIter_gen J.gen ⟨rfl, rfl⟩

/-- the generator function of the text -/
structure GnAt (g : Gd) (a : Addr) (fd : FuncData) : Prop where
  obj : ∃ o, g.hB.get? a = some o ∧ o.data = .func fd
  code : g.hB.CodeRec fd.code fd.qualname
theorem GnAt.callee {fd : FuncData} (F : GnAt g a fd) : Callee g (.ref a) := let ⟨o, h1, h2⟩ := F.obj; .inr ⟨a, o, fd, rfl, h1, h2⟩
theorem call_gen {target : Expr} {K : List V → Prop} (F : GnAt g a (fnD (stm 1) nm qn doc pm cd)) (hen : g.mg "enumerate" = none) (h : K ((escs x.cps.toList 0 false).map escV)) (ht : isTupT target := by trivial) :
    ItCall g (d + 5) target (.ref a) [.str x] K := fun A Φ s xs ok i r => by
  cases r with | cons r1 r =>
    cases r
    obtain ⟨tk, rfl⟩ := real_str r1
    obtain ⟨o, ho, hd⟩ := F.obj
    refine wpAny_call ?_
    refine codeAny_call_generator (fd := fnD (stm 1) nm qn doc pm cd) (body := bodyS (stm 1)) ok.room (i.base _ _ ho) hd rfl rfl rfl (F.code.keeps i.base) ?_
    have hb : bindArgs (fnD (stm 1) nm qn doc pm cd) ⟨[.str x tk], []⟩ = pure [(("addr" : Str), Value.str x tk)] := rfl
    rw [hb]
    refine wpAny_pure (wpAny_newFunctionEnv_cells rfl (fun y hy => by simp at hy; subst hy; exact .inl rfl) fun env he s' xx => ?_)
    obtain ⟨h₁, tk', rfl⟩ := xx.toInCall.same
    have e₁ : Ext Φ s Φ { s with heap := h₁, toks := tk' } := Ext.keeps i xx.toInCall.keep tk'
    have i₁ := i.ext e₁
    have henv : env = callEnvC (fnD (stm 1) nm qn doc pm cd) s.heap.objs.size a := he
    have hL : env.locals = s.heap.objs.size := by rw [henv]; rfl
    refine ⟨g.nolimit.keeps i₁.base, ?_⟩
    generalize hGo : ({ cls := .type "generator", data := .fields #[.int s.gens.size 0, .str (fnD (stm 1) nm qn doc pm cd).name tk', .str (fnD (stm 1) nm qn doc pm cd).qualname (tk' + 1)] } : Obj) = Go
    have hGf : Go.isFreed = false := by rw [← hGo]; rfl
    have exL : (h₁.get? s.heap.objs.size).isSome = true := by
      obtain ⟨o, es, ep, ho, _⟩ := xx.toInCall.ns; rw [hL] at ho; rw [ho]; rfl
    have hLlt : s.heap.objs.size < h₁.objs.size := by obtain ⟨o, ho⟩ := Option.isSome_iff_exists.mp exL; exact Heap.lt_size ho
    have hGat : (h₁.push Go).get? h₁.objs.size = some Go := Heap.get?_push_size _ hGf
    have hgen : (h₁.push Go).IsGen h₁.objs.size s.gens.size := ⟨Go, _, _, hGat, by rw [← hGo], by rw [← hGo], by rw [← hGo]⟩
    have e₂ : Ext Φ s Φ { s with gens := s.gens.push (.fresh (.func (bodyS (stm 1)) env)), toks := tk' + 1 + 1, heap := h₁.push Go } :=
      ⟨fun b o hb _ => Heap.get?_push_of_some _ (xx.toInCall.keep b o hb), .rfl' _, fun b o hb => .inl hb, fun b o hb => Heap.get?_push_of_some _ (i₁.held b o hb), fun j st _ hj => by
        show (s.gens.push _)[j]? = some st
        have hlt : j < s.gens.size := (Array.getElem?_eq_some_iff.mp hj).1
        rw [Array.getElem?_push, if_neg (by exact fun hh => no10 (le2 (c2 _ _) (.a (.v 0) (.n 1)) (.v 1) (.v 1) (.v 0) (.n 1) (.n 0) hlt (Nat.le_of_eq hh.symm)))]; exact hj, fun hb => AllBare.push hb rfl, rfl⟩
    have hbn : g.hB.get? s.heap.objs.size = none := by
      cases q : g.hB.get? s.heap.objs.size with
      | none => rfl
      | some o => have := i.base _ _ q; rw [size_none] at this; cases this
    have S0 : St g env [("addr", .val (.str x))] [] (fun a => g.hB.get? a) { s with gens := s.gens.push (.fresh (.func (bodyS (stm 1)) env)), toks := tk' + 1 + 1, heap := h₁.push Go } := by
      have hns := xx.toInCall.ns.push Go
      refine { sup := fun a o h => h, held := fun b o hb => e₂.held b o (i.sup b o hb), ok := ?_, ns := ⟨_, hns⟩, lf := by rw [hL]; exact hbn, cs := fun y c hc => ?_, apart := ?_, ow := fun a h => (nomatch h), vars := fun y sl hy => ?_, sep := fun y z sl sl' a _ h1 o1 => ?_ }
      · subst henv; exact ⟨rfl, rfl, rfl⟩
      · subst henv; cases hc
      · subst henv; exact .nil
      · have hm := mem_of_lookup hy
        simp at hm
        obtain ⟨rfl, rfl⟩ := hm
        exact ⟨.str x tk, .inl ⟨by subst henv; rfl, _, hns, by subst henv; rfl⟩, .str _ _, fun q => by cases q⟩
      · have hm := mem_of_lookup h1
        simp at hm
        obtain ⟨rfl, rfl⟩ := hm
        cases o1
    refine wpAny_pyIter_gen (a := h₁.objs.size) (g := s.gens.size) hgen ?_
    refine ⟨Φ, h₁.objs.size, isTupT, (fun b => b = s.heap.objs.size ∨ b = h₁.objs.size), (fun j => j = s.gens.size), JG g A s.heap.objs.size h₁.objs.size s.gens.size env x, (escs x.cps.toList 0 false).map escV, rfl, e₂,
      ?_, ht, ?_, fun b hb => ?_, fun j hj => ?_, h⟩
    · have := gen_iter (g := g) (d := d + 5) (A := A) (L := s.heap.objs.size) (G := h₁.objs.size) (gi := s.gens.size) (x := x) ok (by exact le0 (c1 _) (.n 4) (.a (.v 0) (.n 5))) henv hen
      exact this
    · refine ⟨i.sup, e₂.held, hgen, fun b hb => ?_, .inr rfl, Nat.ne_of_lt hLlt, hbn, .start rfl ?_ (fun b => Iff.rfl) S0⟩
      · rcases hb with rfl | rfl
        · refine ⟨i.none (size_none _), ?_⟩
          obtain ⟨o, ho⟩ := Option.isSome_iff_exists.mp exL
          show ((h₁.push Go).get? _).isSome = true
          rw [Heap.get?_push_of_some _ ho]; rfl
        · exact ⟨i₁.none (size_none _), by show ((h₁.push Go).get? _).isSome = true; rw [hGat]; rfl⟩
      · show (s.gens.push _)[s.gens.size]? = _
        rw [Array.getElem?_push_size]
    · rcases hb with rfl | rfl
      · exact size_none _
      · exact above_none (Nat.le_of_lt hLlt)
    · subst hj
      simp
end
end Mine
end

section
set_option maxRecDepth 100000
open PySem PySem.Calls PyProof.Rows PySem.W PySem.Builtin PySem.Builtin.Str
namespace Mine

section
variable {g : Gd} {d : Nat} {env : Env} {σ : Sg} {K : Fl → Sg → Prop}

theorem SPost.mono {O Φ s} {K K' : Fl → Sg → Prop} {f s'} (h : SPost g env O Φ s K f s') (hk : ∀ f σ, K f σ → K' f σ) : SPost g env O Φ s K' f s' :=
  let ⟨Φ', σ', O', fv, a, b, c, e, k⟩ := h; ⟨Φ', σ', O', fv, a, b, c, e, hk _ _ k⟩
theorem Ex.mono {st} {K K' : Fl → Sg → Prop} (h : Ex g d env σ st K) (hk : ∀ f σ, K f σ → K' f σ) : Ex g d env σ st K' := fun A Φ s O a S => wpAny_mono (h A Φ s O a S) (fun _ _ x => SPost.mono x hk) fun _ _ f => f
theorem Exs.mono {ss} {K K' : Fl → Sg → Prop} (h : Exs g d env σ ss K) (hk : ∀ f σ, K f σ → K' f σ) : Exs g d env σ ss K' := fun A Φ s O a S => wpAny_mono (h A Φ s O a S) (fun _ _ x => SPost.mono x hk) fun _ _ f => f
noncomputable def joinK (P : Sg → Prop) (K : Fl → Sg → Prop) : Fl → Sg → Prop := fun f σ => match f with
  | .next => P σ
  | f => K f σ
/-- an if whose two ways meet again -/
theorem ex_if_join (P : Sg → Prop) {t b o pos} (h : Ts g d env σ t fun c => (c = true → Exs g d env σ b (joinK P K)) ∧ (c = false → Exs g d env σ o (joinK P K))) (hP : ∀ σ', P σ' → K .next σ') : Ex g d env σ (.If t b o pos) K :=
  (ex_if h).mono fun f σ k => by cases f <;> first | exact hP _ k | exact k
theorem loop_inv {target body} (I : List V → Sg → Prop) (step : ∀ v r σ, I (v :: r) σ → As g d env σ target v fun σ' => Exs g d env σ' body (turnK K fun σ'' => ∃ σ₁, Sub σ₁ σ'' ∧ I r σ₁)) (done : ∀ σ, I [] σ → K .next σ) :
    ∀ items σ, I items σ → loopP g d env target body K items σ
  | [], σ, h => done σ h
  | v :: r, σ, h => fun A Φ s O x a S rx => wpAny_mono (step v r σ h A Φ s O x a S rx) (fun _ _ ⟨Φ', σ', t, S', e⟩ => ⟨Φ', σ', t, S', e.mono fun f σ'' k => by
      cases f with
      | next => obtain ⟨σ₁, h1, h2⟩ := k; exact ⟨σ₁, h1, loop_inv I step done r σ₁ h2⟩
      | cont => obtain ⟨σ₁, h1, h2⟩ := k; exact ⟨σ₁, h1, loop_inv I step done r σ₁ h2⟩
      | brk => exact k
      | ret u => exact k⟩) fun _ _ f => f
theorem seq_weak {rest σ'} (hs : Sub σ' σ) (h : Exs g d env σ' rest K) : seqK g d env rest K .next σ := exs_weak h hs
end

/-- a def of the text by its name -/
noncomputable def Fn (g : Gd) (name : Str) (a : Addr) (i : Nat) (ps : List Str) : Prop := g.mg name = some (.ref a) ∧ ∃ nm qn doc pm cd, FnAt g a (fnD (stm i) nm qn doc pm cd) (bodyS (stm i)) ps
theorem Fn.callee {g : Gd} {name : Str} {a : Addr} {i : Nat} {ps : List Str} (F : Fn g name a i ps) : Callee g (.ref a) := let ⟨_, _, _, _, _, _, f⟩ := F; f.callee
theorem Fn.call {g : Gd} {d : Nat} {name : Str} {a : Addr} {i : Nat} {ps : List Str} {vs : List V} {K : V → Prop} (F : Fn g name a i ps) (hl : vs.length = ps.length)
    (h : ∀ L nm qn doc pm cd, Exs g d (callEnvC (fnD (stm i) nm qn doc pm cd) L a) (ps.zip (vs.map Slot.val)) (bodyS (stm i)) (retK K)) : CallOk g (d + 1) (.ref a) vs K := by
  obtain ⟨_, nm, qn, doc, pm, cd, f⟩ := F
  exact call_fn f hl fun L => h L nm qn doc pm cd

section
variable {g : Gd} {d : Nat} {env : Env} {σ : Sg}
noncomputable def CallN (g : Gd) (d : Nat) (f : Value) (vs : List V) (K : Slot → Prop) : Prop :=
  ∀ A Φ s xs, AOk d A → Inv g Φ s → Reals g Φ vs xs → wpAny (model g.prog g.w) A (call f xs) (PostN g Φ s K) bot s
theorem evn_meth {o name apos es pos} {K : Slot → Prop} (h : Ev g d env σ o fun v => ∃ f, Meth g d name v f ∧ Evs g d env σ es fun vs => CallN g d f (v :: vs) K) (hfew : decide (es.length + 0 < 30) = true := by with_unfolding_all rfl) (hp : plainArgs es = true := by with_unfolding_all rfl) (hline : (apos.endLine == pos.line) = true := by with_unfolding_all rfl)
    (hb : attributeBase o name env (eval o env) = eval o env := by with_unfolding_all rfl) : EvN g d env σ (.Call (.Attribute o name apos) es [] pos) K := fun A Φ s a R => by
  rw [arm_eval_Call, hb]
  refine wpAny_bind (wpAny_mono (h A Φ s a R) (fun x s₁ ⟨Φ₁, v, e₁, r₁, f, hm, k₁⟩ => ?_) fun _ _ f => f)
  refine wpAny_bind (wpAny_standAt (methodCall_few hfew hp hline ?_))
  refine wpAny_mono (hm.2 A Φ₁ s₁ x _ a (R.ext e₁).toInv r₁) (fun fx s₂ ⟨hfx, e₂⟩ => ?_) fun _ _ f => f
  subst hfx
  refine callWith_ok hm.1 hp a ((R.ext e₁).ext e₂) k₁ fun Φ₃ s₃ vs xs e₃ r₃ k₃ => ?_
  refine wpAny_mono (k₃ A Φ₃ s₃ (x :: xs) a (((R.ext e₁).ext e₂).ext e₃).toInv (.cons ((r₁.mono e₂.mono).mono e₃.mono) r₃)) (fun y s₄ ⟨Φ₄, sl, e₄, r₄, n₄, k₄⟩ => ?_) fun _ _ f => f
  have e := ((Tr.ext e₁ e₂).ext e₃)
  refine ⟨Φ₄, sl, e.ext e₄, r₄, fun q a ha => ?_, k₄⟩
  cases z : s.heap.get? a with
  | none => rfl
  | some o => have := Ext.kept e _ _ z; rw [n₄ q a ha] at this; cases this
theorem call_split_own {K : Slot → Prop} {a b : Str} (hy : (b.length == 0) = false) (hs : a.length ≤ sizeLine) (h2 : (partsBetween a (occurrences a b 0 a.length (a.length + 1)) b.length).length ≤ sizeLine) (h : K (.own ((Txt.split a b).map V.str))) : CallN g d (.builtin "str.split") [.str a, .str b] K := fun A Φ s xs ok i r => by
  refine r.on2 fun _ _ r1 r2 => ?_
  refine r1.onS fun _ => ?_
  refine r2.onS fun _ => ?_
  exact split_go hy hs h2 fun l n k e =>
    ⟨Φ, .own ((Txt.split a b).map V.str), Ext.push' i _ k, ⟨_, strValues l, n, rfl, i.none (size_none _), Heap.get?_push_size _ rfl, by rw [← e, List.map_map]; exact reals_strs⟩, fun _ b hb => by cases hb; exact size_none _, h⟩
end
end Mine
end

section
set_option maxRecDepth 100000
set_option maxHeartbeats 400000
open PySem PySem.Calls PyProof.Rows PySem.W PySem.Builtin PySem.Builtin.Str
namespace Mine
/-- what the module holds -/
structure Lb (g : Gd) : Prop where
  it : g.mg "_iter_escaped_chars" = some (.ref 21)
  itg : ∃ nm qn doc pm cd, GnAt g 21 (fnD (stm 1) nm qn doc pm cd)
  strip : Fn g "_strip_quoted_realnames" 28 2 ["addr"]
  check : Fn g "_check_parenthesis" 35 3 ["addr"]
  pre : Fn g "_pre_parse_validation" 42 4 ["email_header_fields"]
  ell : Fn g "_ellipsis_match" 49 7 ["want", "got"]
  mark : ∃ tk, g.mg "ELLIPSIS_MARKER" = some (.str "..." tk)
  fss : Fn g "func_std_string" 84 10 ["func_name"]
  afs : Fn g "add_func_stats" 91 11 ["target", "source"]
  ac : Fn g "add_callers" 98 12 ["target", "source"]
  cc : Fn g "count_calls" 105 13 ["callers"]
  told : Fn g "_law_told" 110 15 ["told", "due"]
  dots : Fn g "_law_dots" 115 16 ["a", "b"]
  fns : Fn g "_law_functions" 122 17 ["names", "forms"]
  deeds : Fn g "_law_deeds" 127 18 ["coming", "wanted", "keys", "order"]
  stands : Fn g "_law_stands" 134 19 ["wants", "page"]
  hide : Fn g "_law_hide" 141 20 ["rows", "number"]
  tc : g.mg "TupleComp" = some (.ref 73)
  bi : ∀ x ∈ (["len", "enumerate", "range", "zip", "max", "sum", "str", "sorted", "isinstance", "tuple"] : List Str), g.mg x = none

--MACRO--

section
variable {g : Gd} {d : Nat} {K : V → Prop}
theorem bin_divn {a b : Int} (h0 : 0 < b) (h1 : b < 2 ^ 30) (h : K (.int (a / b))) : BinOk g d .FloorDiv (.int a) (.int b) K := by
  refine bin_div (by simp; lia) ?_ ?_
  · intro hp
    unfold Builtin.divisionGoesByPylong at hp
    have hb : b ≠ 0 := by omega
    have h2 : b.natAbs.log2 < 30 := (Nat.log2_lt (by omega)).mpr (by omega)
    simp [hb] at hp
    lia
  · rw [Int.fdiv_eq_ediv_of_nonneg _ (by lia)]; exact h
theorem bin_modn {a b : Int} (h0 : 0 < b) (h : K (.int (a % b))) : BinOk g d .Mod (.int a) (.int b) K := by
  refine bin_mod (by simp; lia) ?_
  rw [Int.fmod_eq_emod_of_nonneg _ (by lia)]; exact h
theorem bin_pown {a : Int} {k : Nat} (ha : a = 2 ∨ a = 7) (hk : k < 4) (h : K (.int (a ^ k))) : BinOk g d .Pow (.int a) (.int (k : Int)) K := by
  refine bin_pow (by lia) ?_ ?_ ?_ (by simpa using h)
  · rcases ha with rfl | rfl <;> decide
  · rcases ha with rfl | rfl <;> decide
  · rcases ha with rfl | rfl <;> (rcases k with _ | _ | _ | _ | k) <;> first | decide | (decide +kernel) | exact fun hh => no10 (le1 (c1 _) (.a (.a (.a (.a (.a (.v 0) (.n 1)) (.n 1)) (.n 1)) (.n 1)) (.n 1)) (.n 4) (.n 1) (.n 0) hk)
end
section
variable {g : Gd} {d : Nat} {env : Env} {σ : Sg}
/-- an expression with its value -/
structure EvE (g : Gd) (d : Nat) (env : Env) (σ : Sg) (e : Expr) (v : V) : Prop where
  x : Ev g d env σ e fun u => u = v
structure EvsE (g : Gd) (d : Nat) (env : Env) (σ : Sg) (es : List Expr) (vs : List V) : Prop where
  x : Evs g d env σ es fun u => u = vs
structure EvPE (g : Gd) (d : Nat) (env : Env) (σ : Sg) (e : Option Expr) (i : Option Int) : Prop where
  x : EvP g d env σ e fun u => u = i
structure TsE (g : Gd) (d : Nat) (env : Env) (σ : Sg) (e : Expr) (c : Bool) : Prop where
  x : Ts g d env σ e fun u => u = c
theorem Evs.mono {es} {K K' : List V → Prop} (h : Evs g d env σ es K) (hk : ∀ v, K v → K' v) : Evs g d env σ es K' := fun A Φ s pos a R => wpAny_mono (h A Φ s pos a R) (fun _ _ ⟨Φ', vs, e, r, k⟩ => ⟨Φ', vs, e, r, hk vs k⟩) fun _ _ f => f
theorem EvP.mono {e} {K K' : Option Int → Prop} (h : EvP g d env σ e K) (hk : ∀ v, K v → K' v) : EvP g d env σ e K' := fun A Φ s a R => wpAny_mono (h A Φ s a R) (fun _ _ ⟨Φ', i, e, r, k⟩ => ⟨Φ', i, e, r, hk i k⟩) fun _ _ f => f
theorem compP.mono {target ifs elt} {K K' : List V → Prop} (hk : ∀ v, K v → K' v) : ∀ (l acc : List V), compP g d env σ target ifs elt K l acc → compP g d env σ target ifs elt K' l acc
  | [], _, h => hk _ h
  | v :: r, acc, h => ⟨h.1, h.2.mono fun σ' ⟨a, b⟩ => ⟨a, b.mono fun ok ⟨c, e⟩ => ⟨fun q => (c q).mono fun u k => compP.mono hk r _ k, fun q => compP.mono hk r _ (e q)⟩⟩⟩
theorem ev_to {e v} {K : V → Prop} (h : EvE g d env σ e v) (k : K v) : Ev g d env σ e K := Ev.mono h.x fun _ q => q ▸ k
theorem evs_to {es vs} {K : List V → Prop} (h : EvsE g d env σ es vs) (k : K vs) : Evs g d env σ es K := Evs.mono h.x fun _ q => q ▸ k
theorem evp_to {e i} {K : Option Int → Prop} (h : EvPE g d env σ e i) (k : K i) : EvP g d env σ e K := EvP.mono h.x fun _ q => q ▸ k
theorem ts_to {e c} {K : Bool → Prop} (h : TsE g d env σ e c) (k : K c) : Ts g d env σ e K := Ts.mono h.x fun _ q => q ▸ k
theorem eve_of {e v} (h : Ev g d env σ e fun u => u = v) : EvE g d env σ e v := ⟨h⟩
theorem eve_int {i k pos} : EvE g d env σ (.Constant (.int i) k pos) (.int i) := ⟨ev_int rfl⟩
theorem eve_str {x k pos} : EvE g d env σ (.Constant (.str x) k pos) (.str x) := ⟨ev_str rfl⟩
theorem eve_none {k pos} : EvE g d env σ (.Constant .none k pos) .none := ⟨ev_none rfl⟩
theorem eve_bool {b k pos} : EvE g d env σ (.Constant (.bool b) k pos) (.bool b) := ⟨ev_bool rfl⟩
theorem eve_var {x pos v} (hv : σ.lookup x = some (.val v)) (hd : (x == ("__debug__" : Str)) = false := by decide) (hn : (x == ("__classdict__" : Str)) = false := by decide) : EvE g d env σ (.Name x pos) v := ⟨ev_var hv rfl hd hn⟩
theorem eve_glob {x pos v} (hk : env.kindOf x = some .globalImplicit) (hv : g.mg x = some v) (hd : (x == ("__debug__" : Str)) = false := by decide) : EvE g d env σ (.Name x pos) (.glob v) := ⟨ev_glob hk hv rfl hd⟩
theorem eve_globs {x pos u t} (hk : env.kindOf x = some .globalImplicit) (hv : g.mg x = some (.str u t)) (hd : (x == ("__debug__" : Str)) = false := by decide) : EvE g d env σ (.Name x pos) (.str u) := ⟨ev_globs hk hv rfl hd⟩
theorem eve_bi {x pos v} (hk : env.kindOf x = some .globalImplicit) (hm : g.mg x = none) (hv : bootBuiltins x = some v) (hx : x ≠ "__name__") (hd : (x == ("__debug__" : Str)) = false := by decide) : EvE g d env σ (.Name x pos) (.glob v) := ⟨ev_bi hk hm hv hx rfl hd⟩
theorem eve_bin {l op r pos a b v} (h1 : EvE g d env σ l a) (h2 : EvE g d env σ r b) (h : BinOk g d op a b fun u => u = v) : EvE g d env σ (.BinOp l op r pos) v := ⟨ev_bin (ev_to h1 (ev_to h2 h))⟩
theorem eve_cmp {l op r pos a b v} (h1 : EvE g d env σ l a) (h2 : EvE g d env σ r b) (h : CmpOk g d op a b fun u => u = v) (hm : behindInMarks op r = false := by with_unfolding_all rfl) : EvE g d env σ (.Compare l [op] [r] pos) v := ⟨ev_cmp (ev_to h1 (ev_to h2 h)) hm⟩
theorem eve_un {op x pos a v} (h1 : EvE g d env σ x a) (h : UnOk g d op a fun u => u = v) : EvE g d env σ (.UnaryOp op x pos) v := ⟨ev_un (ev_to h1 h)⟩
theorem eve_ite {t b o pos c v} (ht : TsE g d env σ t c) (h1 : c = true → EvE g d env σ b v) (h2 : c = false → EvE g d env σ o v) : EvE g d env σ (.IfExp t b o pos) v := ⟨ev_ite (ts_to ht ⟨fun q => (h1 q).x, fun q => (h2 q).x⟩)⟩
theorem evse_nil : EvsE g d env σ [] [] := ⟨evs_nil rfl⟩
theorem evse_cons {e es v vs} (h : EvE g d env σ e v) (r : EvsE g d env σ es vs) (he : starEach (e :: es) env = (false, eval e env) :: starEach es env := by with_unfolding_all rfl) : EvsE g d env σ (e :: es) (v :: vs) := ⟨evs_cons (ev_to h (evs_to r rfl)) he⟩
theorem eve_tup {es k pos vs} (h : EvsE g d env σ es vs) (hs : vs.length ≤ sizeLine) : EvE g d env σ (.Tuple es k pos) (.tup vs) := ⟨ev_tup (evs_to h ⟨hs, rfl⟩)⟩
theorem eve_list {es pos vs} (h : EvsE g d env σ es vs) (hs : vs.length ≤ sizeLine) : EvE g d env σ (.List es pos) (.list vs) := ⟨ev_list (evs_to h ⟨hs, rfl⟩)⟩
theorem eve_sub {value slice pos a i v} (h1 : EvE g d env σ value a) (h2 : EvE g d env σ slice i) (h : SubOk g d slice a i fun u => u = v) : EvE g d env σ (.Subscript value slice pos) v := ⟨ev_sub (ev_to h1 (ev_to h2 h))⟩
theorem evpe_none : EvPE g d env σ none none := ⟨evp_none rfl⟩
theorem evpe_some {e i} (h : EvE g d env σ e (.int i)) : EvPE g d env σ (some e) (some i) := ⟨evp_some (ev_to h ⟨i, rfl, rfl⟩)⟩
theorem eve_slice {value lo hi st p pos a l u k v} (h1 : EvE g d env σ value a) (hl : EvPE g d env σ lo l) (hu : EvPE g d env σ hi u) (hs : EvPE g d env σ st k) (h : SlOk g d a l u k fun x => x = v) : EvE g d env σ (.Subscript value (.Slice lo hi st p) pos) v := ⟨ev_slice (ev_to h1 (evp_to hl (evp_to hu (evp_to hs h))))⟩
theorem eve_call {fn es pos f vs v} (h1 : EvE g d env σ fn (.glob f)) (hc : Callee g f) (h2 : EvsE g d env σ es vs) (h3 : CallOk g d f vs fun u => u = v) (hp : plainArgs es = true := by with_unfolding_all rfl)
    (he : eval (.Call fn es [] pos) env = (do callWith pos (← eval fn env) [] (backTo pos (starEach es env)) (backToKw pos (keywordEach [] env))) := by with_unfolding_all rfl) : EvE g d env σ (.Call fn es [] pos) v := ⟨ev_call (ev_to h1 ⟨f, rfl, hc, evs_to h2 h3⟩) hp he⟩
theorem it_calle {target fn es pos f vs} {K : List V → Prop} (h1 : EvE g d env σ fn (.glob f)) (hc : Callee g f) (h2 : EvsE g d env σ es vs) (h3 : ItCall g d target f vs K) (hp : plainArgs es = true := by with_unfolding_all rfl)
    (he : eval (.Call fn es [] pos) env = (do callWith pos (← eval fn env) [] (backTo pos (starEach es env)) (backToKw pos (keywordEach [] env))) := by with_unfolding_all rfl) : ItEv g d env σ target (.Call fn es [] pos) K := it_call (ev_to h1 ⟨f, rfl, hc, evs_to h2 h3⟩) hp he
theorem eve_meth {o name apos es pos a f vs v} (h1 : EvE g d env σ o a) (hm : Meth g d name a f) (h2 : EvsE g d env σ es vs) (h3 : CallOk g d f (a :: vs) fun u => u = v) (hfew : decide (es.length + 0 < 30) = true := by with_unfolding_all rfl) (hp : plainArgs es = true := by with_unfolding_all rfl) (hline : (apos.endLine == pos.line) = true := by with_unfolding_all rfl)
    (hb : attributeBase o name env (eval o env) = eval o env := by with_unfolding_all rfl) : EvE g d env σ (.Call (.Attribute o name apos) es [] pos) v := ⟨ev_meth (ev_to h1 ⟨f, hm, evs_to h2 h3⟩) hfew hp hline hb⟩
theorem it_ofe {target e v} {K : List V → Prop} (h : EvE g d env σ e v) (h2 : ItV g d target v K) : ItEv g d env σ target e K := it_of (ev_to h h2)
theorem tse_cmp {l op r pos a b c} (h1 : EvE g d env σ l a) (h2 : EvE g d env σ r b) (h : CmpOk g d op a b fun u => u = .bool c) (hm : behindInMarks op r = false := by with_unfolding_all rfl) : TsE g d env σ (.Compare l [op] [r] pos) c := ⟨ts_cmp (ev_to h1 (ev_to h2 fun A Φ s x y a i r1 r2 => (h A Φ s x y a i r1 r2 : Wp ..).mono fun v q => by subst q; exact true_b rfl)) hm⟩
theorem tse_not {x pos c} (h : TsE g d env σ x c) : TsE g d env σ (.UnaryOp .Not x pos) (!c) := ⟨ts_not (ts_to h rfl)⟩
theorem tse_of {e v c} (h : EvE g d env σ e v) (ht : TrueOk g d v fun u => u = c) (he : isTrue e env (eval e env) = (do let v ← eval e env; standAt e.pos; holding [v] (truthy v)) := by with_unfolding_all rfl) : TsE g d env σ e c := ⟨ts_of (ev_to h ht) he⟩
theorem eve_comp {elt target iter : Expr} {ifs : List Expr} {scope : Scope} {pos : Pos} {cl : List (Str × Addr)} {L : List V}
    (h : ItEv g d env σ target iter fun items => ∀ C, compP g d (compEnvC scope cl C env) (capt σ cl) target ifs elt (fun r => r = L) items [])
    (hclos : closureFor scope env = pure cl) (hcl : ClOk scope env cl) (hnd : (cl.map (·.1)).Nodup) (hcell : ∀ y ∈ scope.names, y.2 ≠ .cell) (hkind : scope.kind = .function)
    (hnames : ∀ y ∈ scope.names, y.2 = .local → scope.names.lookup y.1 = some .local)
    (hs : ∀ x, foldedSetIterable iter env x = pure x := by intro _; rfl) : EvE g d env σ (.ListComp elt [⟨target, iter, ifs, 0⟩] scope pos) (.list L) := ⟨ev_comp (h.mono fun items k C => compP.mono (fun _ q => q ▸ rfl) _ _ (k C)) hclos hcl hnd hcell hkind hnames hs⟩
theorem exs_assignE {x pos' value pos v rest} {K : Fl → Sg → Prop} (h : EvE g d env σ value v) (hx : isVar env x = true) (k : Exs g d env ((x, .val v) :: σ) rest K) (hs : swapsWith value (some (.Name x pos')) pos.line env = pure false := by with_unfolding_all rfl) :
    Exs g d env σ (.Assign [.Name x pos'] value pos :: rest) K := exs_cons (ex_assign (ev_to h k) hx hs)
end
theorem ln_dots : (Str.ofString "...").length = 3 := rfl
theorem ln_nl : (Str.ofString "\n").length = 1 := rfl
theorem ln_xc : (Str.ofString "x:").length = 2 := rfl
theorem ln_tc : (Str.ofString "~:").length = 2 := rfl
theorem ln_op : (Str.ofString "(").length = 1 := rfl
theorem ln_cp : (Str.ofString ")").length = 1 := rfl
theorem ln_x0 : (Str.ofString "x:0(<").length = 5 := rfl
theorem ln_gp : (Str.ofString ">)").length = 2 := rfl
theorem ln_ob : (Str.ofString "{").length = 1 := rfl
theorem ln_cb : (Str.ofString "}").length = 1 := rfl
theorem ln_lt : (Str.ofString "<").length = 1 := rfl
theorem ln_gt : (Str.ofString ">").length = 1 := rfl
theorem ln_em : (Str.ofString "").length = 0 := rfl
theorem cutS_len (x : Str) (a b : Option Int) : (cutS x a b).length ≤ x.length := by
  show (cutL x.cps.toList _ _).toArray.size ≤ x.cps.size
  have := cutL_length x.cps.toList a b
  simpa using this
theorem szle {n m : Nat} (h : Nat.ble n m = true) : n ≤ m := Nat.le_of_ble_eq_true h
theorem len_app {a b : Str} {n m : Nat} (h : a.length ≤ n) (h' : b.length ≤ m) : (a ++ b).length ≤ n + m := by rw [Str.length_append]; exact Nat.add_le_add h h'
theorem len_sum {a b n m k : Nat} (h : a ≤ n) (h' : b ≤ m) (h2 : n + m ≤ k) : a + b ≤ k := Nat.le_trans (Nat.add_le_add h h') h2
set_option compiler.extract_closed false
set_option hygiene false in
local macro_rules | `(tactic| walk_at "mine") => `(tactic| first
  | ((with_reducible show seqK _ _ _ _ _ _ _); first | refine exs_cons ?_ | refine exs_nil ?_)
  | with_reducible first
  | refine ev_int ?_ | refine ev_str ?_ | refine ev_none ?_ | refine ev_bool ?_
  | refine ev_var (by with_unfolding_all rfl) ?_ | refine ev_globs (by with_unfolding_all rfl) (by assumption) ?_ | refine ev_glob (by with_unfolding_all rfl) (by assumption) ?_ | refine ev_bi (by with_unfolding_all rfl) (by first | assumption | exact Lb.bi (by assumption) _ (by decide)) (by with_unfolding_all rfl) (by decide) ?_
  | refine ev_bin ?_ | refine ev_cmp ?_ | refine ev_un ?_ | refine ev_ite ?_ | refine ev_tup ?_ | refine ev_list ?_ | refine ev_slice ?_ | refine ev_sub ?_ | refine ev_meth ?_ | refine ev_call ?_
  | refine evs_cons ?_ | refine evs_nil ?_ | refine evp_none ?_ | refine evp_some ?_
  | refine ts_cmp ?_ | refine ts_not ?_ | refine ts_and ?_ | refine ts_and_nil ?_ | refine ts_of ?_
  | refine exs_cons ?_ | refine exs_nil ?_ | refine ex_return ?_ | refine ex_assign ?_ (by with_unfolding_all rfl) | refine ex_aug (by with_unfolding_all rfl) ?_ (by with_unfolding_all rfl)
  | refine bin_divn (by decide) (by decide) ?_ | refine bin_modn (by decide) ?_
  | refine bin_add ?_ | refine bin_sub ?_ | refine inp_add ?_ | refine inp_sub ?_ | refine un_neg ?_
  | refine cmp_eq_i ?_ | refine cmp_lt_i ?_ | refine cmp_gt_i ?_ | refine cmp_ge_i ?_ | refine cmp_le_i ?_ | refine cmp_ne_i ?_
  | refine cmp_eq_s ?_ | refine cmp_ne_s ?_ | refine cmp_in_s ?_ | refine cmp_nin_s ?_
  | refine true_i ?_ | refine true_b ?_)
set_option hygiene false in
local macro_rules | `(tactic| walk_at "lb") => `(tactic| first | assumption | (refine len_app ?_ ?_ <;> walk_at "lb") | exact Nat.le_refl _)
set_option hygiene false in
local macro_rules | `(tactic| walk_at "len") => `(tactic| first | (refine len_sum ?_ ?_ ?_; (· walk_at "lb"); (· walk_at "lb"); (· exact szle rfl)) | omega | (simp only [Str.length_append, ln_dots, ln_nl, ln_xc, ln_tc, ln_op, ln_cp, ln_x0, ln_gp, ln_ob, ln_cb, ln_lt, ln_gt, ln_em] at *; omega))
set_option hygiene false in
local macro_rules | `(tactic| walk_at "str") => `(tactic| first | (with_reducible refine bin_add_s (by walk_at "len") ?_) | walk_at "mine")
set_option hygiene false in
local macro_rules | `(tactic| walk_at "e") => `(tactic| first
  | exact eve_int | exact eve_str | exact eve_none | exact eve_bool
  | exact eve_var (by rfl) | exact eve_globs (by rfl) (by assumption) | exact eve_glob (by rfl) (by assumption) | exact eve_bi (by rfl) (by first | assumption | exact Lb.bi (by assumption) _ (by decide)) (by rfl) (by decide)
  | refine' eve_bin ?_ ?_ ?_ | refine' eve_cmp ?_ ?_ ?_ | refine' eve_un ?_ ?_ | refine' eve_tup ?_ ?_ | refine' eve_list ?_ ?_
  | refine' eve_slice ?_ ?_ ?_ ?_ ?_ | refine' eve_sub ?_ ?_ ?_ | exact evse_nil | refine' evse_cons ?_ ?_ | exact evpe_none | refine' evpe_some ?_
  | refine' tse_cmp ?_ ?_ ?_ | refine' tse_not ?_)
set_option hygiene false in
local macro_rules | `(tactic| walk_at "o") => `(tactic| first
  | (with_reducible first | exact bin_add rfl | exact bin_sub rfl | exact un_neg rfl)
  | exact bin_add_s (by walk_at "len") rfl | exact bin_divn (by decide) (by decide) rfl | exact bin_modn (by decide) rfl | exact bin_add rfl
  | (with_reducible first | exact cmp_eq_i rfl | exact cmp_lt_i rfl | exact cmp_gt_i rfl | exact cmp_ge_i rfl | exact cmp_le_i rfl | exact cmp_ne_i rfl | exact cmp_eq_s rfl | exact cmp_ne_s rfl | exact cmp_in_s rfl | exact cmp_nin_s rfl | exact true_i rfl | exact true_b rfl)
  | exact szle rfl)
set_option hygiene false in
local macro_rules | `(tactic| walk_at "eo") => `(tactic| first | walk_at "e" | walk_at "o")

section
noncomputable def finds (t : Str) (e : Int) : List Str → Int → Bool
  | [], _ => true
  | w :: r, s => if findIn t w s e < 0 then false else finds t e r (findIn t w s e + w.length)
noncomputable def ell3 (s e : Int) (ps : List Str) (t : Str) : Bool := if s > e then false else finds t e ps s
noncomputable def ell2 (s : Int) (ps : List Str) (t : Str) : Bool := match ps.getLast? with
  | none => false
  | some wl => if (wl.length : Int) != 0 then (if Txt.endswith t wl then ell3 s ((t.length : Int) - wl.length) ps.dropLast t else false) else ell3 s t.length ps t
noncomputable def ellCore (ps : List Str) (t : Str) : Bool := match ps with
  | [] => false
  | w0 :: r0 => if (w0.length : Int) != 0 then (if Txt.startswith t w0 then ell2 w0.length r0 t else false) else ell2 0 (w0 :: r0) t
noncomputable def ellip (w t : Str) : Bool := if !Txt.contains w "..." then w == t else ellCore (Txt.split w "...") t


section
variable {g : Gd} {d : Nat} {K : V → Prop}

theorem sub_push {σ σ' : Sg} {x : Str} {sl : Slot} (h : Sub σ' σ) : Sub ((x, sl) :: σ') ((x, sl) :: σ) := fun y sl' e => by
  by_cases q : y = x
  · subst q; rw [lookup_cons_eq] at e ⊢; exact e
  · rw [lookup_cons_ne q] at e ⊢; exact h _ _ e
theorem Sub.trans {a b c : Sg} (h : Sub a b) (h' : Sub b c) : Sub a c := fun x sl e => h' x sl (h x sl e)
theorem ixV0 (v : V) (l : List V) : ixV (v :: l) 0 = some v := by
  unfold ixV seqIndex?; simp
theorem seqIndex0 (n : Nat) : seqIndex? 0 (n + 1) = some 0 := by
  unfold seqIndex?; simp

inductive EllI (K : V → Prop) (t : Str) (e : Int) (items : List V) (σ : Sg) : Prop
  | mk (s : Int) (ps : List Str) : items = ps.map V.str → Sub [("startpos", .val (.int s)), ("endpos", .val (.int e)), ("got", .val (.str t))] σ → K (.bool (finds t e ps s)) → (∀ p ∈ ps, p.length ≤ 1000) → EllI K t e items σ
theorem ellip_ok {w t : Str} {tk : Tok} (fe : Fn g "_ellipsis_match" 49 7 ["want", "got"]) (hm : g.mg "ELLIPSIS_MARKER" = some (.str "..." tk)) (hlen : g.mg "len" = none)
    (hw : w.length ≤ 1000) (ht : t.length ≤ 1000) (hp : (partsBetween w (occurrences w "..." 0 w.length (w.length + 1)) (3 : Nat)).length ≤ 1000)
    (h2 : Txt.contains w "..." = true → 2 ≤ (Txt.split w "...").length) (hps : (Txt.split w "...").length ≤ 1000) (hpl : ∀ p ∈ Txt.split w "...", p.length ≤ 1000)
    (h : K (.bool (ellip w t))) : CallOk g (d + 1) (.ref 49) [.str w, .str t] K := by
  have hszl : sizeLine = 2 ^ 24 := rfl
  refine fe.call rfl fun L nm qn doc pm cd => ?_
  refine exs_cons ?_
  refine ex_if ?_
  walk_at "mine"
  walk_at "mine"
  walk_at "mine"
  walk_at "mine"
  walk_at "mine"
  refine ⟨fun hc => ?_, fun hc => ?_⟩
  · repeat (walk_at "mine")
    show K _
    unfold ellip at h
    rw [hc] at h
    exact h
  unfold ellip at h
  rw [hc] at h
  have h : K (.bool (ellCore (Txt.split w "...") t)) := h
  have hl2 := h2 (by simpa using hc)
  refine exs_nil ?_
  -- ws
  refine exs_cons ?_
  refine ex_assignN ?_ (by rfl) (by rfl)
  refine evn_meth ?_
  walk_at "mine"
  refine ⟨_, meth_str F.slot_str_split F.type_str_split F.plainAttrs_str, ?_⟩
  walk_at "mine"
  walk_at "mine"
  walk_at "mine"
  refine call_split_own (by decide) (by exact le1 (c1 _) (.v 0) (.n 1000) (.v 0) (.n 16777216) hw) (by exact Nat.le_trans hp (by exact le0 (c1 0) (.n 1000) (.n 16777216))) ?_
  revert hl2 hps hpl h
  generalize Txt.split w "..." = ws
  intro hps hpl h hl2
  -- the assert
  refine exs_cons ?_
  refine ex_assert ?_
  walk_at "mine"
  refine ev_own_len (by rfl) (by rfl) hlen (by simp; exact le1 (c1 _) (.v 0) (.n 1000) (.v 0) (.n 16777216) hps) ?_
  walk_at "mine"
  walk_at "mine"
  refine true_b ⟨by simp; lia, ?_⟩
  -- startpos, endpos
  refine exs_cons ?_
  refine ex_tup_new_swapped (xs := ["startpos", "endpos"]) ?_ (by rfl) (by decide) (by rfl) (by rfl)
  refine evns_cons (evn_val ?_)
  walk_at "mine"
  refine evns_cons (evn_val ?_)
  walk_at "mine"
  walk_at "mine"
  refine ⟨_, rfl, Callee.builtin _, ?_⟩
  walk_at "mine"
  walk_at "mine"
  walk_at "mine"
  refine call_len_s (by exact le1 (c1 _) (.v 0) (.n 1000) (.v 0) (.n 16777216) ht) ?_
  refine evns_nil ⟨rfl, ?_⟩
  obtain ⟨p0, p1, r, rfl⟩ : ∃ p0 p1 r, ws = p0 :: p1 :: r := by
    match ws, hl2 with
    | p0 :: p1 :: r, _ => exact ⟨p0, p1, r, rfl⟩
  -- w = ws[0]
  refine exs_cons ?_
  walk_at "mine"
  refine ev_own_sub (by rfl) ?_
  walk_at "mine"
  refine ⟨0, .str p0, rfl, by decide, ixV0 .., ?_⟩
  -- if w
  refine exs_cons ?_
  refine ex_if_join (fun σ' => ∃ s ps, Sub [("ws", .own (ps.map V.str)), ("startpos", .val (.int s)), ("endpos", .val (.int t.length)), ("got", .val (.str t))] σ' ∧ K (.bool (ell2 s ps t)) ∧ (∀ p ∈ ps, p.length ≤ 1000) ∧ ps ≠ [] ∧ ps.length ≤ 1000) ?_ ?_
  · walk_at "mine"
    walk_at "mine"
    refine true_s (Nat.le_trans (hpl p0 (by simp)) (by exact le0 (c1 0) (.n 1000) (.n 16777216))) ?_
    refine ⟨fun hc => ?_, fun hc => ?_⟩
    · refine exs_cons ?_
      refine ex_if ?_
      walk_at "mine"
      walk_at "mine"
      walk_at "mine"
      refine ⟨_, meth_str F.slot_str_startswith F.type_str_startswith F.plainAttrs_str, ?_⟩
      walk_at "mine"
      walk_at "mine"
      walk_at "mine"
      refine call_startswith ?_
      walk_at "mine"
      refine ⟨fun hc2 => ?_, fun hc2 => ?_⟩
      · refine exs_cons ?_
        walk_at "mine"
        walk_at "mine"
        walk_at "mine"
        refine ⟨_, rfl, Callee.builtin _, ?_⟩
        walk_at "mine"
        walk_at "mine"
        walk_at "mine"
        refine call_len_s (Nat.le_trans (hpl p0 (by simp)) (by exact le0 (c1 0) (.n 1000) (.n 16777216))) ?_
        refine exs_cons ?_
        refine ex_del (by rfl) (by simp at hps ⊢; exact le1 (c1 _) (.v 0) (.n 998) (.a (.a (.v 0) (.n 1)) (.n 1)) (.n 16777216) hps) ?_
        walk_at "mine"
        refine ⟨0, 0, rfl, by decide, seqIndex0 _, ?_⟩
        refine exs_nil ?_
        refine exs_nil ?_
        refine ⟨p0.length, p1 :: r, sub_cons (by rfl) (sub_cons (by rfl) (sub_cons (by rfl) (sub_cons (by rfl) sub_nil))), ?_, fun p hp => hpl p (by simp at hp ⊢; exact .inr hp), by simp, by simp at hps ⊢; exact le1 (c1 _) (.v 0) (.n 998) (.v 0) (.n 999) hps⟩
        have hc3 : ¬ p0.length = 0 := by simpa using hc
        have h4 : ellCore (p0 :: p1 :: r) t = (if Txt.startswith t p0 then ell2 p0.length (p1 :: r) t else false) := by simp [ellCore, hc3]
        rw [h4, hc2] at h
        exact h
      · repeat (walk_at "mine")
        have hc3 : ¬ p0.length = 0 := by simpa using hc
        have h4 : ellCore (p0 :: p1 :: r) t = (if Txt.startswith t p0 then ell2 p0.length (p1 :: r) t else false) := by simp [ellCore, hc3]
        rw [h4, hc2] at h
        exact h
    · refine exs_nil ?_
      refine ⟨0, p0 :: p1 :: r, sub_cons (by rfl) (sub_cons (by rfl) (sub_cons (by rfl) (sub_cons (by rfl) sub_nil))), ?_, hpl, by simp, hps⟩
      have hc3 : p0.length = 0 := by simpa using hc
      have h4 : ellCore (p0 :: p1 :: r) t = ell2 0 (p0 :: p1 :: r) t := by simp [ellCore, hc3]
      rw [h4] at h
      exact h
  clear h hps hpl hl2 hp
  rintro σ' ⟨s, ps, hs, h, hpl, hne, hps⟩
  refine seq_weak hs ?_
  clear hs σ'
  -- w = ws[-1]
  obtain ⟨wl, hwl⟩ : ∃ wl, ps.getLast? = some wl := ⟨_, List.getLast?_eq_some_getLast hne⟩
  have hmem : wl ∈ ps := List.mem_of_getLast? hwl
  have hpos : 0 < ps.length := List.length_pos_iff.mpr hne
  have hidx : seqIndex? (-1) ps.length = some (ps.length - 1) := by
    unfold seqIndex?; simp; lia
  refine exs_cons ?_
  walk_at "mine"
  refine ev_own_sub (by rfl) ?_
  walk_at "mine"
  walk_at "mine"
  walk_at "mine"
  refine ⟨-1, .str wl, rfl, by decide, ?_, ?_⟩
  · unfold ixV
    rw [List.length_map, hidx]
    show (ps.map V.str)[ps.length - 1]? = _
    rw [List.getElem?_map]
    rw [List.getLast?_eq_getElem?] at hwl
    rw [hwl]; rfl
  refine exs_cons ?_
  refine ex_if_join (fun σ' => ∃ e ps, Sub [("ws", .own (ps.map V.str)), ("startpos", .val (.int s)), ("endpos", .val (.int e)), ("got", .val (.str t))] σ' ∧ K (.bool (ell3 s e ps t)) ∧ (∀ p ∈ ps, p.length ≤ 1000)) ?_ ?_
  · walk_at "mine"
    walk_at "mine"
    refine true_s (Nat.le_trans (hpl wl hmem) (by exact le0 (c1 0) (.n 1000) (.n 16777216))) ?_
    refine ⟨fun hc => ?_, fun hc => ?_⟩
    · refine exs_cons ?_
      refine ex_if ?_
      walk_at "mine"
      walk_at "mine"
      walk_at "mine"
      refine ⟨_, meth_str F.slot_str_endswith F.type_str_endswith F.plainAttrs_str, ?_⟩
      walk_at "mine"
      walk_at "mine"
      walk_at "mine"
      refine call_endswith ?_
      walk_at "mine"
      refine ⟨fun hc2 => ?_, fun hc2 => ?_⟩
      · refine exs_cons ?_
        walk_at "mine"
        walk_at "mine"
        walk_at "mine"
        refine ⟨_, rfl, Callee.builtin _, ?_⟩
        walk_at "mine"
        walk_at "mine"
        walk_at "mine"
        refine call_len_s (Nat.le_trans (hpl wl hmem) (by exact le0 (c1 0) (.n 1000) (.n 16777216))) ?_
        walk_at "mine"
        refine exs_cons ?_
        refine ex_del (by rfl) (by simp; exact le1 (c1 _) (.v 0) (.n 1000) (.v 0) (.n 16777216) hps) ?_
        walk_at "mine"
        walk_at "mine"
        walk_at "mine"
        refine ⟨-1, ps.length - 1, rfl, by decide, by rw [List.length_map]; exact hidx, ?_⟩
        refine exs_nil ?_
        refine exs_nil ?_
        refine ⟨_, ps.dropLast, sub_cons ?_ (sub_cons (by rfl) (sub_cons (by rfl) (sub_cons (by rfl) sub_nil))), ?_, fun p hp => hpl p (List.dropLast_subset _ hp)⟩
        · show some _ = some _
          rw [← List.length_map (as := ps) V.str, List.eraseIdx_length_sub_one, List.map_dropLast]
        unfold ell2 at h
        rw [hwl] at h
        simp only [if_true, hc2, hc] at h
        exact h
      · repeat (walk_at "mine")
        unfold ell2 at h
        rw [hwl] at h
        simp only [if_true, hc2, hc] at h
        exact h
    · refine exs_nil ?_
      refine ⟨_, ps, sub_cons (by rfl) (sub_cons (by rfl) (sub_cons (by rfl) (sub_cons (by rfl) sub_nil))), ?_, hpl⟩
      unfold ell2 at h
      rw [hwl] at h
      simp only [hc] at h
      exact h
  clear h hps hpl hne hwl hmem hpos hidx
  rintro σ' ⟨e, ps, hs, h, hpl⟩
  refine seq_weak hs ?_
  clear hs σ'
  unfold ell3 at h
  refine exs_cons ?_
  refine ex_if ?_
  repeat (walk_at "mine")
  refine ⟨fun hc => ?_, fun hc => ?_⟩
  · repeat (walk_at "mine")
    rw [if_pos (by simpa using hc)] at h
    exact h
  rw [if_neg (by simpa using hc)] at h
  refine exs_nil ?_
  -- the loop
  refine exs_freeze (x := "ws") (by rfl) ?_
  refine exs_cons ?_
  refine ex_for ?_
  refine it_of ?_
  walk_at "mine"
  refine itv_list ?_
  refine loop_inv (EllI K t e) ?_ ?_ _ _ ⟨s, ps, rfl, sub_cons (by rfl) (sub_cons (by rfl) (sub_cons (by rfl) sub_nil)), h, hpl⟩
  · clear h hpl
    rintro v r σ ⟨s, ps, hi, hs, h, hpl⟩
    cases ps with
    | nil => cases hi
    | cons p ps =>
      simp only [List.map_cons, List.cons.injEq] at hi
      obtain ⟨rfl, rfl⟩ := hi
      refine as_name ?_ (by rfl)
      refine exs_weak (σ' := [("w", .val (.str p)), ("startpos", .val (.int s)), ("endpos", .val (.int e)), ("got", .val (.str t))]) ?_ (sub_push hs)
      repeat (walk_at "mine")
      refine ⟨_, meth_str F.slot_str_find F.type_str_find F.plainAttrs_str, ?_⟩
      repeat (walk_at "mine")
      refine call_find4 ?_
      refine exs_cons ?_
      refine ex_if ?_
      repeat (walk_at "mine")
      unfold finds at h
      refine ⟨fun hc => ?_, fun hc => ?_⟩
      · repeat (walk_at "mine")
        rw [if_pos (by simpa using hc)] at h
        exact h
      rw [if_neg (by simpa using hc)] at h
      repeat (walk_at "mine")
      refine ⟨_, rfl, Callee.builtin _, ?_⟩
      repeat (walk_at "mine")
      refine call_len_s (Nat.le_trans (hpl p (by simp)) (by exact le0 (c1 0) (.n 1000) (.n 16777216))) ?_
      repeat (walk_at "mine")
      exact ⟨_, Sub.refl _, _, ps, rfl, by (repeat (refine sub_cons (by rfl) ?_)); exact sub_nil, h, fun p hp => hpl p (.tail _ hp)⟩
  · rintro σ ⟨s, ps, hi, hs, h, _⟩
    cases ps with
    | cons p ps => cases hi
    | nil =>
      repeat (walk_at "mine")
      exact h
end
end

section
noncomputable def oV : Option Int → V
  | none => .none
  | some i => .int i
noncomputable abbrev StS := Int × Option Int × List Str
noncomputable def stStep (x : Str) (s : StS) (e : Int × Str) : StS :=
  if e.2 == ("\"" : Str) then match s.2.1 with
    | none => (s.1, some e.1, s.2.2)
    | some o => (e.1 + 1, none, if s.1 != o then s.2.2 ++ [cutS x (some s.1) (some o)] else s.2.2)
  else s
noncomputable def stFin (x : Str) (s : StS) : List Str := if s.1 < x.length then s.2.2 ++ [cutS x (some s.1) none] else s.2.2
noncomputable def stripL (x : Str) : List Str := stFin x ((escs x.cps.toList 0 false).foldl (stStep x) (0, none, []))
noncomputable def stripS (x : Str) : Str := if !Txt.contains x "\"" then x else Txt.join "" (stripL x)
noncomputable def ckGo : List (Int × Str) → Int → Bool
  | [], n => n == 0
  | e :: r, n => if e.2 == ("(" : Str) then ckGo r (n + 1) else if e.2 == (")" : Str) then (if n - 1 < 0 then false else ckGo r (n - 1)) else ckGo r n
noncomputable def checkS (x : Str) : Bool := ckGo (escs (stripS x).cps.toList 0 false) 0

theorem escs_len : ∀ (l : List Nat) (i : Nat) (b : Bool), (escs l i b).length ≤ l.length + 1
  | [], i, b => by cases b <;> simp [escs]
  | c :: r, i, true => by
    have := escs_len r (i + 1) false
    simp only [escs, List.length_cons]; exact le1 (c2 _ _) (.v 0) (.a (.v 1) (.n 1)) (.a (.v 0) (.n 1)) (.a (.a (.v 1) (.n 1)) (.n 1)) this
  | c :: r, i, false => by
    have := escs_len r (i + 1) false
    have := escs_len r (i + 1) true
    simp only [escs]
    split
    · simp only [List.length_cons]; exact le1 (c2 _ _) (.v 0) (.a (.v 1) (.n 1)) (.v 0) (.a (.a (.v 1) (.n 1)) (.n 1)) this
    · simp only [List.length_cons]; exact le1 (c2 _ _) (.v 0) (.a (.v 1) (.n 1)) (.a (.v 0) (.n 1)) (.a (.a (.v 1) (.n 1)) (.n 1)) (by assumption)

section
variable {g : Gd} {d : Nat} {K : V → Prop}

inductive StrI (K : V → Prop) (x : Str) (items : List V) (σ : Sg) : Prop
  | mk (es : List (Int × Str)) (s : Int × Option Int × List Str) : items = es.map escV → Sub [("addr", .val (.str x)), ("start", .val (.int s.1)), ("open_pos", .val (oV s.2.1)), ("result", .own (s.2.2.map V.str))] σ → s.2.2.length + es.length ≤ 2000 → K (.str (Txt.join "" (stFin x (es.foldl (stStep x) s)))) → (∀ l, l = stFin x (es.foldl (stStep x) s) → JoinOk "" l = true) → StrI K x items σ
theorem strip_ok {x : Str} (lb : Lb g) (hx : x.length ≤ 1000) (hj : JoinOk "" (stripL x) = true) (h : K (.str (stripS x))) : CallOk g (d + 6) (.ref 28) [.str x] K := by
  have hszl : sizeLine = 2 ^ 24 := rfl
  obtain ⟨nm1, qn1, doc1, pm1, cd1, gn⟩ := lb.itg
  have hit := lb.it
  refine lb.strip.call rfl fun L nm qn doc pm cd => ?_
  unfold stripS at h
  refine exs_cons ?_
  refine ex_if ?_
  repeat (walk_at "mine")
  refine ⟨fun hc => ?_, fun hc => ?_⟩
  · repeat (walk_at "mine")
    rw [if_pos hc] at h
    exact h
  rw [if_neg (by simpa using hc)] at h
  iterate 7 walk_at "mine"
  refine exs_cons ?_
  refine ex_assignN ?_ (by rfl) (by rfl)
  refine evn_list ?_
  refine evs_nil ⟨by decide, ?_⟩
  refine exs_cons ?_
  refine ex_for ?_
  refine it_call ?_
  walk_at "mine"
  refine ⟨_, rfl, gn.callee, ?_⟩
  repeat (walk_at "mine")
  refine call_gen gn (lb.bi _ (by decide)) ?_
  have hlen := escs_len x.cps.toList 0 false
  have hxl : x.cps.toList.length = x.length := rfl
  unfold stripL at hj h
  have hj' : ∀ l, l = stFin x ((escs x.cps.toList 0 false).foldl (stStep x) (0, none, [])) → JoinOk "" l = true := fun l e => e ▸ hj
  clear hj
  revert h hj' hlen
  generalize escs x.cps.toList 0 false = es
  intro h hlen hj
  refine loop_inv (StrI K x) ?_ ?_ _ _ ⟨es, (0, none, []), rfl, by (repeat (refine sub_cons (by rfl) ?_)); exact sub_nil, by simp; exact le3 (c3 _ _ _) (.v 0) (.n 1000) (.v 1) (.v 0) (.v 2) (.a (.v 1) (.n 1)) (.v 2) (.n 2000) hx (Nat.le_of_eq hxl) hlen, h, hj⟩
  · clear h hj hlen es
    rintro v r σ ⟨es, ⟨st, op, res⟩, hi, hs, hl, h, hj⟩
    cases es with
    | nil => cases hi
    | cons e es =>
      simp only [List.map_cons, List.cons.injEq] at hi
      obtain ⟨rfl, rfl⟩ := hi
      obtain ⟨p, c⟩ := e
      simp only [List.length_cons] at hl
      refine as_tup (xs := ["pos", "ch"]) ?_ (by rfl) (by rfl) rfl
      refine exs_weak (σ' := [("ch", .val (.str c)), ("pos", .val (.int p)), ("addr", .val (.str x)), ("start", .val (.int st)), ("open_pos", .val (oV op)), ("result", .own (res.map V.str))]) ?_ (sub_push (sub_push hs))
      simp only [List.foldl_cons] at h hj
      refine exs_cons ?_
      refine ex_if ?_
      repeat (walk_at "mine")
      refine ⟨fun hc => ?_, fun hc => ?_⟩
      · refine exs_cons ?_
        refine ex_if ?_
        repeat (walk_at "mine")
        refine cmp_is rfl (by cases op <;> rfl) ?_
        refine true_b ?_
        cases op with
        | none =>
          refine ⟨fun _ => ?_, fun q => by cases q⟩
          repeat (walk_at "mine")
          have he : stStep x (st, none, res) (p, c) = (st, some p, res) := by simp [stStep, hc]
          rw [he] at h hj
          exact ⟨_, Sub.refl _, es, _, rfl, by (repeat (refine sub_cons (by rfl) ?_)); exact sub_nil, by simp only; exact le1 (c2 _ _) (.a (.v 0) (.a (.v 1) (.n 1))) (.n 2000) (.a (.v 0) (.v 1)) (.n 2000) hl, h, hj⟩
        | some o =>
          refine ⟨fun q => (by cases q), fun _ => ?_⟩
          have he : stStep x (st, some o, res) (p, c) = (p + 1, none, if st != o then res ++ [cutS x (some st) (some o)] else res) := by simp [stStep, hc]
          rw [he] at h hj
          refine exs_cons ?_
          refine ex_if_join (fun σ' => Sub [("pos", .val (.int p)), ("addr", .val (.str x)), ("result", .own ((if st != o then res ++ [cutS x (some st) (some o)] else res).map V.str))] σ') ?_ ?_
          · walk_at "mine"
            walk_at "mine"
            refine ev_var (v := .int o) (by rfl) ?_
            walk_at "mine"
            walk_at "mine"
            refine ⟨fun hc2 => ?_, fun hc2 => ?_⟩
            · refine exs_cons ?_
              refine ex_append (by rfl) ?_
              walk_at "mine"
              walk_at "mine"
              walk_at "mine"
              walk_at "mine"
              refine ⟨_, rfl, ?_⟩
              walk_at "mine"
              refine ev_var (v := .int o) (by rfl) ?_
              refine ⟨_, rfl, ?_⟩
              walk_at "mine"
              refine sl_str (by exact le1 (c1 _) (.v 0) (.n 1000) (.v 0) (.n 16777216) hx) ⟨by simp; exact le1 (c2 _ _) (.a (.v 0) (.a (.v 1) (.n 1))) (.n 2000) (.v 0) (.n 16777216) hl, ?_⟩
              refine exs_nil ?_
              refine sub_cons (by rfl) (sub_cons (by rfl) (sub_cons ?_ sub_nil))
              rw [if_pos hc2, List.map_append]; rfl
            · refine exs_nil ?_
              refine sub_cons (by rfl) (sub_cons (by rfl) (sub_cons ?_ sub_nil))
              rw [hc2]; rfl
          · intro σ' hs'
            refine seq_weak hs' ?_
            repeat (walk_at "mine")
            exact ⟨_, Sub.refl _, es, _, rfl, by (repeat (refine sub_cons (by rfl) ?_)); exact sub_nil, by split <;> simp <;> (first | exact le1 (c2 _ _) (.a (.v 0) (.a (.v 1) (.n 1))) (.n 2000) (.a (.a (.v 0) (.n 1)) (.v 1)) (.n 2000) hl | exact le1 (c2 _ _) (.a (.v 0) (.a (.v 1) (.n 1))) (.n 2000) (.a (.v 0) (.v 1)) (.n 2000) hl), h, hj⟩
      · have he : stStep x (st, op, res) (p, c) = (st, op, res) := by simp [stStep, hc]
        rw [he] at h hj
        repeat (walk_at "mine")
        exact ⟨_, Sub.refl _, es, _, rfl, by (repeat (refine sub_cons (by rfl) ?_)); exact sub_nil, by simp only; exact le1 (c2 _ _) (.a (.v 0) (.a (.v 1) (.n 1))) (.n 2000) (.a (.v 0) (.v 1)) (.n 2000) hl, h, hj⟩
  · clear h hj hlen es
    rintro σ ⟨es, ⟨st, op, res⟩, hi, hs, hl, h, hj⟩
    cases es with
    | cons p ps => cases hi
    | nil =>
      have hl : res.length + 0 ≤ 2000 := hl
      refine seq_weak hs ?_
      refine exs_cons ?_
      refine ex_if_join (fun σ' => Sub [("result", .own ((stFin x (st, op, res)).map V.str))] σ') ?_ ?_
      · repeat (walk_at "mine")
        refine ⟨_, rfl, Callee.builtin _, ?_⟩
        repeat (walk_at "mine")
        refine call_len_s (by exact le1 (c1 _) (.v 0) (.n 1000) (.v 0) (.n 16777216) hx) ?_
        repeat (walk_at "mine")
        refine ⟨fun hc => ?_, fun hc => ?_⟩
        · refine exs_cons ?_
          refine ex_append (by rfl) ?_
          repeat (walk_at "mine")
          refine ⟨_, rfl, ?_⟩
          walk_at "mine"
          walk_at "mine"
          refine sl_str (by exact le1 (c1 _) (.v 0) (.n 1000) (.v 0) (.n 16777216) hx) ⟨by simp; exact le1 (c1 _) (.a (.v 0) (.n 0)) (.n 2000) (.v 0) (.n 16777216) hl, ?_⟩
          refine exs_nil ?_
          refine sub_cons ?_ sub_nil
          have : (st < (x.length : Int)) := by simpa using hc
          unfold stFin
          simp only [this, if_true, List.map_append]; rfl
        · refine exs_nil ?_
          refine sub_cons ?_ sub_nil
          have : ¬ (st < (x.length : Int)) := by simpa using hc
          unfold stFin
          simp only [this, if_false]; rfl
      · intro σ' hs'
        refine seq_weak hs' ?_
        refine exs_freeze (x := "result") (by rfl) ?_
        repeat (walk_at "mine")
        refine ⟨_, meth_str F.slot_str_join F.type_str_join F.plainAttrs_str, ?_⟩
        repeat (walk_at "mine")
        exact call_join (hj _ rfl) h
end
end

section
noncomputable def badT : Str := "('', '')"
noncomputable def preS (l : List Str) : List Str := l.map fun v => if checkS v then v else badT
/-- a text that the check may be asked -/
noncomputable def CkOk (x : Str) : Prop := x.length ≤ 1000 ∧ JoinOk "" (stripL x) = true

section
variable {g : Gd} {d : Nat} {K : V → Prop}

inductive CkI (K : V → Prop) (items : List V) (σ : Sg) : Prop
  | mk (es : List (Int × Str)) (n : Int) : items = es.map escV → Sub [("opens", .val (.int n))] σ → K (.bool (ckGo es n)) → CkI K items σ
theorem check_ok {x : Str} (lb : Lb g) (hx : CkOk x) (h : K (.bool (checkS x))) : CallOk g (d + 7) (.ref 35) [.str x] K := by
  have hszl : sizeLine = 2 ^ 24 := rfl
  obtain ⟨nm1, qn1, doc1, pm1, cd1, gn⟩ := lb.itg
  have hit := lb.it
  have hst := lb.strip.1
  refine lb.check.call rfl fun L nm qn doc pm cd => ?_
  unfold checkS at h
  refine exs_cons ?_
  iterate 2 walk_at "mine"
  walk_at "mine"
  refine ⟨_, rfl, lb.strip.callee, ?_⟩
  repeat (walk_at "mine")
  refine strip_ok lb hx.1 hx.2 ?_
  revert h
  generalize stripS x = x
  intro h
  refine exs_cons ?_
  iterate 2 walk_at "mine"
  refine exs_cons ?_
  refine ex_for ?_
  refine it_call ?_
  walk_at "mine"
  refine ⟨_, rfl, gn.callee, ?_⟩
  repeat (walk_at "mine")
  refine call_gen gn (lb.bi _ (by decide)) ?_
  revert h
  generalize escs x.cps.toList 0 false = es
  intro h
  refine loop_inv (CkI K) ?_ ?_ _ _ ⟨es, 0, rfl, sub_cons (by rfl) sub_nil, h⟩
  · clear h es
    rintro v r σ ⟨es, n, hi, hs, h⟩
    cases es with
    | nil => cases hi
    | cons e es =>
      simp only [List.map_cons, List.cons.injEq] at hi
      obtain ⟨rfl, rfl⟩ := hi
      obtain ⟨p, c⟩ := e
      refine as_tup (xs := ["pos", "ch"]) ?_ (by rfl) (by rfl) rfl
      refine exs_weak (σ' := [("ch", .val (.str c)), ("pos", .val (.int p)), ("opens", .val (.int n))]) ?_ (sub_push (sub_push hs))
      refine exs_cons ?_
      refine ex_if ?_
      repeat (walk_at "mine")
      refine ⟨fun hc => ?_, fun hc => ?_⟩
      · have he : ckGo ((p, c) :: es) n = ckGo es (n + 1) := by simp [ckGo, hc]
        rw [he] at h
        repeat (walk_at "mine")
        exact ⟨_, Sub.refl _, es, _, rfl, sub_cons (by rfl) sub_nil, h⟩
      refine exs_cons ?_
      refine ex_if ?_
      repeat (walk_at "mine")
      refine ⟨fun hc2 => ?_, fun hc2 => ?_⟩
      · refine exs_cons ?_
        iterate 3 walk_at "mine"
        refine exs_cons ?_
        refine ex_if ?_
        repeat (walk_at "mine")
        refine ⟨fun hc3 => ?_, fun hc3 => ?_⟩
        · have hc3 : n - 1 < 0 := by simpa using hc3
          have he : ckGo ((p, c) :: es) n = false := by simp [ckGo, hc, hc2, hc3]
          rw [he] at h
          repeat (walk_at "mine")
          exact h
        · have hc3 : ¬ n - 1 < 0 := by simpa using hc3
          have he : ckGo ((p, c) :: es) n = ckGo es (n - 1) := by
            simp only [ckGo, hc, hc2, hc3]; rfl
          rw [he] at h
          repeat (walk_at "mine")
          exact ⟨_, Sub.refl _, es, _, rfl, sub_cons (by rfl) sub_nil, h⟩
      · have he : ckGo ((p, c) :: es) n = ckGo es n := by simp [ckGo, hc, hc2]
        rw [he] at h
        repeat (walk_at "mine")
        exact ⟨_, Sub.refl _, es, _, rfl, sub_cons (by rfl) sub_nil, h⟩
  · rintro σ ⟨es, n, hi, hs, h⟩
    cases es with
    | cons p ps => cases hi
    | nil =>
      refine seq_weak hs ?_
      repeat (walk_at "mine")
      exact h

inductive PreI (K : V → Prop) (items : List V) (σ : Sg) : Prop
  | mk (r acc : List Str) : items = r.map V.str → Sub [("accepted_values", .own (acc.map V.str))] σ → acc.length + r.length ≤ 1000 → (∀ x ∈ r, CkOk x) → K (.list ((acc ++ preS r).map V.str)) → PreI K items σ
theorem pre_ok {l : List Str} (lb : Lb g) (hl : l.length ≤ 1000) (hx : ∀ x ∈ l, CkOk x) (h : K (.list ((preS l).map V.str))) : CallOk g (d + 8) (.ref 42) [.list (l.map V.str)] K := by
  have hszl : sizeLine = 2 ^ 24 := rfl
  have hck := lb.check.1
  refine lb.pre.call rfl fun L nm qn doc pm cd => ?_
  refine exs_cons ?_
  refine ex_assignN ?_ (by rfl) (by rfl)
  refine evn_list ?_
  refine evs_nil ⟨by decide, ?_⟩
  refine exs_cons ?_
  refine ex_for ?_
  refine it_of ?_
  walk_at "mine"
  refine itv_list ?_
  refine loop_inv (PreI K) ?_ ?_ _ _ ⟨l, [], rfl, sub_cons (by rfl) sub_nil, by simpa using hl, hx, h⟩
  · clear h hl hx l
    rintro v r σ ⟨es, acc, hi, hs, hl, hx, h⟩
    cases es with
    | nil => cases hi
    | cons e es =>
      simp only [List.map_cons, List.cons.injEq] at hi
      obtain ⟨rfl, rfl⟩ := hi
      refine as_name ?_ (by rfl)
      refine exs_weak (σ' := [("v", .val (.str e)), ("accepted_values", .own (acc.map V.str))]) ?_ (sub_push hs)
      refine exs_cons ?_
      refine ex_if_join (fun σ' => Sub [("v", .val (.str (if checkS e then e else badT))), ("accepted_values", .own (acc.map V.str))] σ') ?_ ?_
      · iterate 4 walk_at "mine"
        refine ⟨_, rfl, lb.check.callee, ?_⟩
        repeat (walk_at "mine")
        refine check_ok lb (hx e (by simp)) ?_
        refine true_b ?_
        refine ⟨fun hc => ?_, fun hc => ?_⟩
        · have hc : checkS e = false := by simpa using hc
          repeat (walk_at "mine")
          rw [hc]
          exact sub_cons (by rfl) (sub_cons (by rfl) sub_nil)
        · have hc : checkS e = true := by simpa using hc
          repeat (walk_at "mine")
          rw [hc]
          exact sub_cons (by rfl) (sub_cons (by rfl) sub_nil)
      · intro σ' hs'
        refine seq_weak hs' ?_
        refine exs_cons ?_
        refine ex_append (by rfl) ?_
        walk_at "mine"
        simp only [List.length_cons] at hl
        refine ⟨by simp; exact le1 (c2 _ _) (.a (.v 0) (.a (.v 1) (.n 1))) (.n 1000) (.v 0) (.n 16777216) hl, ?_⟩
        refine exs_nil ?_
        refine ⟨_, Sub.refl _, es, acc ++ [if checkS e then e else badT], rfl, sub_cons ?_ sub_nil, by simp; exact le1 (c2 _ _) (.a (.v 0) (.a (.v 1) (.n 1))) (.n 1000) (.a (.a (.v 0) (.n 1)) (.v 1)) (.n 1000) hl, fun x hq => hx x (.tail _ hq), ?_⟩
        · rw [List.map_append]; rfl
        · simpa [preS] using h
  · rintro σ ⟨es, acc, hi, hs, hl, hx, h⟩
    cases es with
    | cons p ps => cases hi
    | nil =>
      refine seq_weak hs ?_
      refine exs_freeze (x := "accepted_values") (by rfl) ?_
      repeat (walk_at "mine")
      have h : K (.list (acc.map V.str)) := by simpa [preS] using h
      exact h
end
end

section
noncomputable def EqOk (g : Gd) (v u : V) (b : Bool) : Prop := ∀ Φ A s x y, A.units ≤ 9850 → Inv g Φ s → Real g Φ v x → Real g Φ u y → SeqAt.EqAt A s x y b
theorem eqo_int {g : Gd} (a b : Int) : EqOk g (.int a) (.int b) (a == b) := fun Φ A s x y _ _ r₁ r₂ => by cases r₁; cases r₂; exact .int_int _ _ _ _
theorem eqo_str {g : Gd} (a b : Str) : EqOk g (.str a) (.str b) (a == b) := fun Φ A s x y _ _ r₁ r₂ => by cases r₁; cases r₂; exact .str_str _ _ _ _
inductive EqL (g : Gd) : List V → List V → List Bool → Prop
  | nil : EqL g [] [] []
  | cons {v u b l l' bs} : EqOk g v u b → EqL g l l' bs → EqL g (v :: l) (u :: l') (b :: bs)
theorem EqL.len {g : Gd} {l l' bs} (h : EqL g l l' bs) : l.length = bs.length ∧ l'.length = bs.length := by
  induction h with
  | nil => exact ⟨rfl, rfl⟩
  | cons _ _ ih => exact ⟨by simp [ih.1], by simp [ih.2]⟩
theorem EqL.at {g : Gd} {Φ A s l l' bs} (h : EqL g l l' bs) (hu : A.units ≤ 9850) (i : Inv g Φ s) : ∀ {xs ys : List Value}, Reals g Φ l xs → Reals g Φ l' ys → ∀ j (h1 : j < xs.length) (h2 : j < ys.length), SeqAt.EqAt A s xs[j] ys[j] (bs.getD j true) := by
  induction h with
  | nil => intro xs ys r1 r2 j h1; cases r1; cases h1
  | cons e _ ih =>
    intro xs ys r1 r2 j h1 h2
    cases r1 with | cons a1 r1 => cases r2 with | cons a2 r2 =>
      cases j with
      | zero => exact e Φ A s _ _ hu i a1 a2
      | succ j => exact ih r1 r2 j (by simpa using h1) (by simpa using h2)
theorem range_all_getD : ∀ (bs : List Bool), (List.range bs.length).all (fun j => bs.getD j true) = bs.all id := by
  intro bs
  rw [Bool.eq_iff_iff, List.all_eq_true, List.all_eq_true]
  constructor
  · intro h b hb
    obtain ⟨j, hj, rfl⟩ := List.mem_iff_getElem.mp hb
    have := h j (List.mem_range.mpr hj)
    simpa [List.getD_eq_getElem?_getD, hj] using this
  · intro h j hj
    have hj := List.mem_range.mp hj
    have := h bs[j] (List.getElem_mem hj)
    simpa [List.getD_eq_getElem?_getD, hj] using this

noncomputable def fssS (f : Str) (n : Int) (name : Str) : Str :=
  if f == "~" && n == 0 then (if Txt.startswith name "<" && Txt.endswith name ">" then Str.ofString "{" ++ cutS name (some 1) (some (-1)) ++ Str.ofString "}" else name)
  else f ++ Str.ofString ":" ++ Str.ofString (toString n) ++ Str.ofString "(" ++ name ++ Str.ofString ")"

section
variable {g : Gd} {d : Nat} {K : V → Prop}

theorem is_tup {Φ : FM} {s : Shared} {l : List V} {x : Value} (i : Inv g Φ s) (r : Real g Φ (.tup l) x) : ∃ a xs, x = .ref a ∧ s.heap.IsTuple a xs.toArray ∧ Reals g Φ l xs := by
  cases r with | tup h1 hc hd r =>
    rename_i a o xs n
    exact ⟨a, xs, rfl, ⟨o, i.held _ _ h1, hc, n, hd⟩, r⟩
theorem cmp_eq_t {l l' : List V} {bs : List Bool} (he : EqL g l l' bs) (h : K (.bool (bs.all id))) : CmpOk g d .Eq (.tup l) (.tup l') K := fun A Φ s x y ok i r₁ r₂ => by
  obtain ⟨a, xs, rfl, h1, q1⟩ := is_tup i r₁
  obtain ⟨b, ys, rfl, h2, q2⟩ := is_tup i r₂
  have hx := q1.length
  have hy := q2.length
  obtain ⟨e1, e2⟩ := he.len
  have hu := ok.2.2
  refine SeqAt.eq_tupleAt (e := fun j => bs.getD j true) h1 h2 ok.units (fun j p1 p2 => ?_) ?_
  · have := EqL.at he (A := A.in1) (by show A.units + 1 ≤ _; exact le1 (c2 _ _) (.a (.v 0) (.m 10 (.v 1))) (.n 9800) (.a (.v 0) (.n 1)) (.n 9850) hu) i q1 q2 j (by simpa using p1) (by simpa using p2)
    simpa using this
  · rw [show xs.toArray.size = bs.length by simp [hx, e1], show ys.toArray.size = bs.length by simp [hy, e2], Nat.min_self, range_all_getD]
    simp only [beq_self_eq_true, Bool.and_true]
    exact kv (.refl i.held) (.bool _) h
theorem cmp_ne_t {l l' : List V} {bs : List Bool} (he : EqL g l l' bs) (h : K (.bool (!bs.all id))) : CmpOk g d .NotEq (.tup l) (.tup l') K := fun A Φ s x y ok i r₁ r₂ => by
  obtain ⟨a, xs, rfl, h1, q1⟩ := is_tup i r₁
  obtain ⟨b, ys, rfl, h2, q2⟩ := is_tup i r₂
  have hx := q1.length
  have hy := q2.length
  obtain ⟨e1, e2⟩ := he.len
  have hu := ok.2.2
  refine SeqAt.RcNeAt.tuples (e := fun j => bs.getD j true) h1 h2 ok.units (fun j p1 p2 => ?_) _ _ _ _ ?_
  · have := EqL.at he (A := A.in1) (by show A.units + 1 ≤ _; exact le1 (c2 _ _) (.a (.v 0) (.m 10 (.v 1))) (.n 9800) (.a (.v 0) (.n 1)) (.n 9850) hu) i q1 q2 j (by simpa using p1) (by simpa using p2)
    simpa using this
  · rw [show xs.toArray.size = bs.length by simp [hx, e1], show ys.toArray.size = bs.length by simp [hy, e2], Nat.min_self, range_all_getD]
    simp only [beq_self_eq_true, Bool.and_true]
    exact kv (.refl i.held) (.bool _) h

theorem fss_ok {f name : Str} {n : Int} (lb : Lb g) (hf : f.length ≤ 1000) (hn : name.length ≤ 1000) (h0 : 0 ≤ n) (h1 : n < 1000) (h : K (.str (fssS f n name))) : CallOk g (d + 1) (.ref 84) [.tup [.str f, .int n, .str name]] K := by
  have hszl : sizeLine = 2 ^ 24 := rfl
  refine lb.fss.call rfl fun L nm qn doc pm cd => ?_
  unfold fssS at h
  refine exs_cons ?_
  refine ex_if ?_
  iterate 3 walk_at "mine"
  repeat (walk_at "mine")
  refine ⟨2, rfl, ?_⟩
  walk_at "mine"
  refine sl_upto3 (hi := 2) (by simp) (by simp; exact le0 (c1 0) (.n 3) (.n 16777216)) ?_
  repeat (walk_at "mine")
  refine ⟨by decide, ?_⟩
  refine cmp_eq_t (.cons (eqo_str _ _) (.cons (eqo_int _ _) .nil)) ?_
  refine true_b ?_
  simp only [List.all_cons, List.all_nil, _root_.id, Bool.and_true]
  refine ⟨fun hc => ?_, fun hc => ?_⟩
  · rw [if_pos hc] at h
    refine exs_cons ?_
    iterate 4 walk_at "mine"
    refine sub_tup (v := .str name) (by decide) (by rfl) ?_
    refine exs_cons ?_
    refine ex_if ?_
    walk_at "mine"
    walk_at "mine"
    walk_at "mine"
    walk_at "mine"
    refine ⟨_, meth_str F.slot_str_startswith F.type_str_startswith F.plainAttrs_str, ?_⟩
    walk_at "mine"
    walk_at "mine"
    walk_at "mine"
    refine call_startswith ?_
    refine true_b ⟨fun hc2 => ?_, fun hc2 => ?_⟩
    · rw [hc2] at h
      refine ⟨fun q => (by cases q), fun _ => ?_⟩
      repeat (walk_at "mine")
      exact h
    walk_at "mine"
    walk_at "mine"
    walk_at "mine"
    walk_at "mine"
    refine ⟨_, meth_str F.slot_str_endswith F.type_str_endswith F.plainAttrs_str, ?_⟩
    walk_at "mine"
    walk_at "mine"
    walk_at "mine"
    refine call_endswith ?_
    refine true_b ⟨fun hc3 => ?_, fun hc3 => ?_⟩
    · rw [hc2, hc3] at h
      refine ⟨fun q => (by cases q), fun _ => ?_⟩
      repeat (walk_at "mine")
      exact h
    rw [hc2, hc3] at h
    walk_at "mine"
    refine ⟨fun _ => ?_, fun q => by cases q⟩
    repeat (walk_at "mine")
    refine ⟨1, rfl, ?_⟩
    repeat (walk_at "mine")
    refine ⟨-1, rfl, ?_⟩
    walk_at "mine"
    refine sl_str (by exact le1 (c1 _) (.v 0) (.n 1000) (.v 0) (.n 16777216) hn) ?_
    have hl : (cutS name (some 1) (some (-1))).length ≤ name.length := by
      show (cutL name.cps.toList _ _).toArray.size ≤ name.cps.size
      have := cutL_length name.cps.toList (some 1) (some (-1))
      simpa using this
    refine bin_mod_s (by exact le2 (c2 _ _) (.v 0) (.n 1000) (.v 1) (.v 0) (.v 1) (.n 1000000) hn hl) ?_
    exact h
  · have hc' : ¬ ((f == ("~" : Str)) && n == 0) = true := by rw [hc]; exact Bool.false_ne_true
    rw [if_neg hc'] at h
    repeat (walk_at "mine")
    refine bin_mod_t (by exact le1 (c1 _) (.v 0) (.n 1000) (.v 0) (.n 100000) hf) (by exact le1 (c1 _) (.v 0) (.n 1000) (.v 0) (.n 100000) hn) h0 (by lia) ?_
    exact h
end
end

section
noncomputable def copyD (t : List (Str × Int)) : List (Str × Int) → List (Str × Int)
  | [] => t
  | p :: r => copyD (dput t p.1 p.2) r
noncomputable def addD (t : List (Str × Int)) : List (Str × Int) → List (Str × Int)
  | [] => t
  | p :: r => addD (dput t p.1 (match dget t p.1 with | some o => o + p.2 | none => p.2)) r
noncomputable def addC (t s : List (Str × Int)) : List (Str × Int) := addD (copyD [] t) s
theorem dput_len (l : List (Str × Int)) (k : Str) (i : Int) : (dput l k i).length ≤ l.length + 1 := by
  unfold dput
  split <;> simp
theorem copyD_len : ∀ (r t : List (Str × Int)), (copyD t r).length ≤ t.length + r.length
  | [], t => by simp [copyD]
  | p :: r, t => by
    have := copyD_len r (dput t p.1 p.2)
    have := dput_len t p.1 p.2
    simp only [copyD, List.length_cons]; exact le2 (c4 _ _ _ _) (.v 0) (.a (.v 1) (.v 2)) (.v 1) (.a (.v 3) (.n 1)) (.v 0) (.a (.v 3) (.a (.v 2) (.n 1))) (by assumption) this

section
variable {g : Gd} {d : Nat} {K : V → Prop}

inductive CopyI (K : V → Prop) (s : List (Str × Int)) (items : List V) (σ : Sg) : Prop
  | mk (r n : List (Str × Int)) : items = itemsV r → Sub [("new_callers", .ownd n), ("source", .val (.dict s))] σ → n.length + r.length ≤ 300 → K (.dict (addD (copyD n r) s)) → CopyI K s items σ
inductive AddI (K : V → Prop) (items : List V) (σ : Sg) : Prop
  | mk (r n : List (Str × Int)) : items = itemsV r → Sub [("new_callers", .ownd n)] σ → n.length + r.length ≤ 600 → K (.dict (addD n r)) → AddI K items σ
theorem addc_ok {t s : List (Str × Int)} (lb : Lb g) (ht : t.length ≤ 300) (hs : s.length ≤ 300) (h : K (.dict (addC t s))) : CallOk g (d + 1) (.ref 98) [.dict t, .dict s] K := by
  have hszl : sizeLine = 2 ^ 24 := rfl
  refine lb.ac.call rfl fun L nm qn doc pm cd => ?_
  refine exs_cons ?_
  refine ex_assignN ?_ (by rfl) (by rfl)
  refine evn_dict ?_
  refine exs_cons ?_
  refine ex_for ?_
  refine it_meth ?_
  walk_at "mine"
  refine ⟨_, meth_dict F.slot_dict_items F.type_dict_items, ?_⟩
  walk_at "mine"
  refine call_items ?_
  unfold addC at h
  refine loop_inv (CopyI K s) ?_ ?_ _ _ ⟨t, [], rfl, sub_cons (by rfl) (sub_cons (by rfl) sub_nil), by simpa using ht, h⟩
  · clear h ht
    rintro v r σ ⟨es, n, hi, hs', hl, h⟩
    cases es with
    | nil => cases hi
    | cons e es =>
      simp only [itemsV, List.map_cons, List.cons.injEq] at hi
      obtain ⟨rfl, rfl⟩ := hi
      obtain ⟨p, c⟩ := e
      simp only [List.length_cons] at hl
      refine as_tup (xs := ["func", "caller"]) ?_ (by rfl) (by rfl) rfl
      refine exs_weak (σ' := [("caller", .val (.int c)), ("func", .val (.str p)), ("new_callers", .ownd n), ("source", .val (.dict s))]) ?_ (sub_push (sub_push hs'))
      refine exs_cons ?_
      refine ex_set_dict (by rfl) (by exact le1 (c2 _ _) (.a (.v 0) (.a (.v 1) (.n 1))) (.n 300) (.v 0) (.n 1000) hl) ?_
      walk_at "mine"
      walk_at "mine"
      refine ⟨p, c, rfl, rfl, ?_⟩
      walk_at "mine"
      have : (dput n (p, c).1 (p, c).2).length ≤ n.length + 1 := dput_len n p c
      exact ⟨_, Sub.refl _, es, _, rfl, sub_cons (by rfl) (sub_cons (by rfl) sub_nil), by exact le2 (c3 _ _ _) (.a (.v 0) (.a (.v 1) (.n 1))) (.n 300) (.v 2) (.a (.v 0) (.n 1)) (.a (.v 2) (.v 1)) (.n 300) hl this, h⟩
  clear h
  rintro σ ⟨es, n, hi, hs', hl, h⟩
  cases es with
  | cons p ps => cases hi
  | nil =>
    refine seq_weak hs' ?_
    replace h : K (.dict (addD n s)) := h
    refine exs_cons ?_
    refine ex_for ?_
    refine it_meth ?_
    walk_at "mine"
    refine ⟨_, meth_dict F.slot_dict_items F.type_dict_items, ?_⟩
    walk_at "mine"
    refine call_items ?_
    clear hs'
    refine loop_inv (AddI K) ?_ ?_ _ _ ⟨s, n, rfl, sub_cons (by rfl) sub_nil, by simp at hl; exact le2 (c2 _ _) (.v 0) (.n 300) (.v 1) (.n 300) (.a (.v 1) (.v 0)) (.n 600) hs hl, h⟩
    · clear h hl hs n
      rintro v r σ ⟨es, n, hi, hs', hl, h⟩
      cases es with
      | nil => cases hi
      | cons e es =>
        simp only [itemsV, List.map_cons, List.cons.injEq] at hi
        obtain ⟨rfl, rfl⟩ := hi
        obtain ⟨p, c⟩ := e
        simp only [List.length_cons] at hl
        refine as_tup (xs := ["func", "caller"]) ?_ (by rfl) (by rfl) rfl
        refine exs_weak (σ' := [("caller", .val (.int c)), ("func", .val (.str p)), ("new_callers", .ownd n)]) ?_ (sub_push (sub_push hs'))
        refine exs_cons ?_
        refine ex_if ?_
        refine ts_in_own (by rfl) ?_
        walk_at "mine"
        refine ⟨p, rfl, ?_⟩
        refine ⟨fun hc => ?_, fun hc => ?_⟩
        · obtain ⟨old, ho⟩ := Option.isSome_iff_exists.mp hc
          have he : addD n ((p, c) :: es) = addD (dput n p (old + c)) es := by simp [addD, ho]
          rw [he] at h
          refine exs_cons ?_
          refine ex_if ?_
          walk_at "mine"
          walk_at "mine"
          walk_at "mine"
          refine ⟨_, rfl, Callee.builtin _, ?_⟩
          repeat (walk_at "mine")
          refine call_isi ?_
          refine true_b ⟨fun q => (by cases q), fun _ => ?_⟩
          refine exs_cons ?_
          refine ex_aug_dict (by rfl) (by exact le1 (c2 _ _) (.a (.v 0) (.a (.v 1) (.n 1))) (.n 600) (.v 0) (.n 1000) hl) ?_
          walk_at "mine"
          refine ⟨p, old, rfl, ho, ?_⟩
          walk_at "mine"
          walk_at "mine"
          refine ⟨_, rfl, ?_⟩
          repeat (walk_at "mine")
          have := dput_len n p (old + c)
          exact ⟨_, Sub.refl _, es, _, rfl, sub_cons (by rfl) sub_nil, by exact le2 (c3 _ _ _) (.a (.v 0) (.a (.v 1) (.n 1))) (.n 600) (.v 2) (.a (.v 0) (.n 1)) (.a (.v 2) (.v 1)) (.n 600) hl this, h⟩
        · have ho : dget n p = none := by simpa using hc
          have he : addD n ((p, c) :: es) = addD (dput n p c) es := by simp [addD, ho]
          rw [he] at h
          refine exs_cons ?_
          refine ex_set_dict (by rfl) (by exact le1 (c2 _ _) (.a (.v 0) (.a (.v 1) (.n 1))) (.n 600) (.v 0) (.n 1000) hl) ?_
          walk_at "mine"
          walk_at "mine"
          refine ⟨p, c, rfl, rfl, ?_⟩
          repeat (walk_at "mine")
          have := dput_len n p c
          exact ⟨_, Sub.refl _, es, _, rfl, sub_cons (by rfl) sub_nil, by exact le2 (c3 _ _ _) (.a (.v 0) (.a (.v 1) (.n 1))) (.n 600) (.v 2) (.a (.v 0) (.n 1)) (.a (.v 2) (.v 1)) (.n 600) hl this, h⟩
    · clear h hl
      rintro σ ⟨es, n, hi, hs', hl, h⟩
      cases es with
      | cons p ps => cases hi
      | nil =>
        refine seq_weak hs' ?_
        refine exs_freezed (x := "new_callers") (by rfl) ?_
        repeat (walk_at "mine")
        exact h

inductive CcI (K : V → Prop) (items : List V) (σ : Sg) : Prop
  | mk (r : List (Str × Int)) (n : Int) : items = (r.map fun p => V.int p.2) → Sub [("nc", .val (.int n))] σ → K (.int (n + (r.map (·.2)).sum)) → CcI K items σ
theorem cc_ok {l : List (Str × Int)} (lb : Lb g) (h : K (.int (l.map (·.2)).sum)) : CallOk g (d + 1) (.ref 105) [.dict l] K := by
  refine lb.cc.call rfl fun L nm qn doc pm cd => ?_
  refine exs_cons ?_
  iterate 2 walk_at "mine"
  refine exs_cons ?_
  refine ex_for ?_
  refine it_meth ?_
  walk_at "mine"
  refine ⟨_, meth_dict F.slot_dict_values F.type_dict_values, ?_⟩
  walk_at "mine"
  refine call_values ?_
  refine loop_inv (CcI K) ?_ ?_ _ _ ⟨l, 0, rfl, sub_cons (by rfl) sub_nil, by simpa using h⟩
  · clear h
    rintro v r σ ⟨es, n, hi, hs', h⟩
    cases es with
    | nil => cases hi
    | cons e es =>
      simp only [List.map_cons, List.cons.injEq] at hi
      obtain ⟨rfl, rfl⟩ := hi
      obtain ⟨p, c⟩ := e
      refine as_name ?_ (by rfl)
      refine exs_weak (σ' := [("calls", .val (.int c)), ("nc", .val (.int n))]) ?_ (sub_push hs')
      repeat (walk_at "mine")
      exact ⟨_, Sub.refl _, es, _, rfl, sub_cons (by rfl) sub_nil, by simpa [Int.add_assoc] using h⟩
  · clear h
    rintro σ ⟨es, n, hi, hs', h⟩
    cases es with
    | cons p ps => cases hi
    | nil =>
      refine seq_weak hs' ?_
      repeat (walk_at "mine")
      have h : K (.int n) := by simpa using h
      exact h

noncomputable def stV (a b c e : Int) (l : List (Str × Int)) : V := .tup [.int a, .int b, .int c, .int e, .dict l]
theorem afs_ok {a b c e a' b' c' e' : Int} {l l' : List (Str × Int)} (lb : Lb g) (hl : l.length ≤ 300) (hl' : l'.length ≤ 300) (h : K (stV (a' + a) (b' + b) (c' + c) (e' + e) (addC l l'))) : CallOk g (d + 2) (.ref 91) [stV a b c e l, stV a' b' c' e' l'] K := by
  have hszl : sizeLine = 2 ^ 24 := rfl
  have hac := lb.ac.1
  refine lb.afs.call rfl fun L nm qn doc pm cd => ?_
  refine exs_cons ?_
  refine ex_unpack ?_
  walk_at "mine"
  refine as_tup (xs := ["cc", "nc", "tt", "ct", "callers"]) ?_ (by rfl) (by rfl) rfl
  refine exs_cons ?_
  refine ex_unpack ?_
  walk_at "mine"
  refine as_tup (xs := ["t_cc", "t_nc", "t_tt", "t_ct", "t_callers"]) ?_ (by rfl) (by rfl) rfl
  repeat (walk_at "mine")
  refine ⟨_, rfl, lb.ac.callee, ?_⟩
  repeat (walk_at "mine")
  refine addc_ok lb hl hl' ?_
  walk_at "mine"
  refine ⟨by simp; exact le0 (c1 0) (.n 5) (.n 16777216), ?_⟩
  exact h
end
end

section
/-- two texts that may be matched -/
noncomputable def EllOk (w t : Str) : Prop := w.length ≤ 900 ∧ t.length ≤ 900

section
variable {g : Gd} {d : Nat} {K : V → Prop}

theorem strKind_pos (x : Str) : 1 ≤ Builtin.Str.strKind x := by
  unfold Builtin.Str.strKind
  split
  · exact le0 (c1 0) (.n 1) (.n 1)
  · split <;> (first | exact le0 (c1 0) (.n 1) (.n 2) | exact le0 (c1 0) (.n 1) (.n 4))
theorem split_two {w : Str} (hc : Txt.contains w "..." = true) : 2 ≤ (Txt.split w "...").length := by
  obtain ⟨i, h1, h2⟩ := (StrLaws.found_iff w "...").mp hc
  have hl : ("..." : Str).length = 3 := rfl
  have e1 : (decide (w.length < ("..." : Str).length) || decide (Builtin.Str.strKind w < Builtin.Str.strKind ("..." : Str))) = false := by
    have : Builtin.Str.strKind ("..." : Str) = 1 := by decide +kernel
    have := strKind_pos w
    simp; exact ⟨le1 (c3 _ _ _) (.a (.v 0) (.v 1)) (.v 2) (.v 1) (.v 2) h1, le2 (c2 _ _) (.v 0) (.n 1) (.n 1) (.v 1) (.v 0) (.v 1) (Nat.le_of_eq (by assumption)) this⟩
  unfold Txt.split
  rw [if_neg (by rw [e1]; exact Bool.false_ne_true)]
  have hne : (occurrences w "..." 0 w.length (w.length + 1)).isEmpty = false := by
    cases h : occurrences w "..." 0 w.length (w.length + 1) with
    | cons a b => rfl
    | nil =>
      obtain ⟨f, hf, ht⟩ := StrLaws.occ_tight w "..." (by decide)
      rw [h] at hf
      exact absurd ⟨h1, h2⟩ (ht i (by have hf : f = 0 := hf; exact le1 (c2 _ _) (.v 0) (.n 0) (.v 0) (.v 1) (Nat.le_of_eq hf)))
  rw [if_neg (by rw [hne]; exact Bool.false_ne_true)]
  rw [length_partsBetween]
  cases h : occurrences w "..." 0 w.length (w.length + 1) with
  | nil => rw [h] at hne; cases hne
  | cons a b => simp
theorem ell_ok {w t : Str} (lb : Lb g) (ho : EllOk w t) (h : K (.bool (ellip w t))) : CallOk g (d + 1) (.ref 49) [.str w, .str t] K := by
  obtain ⟨tk, hm⟩ := lb.mark
  have h1 := ho.1
  refine ellip_ok lb.ell hm (lb.bi _ (by decide)) (by exact le1 (c1 _) (.v 0) (.n 900) (.v 0) (.n 1000) h1) (by have := ho.2; exact le1 (c1 _) (.v 0) (.n 900) (.v 0) (.n 1000) this) ?_ split_two ?_ (fun p hp => Nat.le_trans (part_short hp) (by exact le1 (c1 _) (.v 0) (.n 900) (.v 0) (.n 1000) h1)) h
  · rw [length_partsBetween]
    have := StrLaws.occ_length_le_len w "..." 0 w.length (w.length + 1)
    lia
  · have := split_le w "..."
    exact le2 (c2 _ _) (.v 0) (.n 900) (.v 1) (.a (.v 0) (.n 2)) (.v 1) (.n 1000) h1 this

theorem told_ok {l l' : List Bool} (lb : Lb g) (hs : l.length ≤ 1000) (h : K (.bool (l == l'))) : CallOk g (d + 1) (.ref 110) [.list (l.map .bool), .list (l'.map .bool)] K := by
  have hszl : sizeLine = 2 ^ 24 := rfl
  refine lb.told.call rfl fun L nm qn doc pm cd => ?_
  refine exs_cons ?_
  refine ex_return ?_
  refine ev_and ?_
  walk_at "mine"
  walk_at "mine"
  walk_at "mine"
  refine cmp_eq_l repBool ?_
  refine true_b ⟨fun e => ?_, fun e => ?_⟩
  · exact h
  refine ev_and1 ?_
  walk_at "mine"
  refine ev_comp (cl := ?_) ?_ (by rfl) ?_ ?_ ?_ ?_ ?_
  rotate_left
  · exact trivial
  · exact .nil
  · decide
  · rfl
  · decide
  refine it_of ?_
  walk_at "mine"
  refine itv_list ?_
  intro C
  refine compP_fm V.bool (fun _ => false) (fun _ => V.none) l [] (by simp; exact le1 (c1 _) (.v 0) (.n 1000) (.v 0) (.n 16777216) hs) (fun x hx => ?_) ?_
  · refine asl_name ⟨sub_bind (by rfl), ?_⟩ (by rfl)
    refine ts_and ?_
    iterate 3 walk_at "mine"
    refine cmp_isn rfl rfl ?_
    refine true_b ?_
    refine ⟨fun e => ⟨(fun e => by cases e), fun _ => rfl⟩, fun e => ?_⟩
    iterate 4 walk_at "mine"
    refine cmp_isn rfl rfl ?_
    refine true_b ?_
    refine ⟨fun e => ⟨(fun e => by cases e), fun _ => rfl⟩, fun e' => ?_⟩
    exfalso
    cases x <;> simp [vis] at e e'
  refine ev_list ?_
  refine evs_nil ⟨by decide, ?_⟩
  have hn : (l.filter fun _ => false) = [] := List.filter_eq_nil_iff.mpr (fun _ _ q => by cases q)
  rw [hn]
  refine cmp_eq_l (l := ([] : List Bool)) (l' := []) repBool ?_
  rw [e] at h
  exact h

noncomputable def standsS (ws : List Str) (t : Str) : Bool := ws.any fun w => ellip w t
inductive StdI (K : V → Prop) (t : Str) (items : List V) (σ : Sg) : Prop
  | mk (r : List Str) : items = r.map V.str → Sub [("page", .val (.str t))] σ → (∀ w ∈ r, EllOk w t) → K (.bool (standsS r t)) → StdI K t items σ
theorem stands_ok {ws : List Str} {t : Str} (lb : Lb g) (ho : ∀ w ∈ ws, EllOk w t) (h : K (.bool (standsS ws t))) : CallOk g (d + 2) (.ref 134) [.list (ws.map .str), .str t] K := by
  have he := lb.ell.1
  refine lb.stands.call rfl fun L nm qn doc pm cd => ?_
  refine exs_cons ?_
  refine ex_for ?_
  refine it_of ?_
  walk_at "mine"
  refine itv_list ?_
  refine loop_inv (StdI K t) ?_ ?_ _ _ ⟨ws, rfl, sub_cons (by rfl) sub_nil, ho, h⟩
  · clear h ho
    rintro v r σ ⟨es, hi, hs', ho, h⟩
    cases es with
    | nil => cases hi
    | cons e es =>
      simp only [List.map_cons, List.cons.injEq] at hi
      obtain ⟨rfl, rfl⟩ := hi
      refine as_name ?_ (by rfl)
      refine exs_weak (σ' := [("want", .val (.str e)), ("page", .val (.str t))]) ?_ (sub_push hs')
      refine exs_cons ?_
      walk_at "mine"
      walk_at "mine"
      walk_at "mine"
      refine ⟨_, rfl, lb.ell.callee, ?_⟩
      repeat (walk_at "mine")
      refine ell_ok lb (ho e (by simp)) ?_
      refine exs_cons ?_
      refine ex_if ?_
      repeat (walk_at "mine")
      refine cmp_isn rfl rfl ?_
      refine true_b ?_
      cases hb : ellip e t with
      | true =>
        refine ⟨fun _ => ?_, fun q => (by cases q)⟩
        repeat (walk_at "mine")
        simp only [standsS, List.any_cons, hb, Bool.true_or] at h
        exact h
      | false =>
        refine ⟨fun q => (by cases q), fun _ => ?_⟩
        repeat (walk_at "mine")
        simp only [standsS, List.any_cons, hb, Bool.false_or] at h
        exact ⟨_, Sub.refl _, es, rfl, sub_cons (by rfl) sub_nil, fun w hw => ho w (.tail _ hw), h⟩
  · clear h ho
    rintro σ ⟨es, hi, hs', _, h⟩
    cases es with
    | cons p ps => cases hi
    | nil =>
      refine seq_weak hs' ?_
      repeat (walk_at "mine")
      exact h
end
end


section
noncomputable def pairV (p : Str × Str) : V := .tup [.str p.1, .str p.2]
noncomputable def askedS (a b : Str) : List (Str × Str) := [(a ++ "..." ++ a, a), ("..." ++ a ++ "..." ++ cutS a (some 1) none ++ "...", a), ("..." ++ a ++ "..." ++ b ++ "...", a ++ b ++ a), (a ++ "..." ++ b ++ "..." ++ b, a ++ b), ("..." ++ cutS a (some 1) none, a),
  (a ++ "......" ++ b, a ++ b), (a ++ "...", b ++ a), ("..." ++ a, a ++ b), (a, a ++ b), (a ++ b, a), (a, a)]
noncomputable def dotsDue : List Bool := [false, false, true, false, true, true, false, false, false, false, true]
noncomputable def dotsS (a b : Str) : Bool := ((askedS a b).map fun p => ellip p.1 p.2) == dotsDue
theorem ln_ddots : (Str.ofString "......").length = 6 := rfl

section
variable {g : Gd} {d : Nat} {K : V → Prop}

theorem asl_tupb {env : Env} {σ : Sg} {elts k pos vs xs} {K : Sg → Prop} (h : K (bindAll xs vs σ)) (hn : names? elts = some xs) (hv : (xs.all fun x => env.kindOf x == some .local) = true) (hl : vs.length = xs.length) : AsL g d env σ (.Tuple elts k pos) (.tup vs) K :=
  asl_tup h hn (fun x hx => by simpa using List.all_eq_true.mp hv x hx) hl
theorem asked_ok {a b : Str} (ha : a.length ≤ 100) (hb : b.length ≤ 100) : ∀ p ∈ askedS a b, EllOk p.1 p.2 := by
  intro p hp
  have hc := cutS_len a (some 1) none
  simp only [askedS, List.mem_cons, List.not_mem_nil, or_false] at hp
  rcases hp with rfl | rfl | rfl | rfl | rfl | rfl | rfl | rfl | rfl | rfl | rfl <;> (constructor <;> simp only [Str.length_append, ln_dots, ln_ddots] <;> (first | exact le1 (c1 _) (.m 2 (.v 0)) (.m 2 (.n 100)) (.a (.a (.v 0) (.n 3)) (.v 0)) (.n 900) (Nat.mul_le_mul_left 2 ha) | exact le1 (c1 _) (.v 0) (.n 100) (.v 0) (.n 900) ha | exact le2 (c2 _ _) (.m 2 (.v 0)) (.m 2 (.n 100)) (.v 1) (.v 0) (.a (.a (.a (.a (.n 3) (.v 0)) (.n 3)) (.v 1)) (.n 3)) (.n 900) (Nat.mul_le_mul_left 2 ha) hc | exact le2 (c2 _ _) (.v 0) (.n 100) (.v 1) (.n 100) (.a (.a (.a (.a (.n 3) (.v 0)) (.n 3)) (.v 1)) (.n 3)) (.n 900) ha hb | exact le2 (c2 _ _) (.m 2 (.v 0)) (.m 2 (.n 100)) (.v 1) (.n 100) (.a (.a (.v 0) (.v 1)) (.v 0)) (.n 900) (Nat.mul_le_mul_left 2 ha) hb | exact le2 (c2 _ _) (.v 0) (.n 100) (.m 2 (.v 1)) (.m 2 (.n 100)) (.a (.a (.a (.a (.v 0) (.n 3)) (.v 1)) (.n 3)) (.v 1)) (.n 900) ha (Nat.mul_le_mul_left 2 hb) | exact le2 (c2 _ _) (.v 0) (.n 100) (.v 1) (.n 100) (.a (.v 0) (.v 1)) (.n 900) ha hb | exact le2 (c2 _ _) (.v 0) (.n 100) (.v 1) (.v 0) (.a (.n 3) (.v 1)) (.n 900) ha hc | exact le2 (c2 _ _) (.v 0) (.n 100) (.v 1) (.n 100) (.a (.a (.v 0) (.n 6)) (.v 1)) (.n 900) ha hb | exact le1 (c1 _) (.v 0) (.n 100) (.a (.v 0) (.n 3)) (.n 900) ha | exact le2 (c2 _ _) (.v 0) (.n 100) (.v 1) (.n 100) (.a (.v 1) (.v 0)) (.n 900) ha hb | exact le1 (c1 _) (.v 0) (.n 100) (.a (.n 3) (.v 0)) (.n 900) ha))

theorem dots_ok {a b : Str} (lb : Lb g) (ha : a.length ≤ 100) (hb : b.length ≤ 100) (h : K (.bool (dotsS a b))) : CallOk g (d + 3) (.ref 115) [.str a, .str b] K := by
  have hszl : sizeLine = 2 ^ 24 := rfl
  have hc := cutS_len a (some 1) none
  have hdd := ln_ddots
  have he := lb.ell.1
  have ht := lb.told.1
  refine lb.dots.call rfl fun L nm qn doc pm cd => ?_
  refine exs_cons ?_
  walk_at "mine"
  walk_at "mine"
  repeat (first | walk_at "str" | refine ⟨_, rfl, ?_⟩ | refine ⟨(by simp; (first | exact le0 (c1 0) (.n 2) (.n 16777216) | exact le0 (c1 0) (.n 11) (.n 16777216))), ?_⟩ | refine sl_str (by exact le1 (c1 _) (.v 0) (.n 100) (.v 0) (.n 16777216) ha) ?_)
  refine ⟨lb.told.callee, ?_⟩
  refine evs_cons ?_
  refine ev_comp (cl := []) ?_ (by rfl) trivial .nil (by decide) rfl (by decide)
  refine it_of ?_
  walk_at "mine"
  refine itv_list ?_
  intro C
  refine compP_map pairV (fun p => V.bool (ellip p.1 p.2)) (askedS a b) (by simp [askedS]; exact le0 (c1 0) (.n 11) (.n 16777216)) (fun p hp => ?_) ?_
  · refine asl_tupb (xs := ["want", "got"]) ⟨?_, ?_⟩ (by rfl) (by rfl) rfl
    · exact Sub.trans (sub_bind (x := "want") (sl := .val (.str p.1)) (by rfl)) (sub_bind (x := "got") (sl := .val (.str p.2)) (by rfl))
    walk_at "mine"
    walk_at "mine"
    refine ⟨_, rfl, lb.ell.callee, ?_⟩
    repeat (walk_at "mine")
    exact ell_ok lb (asked_ok ha hb p hp) rfl
  repeat (first | walk_at "mine" | refine ⟨(by simp; exact le0 (c1 0) (.n 11) (.n 16777216)), ?_⟩)
  have e : ((askedS a b).map fun p => V.bool (ellip p.1 p.2)) = ((askedS a b).map fun p => ellip p.1 p.2).map V.bool := by rw [List.map_map]; rfl
  rw [e]
  exact told_ok (l' := dotsDue) lb (by simp [askedS]) h
end
end

section
noncomputable def enS (k : Nat) : List Str → List V
  | [] => []
  | n :: r => .tup [.int k, .str n] :: enS (k + 1) r
theorem enumV_str : ∀ (l : List Str), enumV (l.map V.str) = enS 0 l := by
  have key : ∀ (l : List Str) (k : Nat), ((l.map V.str).zipIdx k).map (fun p => V.tup [.int p.2, p.1]) = enS k l := by
    intro l
    induction l with
    | nil => intro k; rfl
    | cons n r ih => intro k; simp only [List.map_cons, List.zipIdx_cons, enS, ih]
  intro l; exact key l 0
noncomputable abbrev Fn3 := Str × Int × Str
noncomputable def fnV (p : Fn3) : V := .tup [.str p.1, .int p.2.1, .str p.2.2]
noncomputable def fnL (k : Nat) (n : Str) : List Fn3 := [("x", k + 1, n), ("~", k + 1, n), ("x", 0, "<" ++ n ++ ">"), ("~", 0, "<" ++ n ++ ">"), ("~", 0, n), ("~", 0, "<" ++ n), ("~", 0, n ++ ">")]
noncomputable def txL (k : Nat) (n : Str) : List Str := ["x:" ++ Str.ofString (toString ((k : Int) + 1)) ++ "(" ++ n ++ ")", "~:" ++ Str.ofString (toString ((k : Int) + 1)) ++ "(" ++ n ++ ")", "x:0(<" ++ n ++ ">)", "{" ++ n ++ "}", n, "<" ++ n, n ++ ">"]
noncomputable def formOf (forms : Int) (k : Nat) : Int := forms / 7 ^ k % 7
noncomputable def toldS (forms : Int) : Nat → List Str → List Fn3
  | _, [] => []
  | k, n :: r => (fnL k n).getD (formOf forms k).toNat ("", 0, "") :: toldS forms (k + 1) r
noncomputable def dueS (forms : Int) : Nat → List Str → List Str
  | _, [] => []
  | k, n :: r => (txL k n).getD (formOf forms k).toNat "" :: dueS forms (k + 1) r
theorem ixV_map {α : Type} (F : α → V) (l : List α) (x0 : α) (i : Int) (h0 : 0 ≤ i) (h1 : i < l.length) : ixV (l.map F) i = some (F (l.getD i.toNat x0)) := by
  unfold ixV seqIndex?
  have hl : i.toNat < l.length := by omega
  simp [h0, h1, List.getD_eq_getElem?_getD, hl, show ¬ i < 0 by lia]
theorem toldS_len (f : Int) : ∀ (l : List Str) (k : Nat), (toldS f k l).length = l.length
  | [], _ => rfl
  | _ :: r, k => by simp [toldS, toldS_len f r]
theorem dueS_len (f : Int) : ∀ (l : List Str) (k : Nat), (dueS f k l).length = l.length
  | [], _ => rfl
  | _ :: r, k => by simp [dueS, dueS_len f r]

noncomputable def hideP : List (Str × Str) := [("", ""), ("\"", ""), ("\"(\"", "\")\""), ("\"\\\")\"", "\\"), ("\")\"", "\""), ("\\(", "\""), ("\\\\", "\"(\""), ("\\)", "\\"), ("\\\"", "\\\\")]
noncomputable def hide1 (number : Int) (k : Nat) (row : Str) : Str :=
  let q := hideP.getD ((number + k) % 9).toNat ("", "")
  let gap := (number / 9 + k) % 9
  cutS row none (some gap) ++ q.1 ++ cutS row (some gap) none ++ q.2
noncomputable def hideS (number : Int) : Nat → List Str → List Str
  | _, [] => []
  | k, r :: rs => hide1 number k r :: hideS number (k + 1) rs

section
variable {g : Gd} {d : Nat} {K : V → Prop}

inductive FnsI (K : V → Prop) (forms : Int) (items : List V) (σ : Sg) : Prop
  | mk (r : List Str) (k : Nat) (tl : List Fn3) (dl : List Str) : items = enS k r → Sub [("forms", .val (.int forms)), ("told", .own (tl.map fnV)), ("due", .own (dl.map V.str))] σ → k + r.length ≤ 4 → tl.length + r.length ≤ 4 → dl.length + r.length ≤ 4 → (∀ n ∈ r, n.length ≤ 80) → K (.tup [.list ((tl ++ toldS forms k r).map fnV), .list ((dl ++ dueS forms k r).map V.str)]) → FnsI K forms items σ
theorem fns_ok {names : List Str} {forms : Int} (lb : Lb g) (hl : names.length ≤ 4) (hn : ∀ n ∈ names, n.length ≤ 80) (h : K (.tup [.list ((toldS forms 0 names).map fnV), .list ((dueS forms 0 names).map V.str)])) : CallOk g (d + 1) (.ref 122) [.list (names.map .str), .int forms] K := by
  have hszl : sizeLine = 2 ^ 24 := rfl
  refine lb.fns.call rfl fun L nm qn doc pm cd => ?_
  refine exs_cons ?_
  refine ex_tup_new_swapped (xs := ["told", "due"]) ?_ (by rfl) (by decide) (by rfl) (by rfl)
  refine evns_cons (evn_list ?_)
  refine evs_nil ⟨by decide, ?_⟩
  refine evns_cons (evn_list ?_)
  refine evs_nil ⟨by decide, ?_⟩
  refine evns_nil ⟨rfl, ?_⟩
  refine exs_cons ?_
  refine ex_for ?_
  refine it_call ?_
  walk_at "mine"
  refine ⟨_, rfl, Callee.type _, ?_⟩
  repeat (walk_at "mine")
  refine call_enum ?_
  rw [enumV_str]
  refine loop_inv (FnsI K forms) ?_ ?_ _ _ ⟨names, 0, [], [], rfl, sub_cons (by rfl) (sub_cons (by rfl) (sub_cons (by rfl) sub_nil)), by simpa using hl, by simpa using hl, by simpa using hl, hn, h⟩
  · clear h hl hn
    rintro v r σ ⟨es, k, tl, dl, hi, hs, hk, ht, hd, hn, h⟩
    cases es with
    | nil => cases hi
    | cons e es =>
      simp only [enS, List.cons.injEq] at hi
      obtain ⟨rfl, rfl⟩ := hi
      simp only [List.length_cons] at hk ht hd
      have hne := hn e (by simp)
      have hts : (Str.ofString (toString ((k : Int) + 1))).length ≤ 5 := by
        rcases k with _ | _ | _ | _ | k <;> first | decide | exact no10 (le1 (c2 _ _) (.a (.a (.a (.a (.a (.v 1) (.n 1)) (.n 1)) (.n 1)) (.n 1)) (.a (.v 0) (.n 1))) (.n 4) (.n 1) (.n 0) hk)
      have hlog : ((k : Int) + 1).natAbs.log2 < 1920 := Nat.lt_of_lt_of_le ((Nat.log2_lt (by omega)).mpr (show ((k : Int) + 1).natAbs < 2 ^ 4 by omega)) (by exact le0 (c1 0) (.n 4) (.n 1920))
      have hf0 : 0 ≤ formOf forms k := Int.emod_nonneg _ (by decide)
      have hf1 : formOf forms k < 7 := Int.emod_lt_of_pos _ (by decide)
      refine as_tup (xs := ["k", "name"]) ?_ (by rfl) (by rfl) rfl
      refine exs_weak (σ' := [("name", .val (.str e)), ("k", .val (.int k)), ("forms", .val (.int forms)), ("told", .own (tl.map fnV)), ("due", .own (dl.map V.str))]) ?_ (sub_push (sub_push hs))
      refine exs_assignE (v := .int (formOf forms k)) ?_ (by rfl) ?_
      · repeat' (walk_at "eo")
        any_goals (refine bin_pown (.inr rfl) (by exact le1 (c2 _ _) (.a (.v 0) (.a (.v 1) (.n 1))) (.n 4) (.a (.v 0) (.n 1)) (.n 4) hk) ?_; rfl)
        refine bin_divn (Int.pow_pos (by decide)) ?_ rfl
        rcases k with _ | _ | _ | _ | k <;> first | decide | lia
      refine exs_cons ?_
      refine ex_append (by rfl) ?_
      refine ev_to (v := fnV ((fnL k e).getD (formOf forms k).toNat ("", 0, ""))) ?_ ?_
      · refine eve_sub (a := .list ((fnL k e).map fnV)) (i := .int (formOf forms k)) ?_ ?_ ?_
        · repeat' (walk_at "eo")
        · walk_at "e"
        · exact sub_list (by lia) (ixV_map fnV (fnL k e) _ (formOf forms k) hf0 hf1) rfl
      refine ⟨by simp; exact le1 (c2 _ _) (.a (.v 1) (.a (.v 0) (.n 1))) (.n 4) (.v 1) (.n 16777216) ht, ?_⟩
      refine exs_cons ?_
      refine ex_append (by rfl) ?_
      refine ev_to (v := .str ((txL k e).getD (formOf forms k).toNat "")) ?_ ?_
      · refine eve_sub (a := .list ((txL k e).map V.str)) (i := .int (formOf forms k)) ?_ ?_ ?_
        · repeat' (first | walk_at "eo" | refine eve_call ?_ (Callee.type _) ?_ (call_str_i hlog rfl))
        · walk_at "e"
        · exact sub_list (by omega) (ixV_map V.str (txL k e) _ (formOf forms k) hf0 hf1) rfl
      refine ⟨by simp; exact le1 (c2 _ _) (.a (.v 1) (.a (.v 0) (.n 1))) (.n 4) (.v 1) (.n 16777216) hd, ?_⟩
      refine exs_nil ?_
      refine ⟨_, Sub.refl _, es, k + 1, tl ++ [(fnL k e).getD (formOf forms k).toNat ("", 0, "")], dl ++ [(txL k e).getD (formOf forms k).toNat ""], rfl, sub_cons (by rfl) (sub_cons ?_ (sub_cons ?_ sub_nil)), by exact le1 (c2 _ _) (.a (.v 0) (.a (.v 1) (.n 1))) (.n 4) (.a (.a (.v 0) (.n 1)) (.v 1)) (.n 4) hk, by simp; exact le1 (c2 _ _) (.a (.v 0) (.a (.v 1) (.n 1))) (.n 4) (.a (.a (.v 0) (.n 1)) (.v 1)) (.n 4) ht, by simp; exact le1 (c2 _ _) (.a (.v 0) (.a (.v 1) (.n 1))) (.n 4) (.a (.a (.v 0) (.n 1)) (.v 1)) (.n 4) hd, fun n hq => hn n (.tail _ hq), by simpa [toldS, dueS] using h⟩
      · rw [List.map_append]; rfl
      · rw [List.map_append]; rfl
  · clear h hl hn
    rintro σ ⟨es, k, tl, dl, hi, hs, hk, ht, hd, hn, h⟩
    cases es with
    | cons p ps => cases hi
    | nil =>
      refine seq_weak hs ?_
      refine exs_freeze (x := "told") (by rfl) ?_
      refine exs_freeze (x := "due") (by rfl) ?_
      repeat (walk_at "mine")
      refine ⟨by simp; exact le0 (c1 0) (.n 2) (.n 16777216), ?_⟩
      have h : K (.tup [.list (tl.map fnV), .list (dl.map V.str)]) := by simpa [toldS, dueS] using h
      exact h
end
end

section
section
variable {g : Gd} {d : Nat} {K : V → Prop}
theorem exs_weakS {env : Env} {σ σ' : Sg} {ss} {K : Fl → Sg → Prop} (hs : Sub σ' σ) (h : Exs g d env σ' ss K) : Exs g d env σ ss K := exs_weak h hs
theorem hideP_len : ∀ q ∈ hideP, q.1.length ≤ 10 ∧ q.2.length ≤ 10 := by decide
inductive HidI (K : V → Prop) (number : Int) (items : List V) (σ : Sg) : Prop
  | mk (r : List Str) (k : Nat) (tl : List Str) : items = enS k r → Sub [("number", .val (.int number)), ("fields", .own (tl.map V.str))] σ → k + r.length ≤ 100 → tl.length + r.length ≤ 100 → (∀ n ∈ r, n.length ≤ 80) → K (.list ((tl ++ hideS number k r).map V.str)) → HidI K number items σ
theorem hide_ok {rows : List Str} {number : Int} (lb : Lb g) (hl : rows.length ≤ 100) (hn : ∀ n ∈ rows, n.length ≤ 80) (h : K (.list ((hideS number 0 rows).map V.str))) : CallOk g (d + 1) (.ref 141) [.list (rows.map .str), .int number] K := by
  have hszl : sizeLine = 2 ^ 24 := rfl
  refine lb.hide.call rfl fun L nm qn doc pm cd => ?_
  refine exs_cons ?_
  refine ex_assignN ?_ (by rfl) (by rfl)
  refine evn_list ?_
  refine evs_nil ⟨by decide, ?_⟩
  refine exs_cons ?_
  refine ex_for ?_
  refine it_call ?_
  walk_at "mine"
  refine ⟨_, rfl, Callee.type _, ?_⟩
  repeat (walk_at "mine")
  refine call_enum ?_
  rw [enumV_str]
  refine loop_inv (HidI K number) ?_ ?_ _ _ ⟨rows, 0, [], rfl, sub_cons (by rfl) (sub_cons (by rfl) sub_nil), by simpa using hl, by simpa using hl, hn, h⟩
  · clear h hl hn
    rintro v r σ ⟨es, k, tl, hi, hs, hk, ht, hn, h⟩
    cases es with
    | nil => cases hi
    | cons e es =>
      simp only [enS, List.cons.injEq] at hi
      obtain ⟨rfl, rfl⟩ := hi
      simp only [List.length_cons] at hk ht
      have hne := hn e (by simp)
      have hf0 : 0 ≤ (number + k) % 9 := Int.emod_nonneg _ (by decide)
      have hf1 : (number + k) % 9 < 9 := Int.emod_lt_of_pos _ (by decide)
      refine as_tup (xs := ["k", "row"]) ?_ (by rfl) (by rfl) rfl
      refine (exs_weakS (sub_push (sub_push hs)) : Exs _ _ _ _ _ _ → Exs _ _ _ _ _ _) ?_
      refine exs_cons ?_
      refine ex_unpack ?_
      refine ev_sub ?_
      repeat (first | walk_at "mine" | refine ⟨(by simp; (first | exact le0 (c1 0) (.n 2) (.n 16777216) | exact le0 (c1 0) (.n 9) (.n 16777216))), ?_⟩)
      refine sub_list (v := pairV (hideP.getD ((number + k) % 9).toNat ("", ""))) (by lia) (ixV_map pairV hideP _ ((number + k) % 9) hf0 hf1) ?_
      generalize hq : hideP.getD ((number + k) % 9).toNat ("", "") = q
      have hq1 : q.1.length ≤ 10 ∧ q.2.length ≤ 10 := by
        rw [← hq, List.getD_eq_getElem?_getD]
        have hlt : ((number + k) % 9).toNat < hideP.length := by show _ < 9; lia
        rw [List.getElem?_eq_getElem hlt]
        exact hideP_len _ (List.getElem_mem hlt)
      refine as_tup (xs := ["piece", "end"]) ?_ (by rfl) (by rfl) rfl
      refine exs_cons ?_
      repeat (walk_at "mine")
      refine ex_append (by rfl) ?_
      have hc1 := cutS_len e none (some ((number / 9 + k) % 9))
      have hc2 := cutS_len e (some ((number / 9 + k) % 9)) none
      have hq2 := hq1.2
      have hq1 := hq1.1
      repeat (first | walk_at "str" | refine ⟨_, rfl, ?_⟩ | refine sl_str (by exact le1 (c1 _) (.v 0) (.n 80) (.v 0) (.n 16777216) hne) ?_)
      refine ⟨by simp; exact le1 (c2 _ _) (.a (.v 1) (.a (.v 0) (.n 1))) (.n 100) (.v 1) (.n 16777216) ht, ?_⟩
      refine exs_nil ?_
      refine ⟨_, Sub.refl _, es, k + 1, tl ++ [hide1 number k e], rfl, sub_cons (by rfl) (sub_cons ?_ sub_nil), by exact le1 (c2 _ _) (.a (.v 0) (.a (.v 1) (.n 1))) (.n 100) (.a (.a (.v 0) (.n 1)) (.v 1)) (.n 100) hk, by simp; exact le1 (c2 _ _) (.a (.v 0) (.a (.v 1) (.n 1))) (.n 100) (.a (.a (.v 0) (.n 1)) (.v 1)) (.n 100) ht, fun n hq => hn n (.tail _ hq), by simpa [hideS] using h⟩
      rw [List.map_append]
      unfold hide1
      simp only [hq]; rfl
  · clear h hl hn
    rintro σ ⟨es, k, tl, hi, hs, hk, ht, hn, h⟩
    cases es with
    | cons p ps => cases hi
    | nil =>
      refine seq_weak hs ?_
      refine exs_freeze (x := "fields") (by rfl) ?_
      repeat (walk_at "mine")
      have h : K (.list (tl.map V.str)) := by simpa [hideS] using h
      exact h
end
end

section
noncomputable def stmM (j : Nat) : Stmt := (bodyS (stm 9)).getD j (.Pass ⟨0, 0, 0, 0⟩)
/-- the class of the text -/
structure TcK (g : Gd) (K : Frag) : Prop where
  inn : K.In g.hB
  mk' : makesIn K 73 = true
  ini : W.findIn K (.ref 73) "__init__" = some (some (.ref 63))
  inif : typeIn K (.ref 63) = some (.type "function")
  cmp : W.findIn K (.ref 73) "compare" = some (some (.ref 70))
  cmpf : typeIn K (.ref 70) = some (.type "function")
  ga : W.findIn K (.ref 73) "__getattribute__" = some (some (.builtin "object.__getattribute__"))
  gt : W.findIn K (.ref 73) "__getattr__" = some none
  sa : W.findIn K (.ref 73) "__setattr__" = some (some (.builtin "object.__setattr__"))
  po : plainOver K 73 = true
  tk : takerIn K 73 "comp_select_list" = some none
  hd : hasDictIn K 73 = true
  csl : W.findIn K (.ref 73) "comp_select_list" = some none
structure Lc (g : Gd) : Prop where
  k : ∃ K, TcK g K
  ini : ∃ nm qn doc pm cd, FnAt g 63 (fnD (stmM 0) nm qn doc pm cd) (bodyS (stmM 0)) ["self", "comp_select_list"]
  cmp : ∃ nm qn doc pm cd, FnAt g 70 (fnD (stmM 1) nm qn doc pm cd) (bodyS (stmM 1)) ["self", "left", "right"]

section
variable {g : Gd} {d : Nat} {env : Env} {σ : Sg} {K : V → Prop}

theorem inst_at {Φ : FM} {s : Shared} {v : V} {x : Value} (i : Inv g Φ s) (r : Real g Φ (.inst 73 v) x) : ∃ a dx sl hsh t y n, x = .ref a ∧ InstAt s.heap a (insO 73 dx sl) 73 (some (dictOf [⟨hsh, .str "comp_select_list" t, y⟩] n)) ∧ Real g Φ v y ∧ s.heap.get? dx = some (dictOf [⟨hsh, .str "comp_select_list" t, y⟩] n) := by
  cases r with
  | inst h1 h2 e r =>
    subst e
    exact ⟨_, _, _, _, _, _, _, rfl, ⟨i.held _ _ h1, rfl, rfl, i.held _ _ h2⟩, r, i.held _ _ h2⟩
theorem real_handed {Φ : FM} {v : V} {y : Value} (r : Real g Φ v y) (h : noGlob v = true) : handedIn y = true := by
  cases r <;> first | rfl | cases h

/-- the one field of such an object -/
theorem ev_attr {o pos v} (lc : Lc g) (h : Ev g d env σ o fun u => u = .inst 73 v ∧ K v) (hg : noGlob v = true)
    (he : eval (.Attribute o ("comp_select_list" : Str) pos) env = (do
      let x ← eval o env
      standAt pos.atName
      let r ← holding [x] (getAttr x ("comp_select_list" : Str) true)
      letTemporaryGo o x r
      pure r) := by with_unfolding_all rfl) : Ev g d env σ (.Attribute o ("comp_select_list" : Str) pos) K := fun A Φ s a R => by
  obtain ⟨Kf, k⟩ := lc.k
  refine Attribute_any_ (wpAny_mono (h A Φ s a R) (fun x s₁ ⟨Φ₁, u, e₁, r₁, hu, k₁⟩ => ?_) fun _ _ f => f) he
  subst hu
  have i := (R.ext e₁).toInv
  obtain ⟨a, dx, sl, hsh, t, y, n, rfl, I, ry, _⟩ := inst_at i r₁
  refine get_value (k.inn.keeps i.base) I k.ga (v := y) ?_ (real_handed ry hg) ?_
  · exact findObj_own k.hd k.csl rfl rfl
  · exact ⟨Φ₁, v, Tr.ext e₁ (.tok i _), ry, k₁⟩
theorem meth_cmp {v : V} (lc : Lc g) : Meth g d "compare" (.inst 73 v) (.ref 70) := by
  obtain ⟨Kf, k⟩ := lc.k
  obtain ⟨nm, qn, doc, pm, cd, fa⟩ := lc.cmp
  refine ⟨fa.callee, fun A Φ s x pl ok i r => ?_⟩
  obtain ⟨a, dx, sl, hsh, t, y, n, rfl, I, ry, hdx⟩ := inst_at i r
  have X := k.inn.keeps i.base
  unfold getMethod
  refine wpAny_bind (wpAny_bind (I.type.here ((looks_findIn X k.ga).here ?_)))
  dsimp only
  rw [if_neg (by decide +kernel)]
  refine wpAny_bind (wpAny_bind (I.type.here ((looks_findIn X k.gt).here ?_)))
  rw [if_neg (by simp)]
  refine wpAny_bind (wpAny_bind (I.type.here ((looks_findIn X k.cmp).here ?_)))
  refine wpAny_bind ((looks_typeIn X k.cmpf).here ?_)
  rw [if_neg (by decide)]
  refine wpAny_bind (wpAny_loadPart I.at_ ?_)
  refine wpAny_bind (show wpAny _ _ (nsGet dx ("compare" : Str)) _ _ _ from ?_)
  unfold nsGet
  refine wpAny_bind (wpAny_loadPart hdx ?_)
  rw [nsLook_of (r := none) rfl]
  refine wpAny_pure ?_
  simp only [Option.isSome_none, Bool.false_eq_true, if_false]
  exact wpAny_bind (wpAny_rule (wpAny_pure ⟨rfl, .refl i.held⟩))
end
end

section
open W in
section
variable {g : Gd} {d : Nat} {env : Env} {σ : Sg} {K : V → Prop}

theorem call_tc {v : V} (lc : Lc g) (h : K (.inst 73 v)) : CallOk g (d + 3) (.ref 73) [v] K := fun A Φ s xs ok i r => by
  obtain ⟨Kf, k⟩ := lc.k
  obtain ⟨nm, qn, doc, pm, cd, fa⟩ := lc.ini
  cases r with | cons r1 r =>
  cases r
  rename_i y
  refine wpAny_call ?_
  have X := k.inn.keeps i.base
  obtain ⟨hh, gs, dr, t, os⟩ := s
  refine make_core (makes_of X k.mk') (looks_findIn X k.ini) (fun self => bind_fn X self k.inif) (.inl rfl) ?_
  obtain ⟨o, ho, hd⟩ := fa.obj
  have keep : ∀ b o, hh.get? b = some o → ((hh.push emptyDict).push (instObj 73 hh.objs.size)).get? b = some o := fun b o e => Heap.get?_push_of_some _ (Heap.get?_push_of_some _ e)
  have kb : ∀ b o, g.hB.get? b = some o → ((hh.push emptyDict).push (instObj 73 hh.objs.size)).get? b = some o := fun b o e => keep b o (i.base b o e)
  refine codeAny_call_cells (binds := (["self", "comp_select_list"] : List Str).zip [.ref (hh.objs.size + 1), y]) ?_ (kb _ _ ho) hd (g.nolimit.keeps kb) (fa.code.keeps kb) fa.body (fa.bind [.ref (hh.objs.size + 1), y] rfl) fa.clo
    (fun x hx => fa.pars _ x.1 (List.of_mem_zip hx).1) (fun s₁ x => ?_) fa.plain.1 fa.plain.2.1 fa.plain.2.2
  · have h1 := ok.2.1
    have hw : (Code.builtin "type.__call__" { pos := [Value.ref 73, y] }).weight = 1 := by rfl
    show A.depth + _ < 1000
    rw [hw]; exact le1 (c2 _ _) (.a (.v 0) (.a (.v 1) (.n 3))) (.n 990) (.a (.a (.v 0) (.n 1)) (.n 1)) (.n 1000) h1
  obtain ⟨h₁, tk, rfl⟩ := x.toInCall.same
  have hsz : ((hh.push emptyDict).push (instObj 73 hh.objs.size)).objs.size = hh.objs.size + 2 := by rw [Heap.size_push, Heap.size_push]
  have ns := x.toInCall.ns
  have kp := x.toInCall.keep
  have okE : EnvOk (callEnvC (fnD (stmM 0) nm qn doc pm cd) ((hh.push emptyDict).push (instObj 73 hh.objs.size)).objs.size 63) := ⟨fa.plain.2.2, fa.gl, fa.bi⟩
  have gx : h₁.get? (hh.objs.size + 1) = some (instObj 73 hh.objs.size) := kp _ _ (by show ((hh.push emptyDict).push (instObj 73 hh.objs.size)).get? _ = _; heap_get)
  have gd : h₁.get? hh.objs.size = some emptyDict := kp _ _ (by show ((hh.push emptyDict).push (instObj 73 hh.objs.size)).get? _ = _; heap_get)
  refine wpAny_execs_cons (plainObj_wpAny_Assign_Attribute ?_ (by rfl))
  refine Holds.load (h := h₁) okE (x := "comp_select_list") (val := y) (.inl ⟨rfl, _, ns, rfl⟩) ?_ (by decide) (by decide)
  refine Holds.load (h := h₁) okE (x := "self") (val := .ref (hh.objs.size + 1)) (.inl ⟨rfl, _, ns, rfl⟩) ?_ (by decide) (by decide)
  have F0 : Fr hh ((hh.push emptyDict).push (instObj 73 hh.objs.size)).objs.size h₁ _ := ⟨ns, fun b o e => kp _ _ (keep b o e), by rw [hsz]; exact le0 (c1 _) (.v 0) (.a (.v 0) (.n 2))⟩
  have n0 : ∀ a, hh.objs.size ≤ a → hh.get? a = none := fun a ha => above_none ha
  refine set_dict (C := 73) (dx := hh.objs.size) (ox := instObj 73 hh.objs.size) (es := []) (n := 0) F0 X (news := [(hh.objs.size + 1, instObj 73 hh.objs.size), (hh.objs.size, dictOf [] 0)]) ?_ ⟨gx, rfl, rfl, gd⟩ rfl k.sa k.po k.tk k.hd rfl rfl (.tail ?_ (.head ?_)) (by show 1 ≤ 1000; exact le0 (c1 0) (.n 1) (.n 1000)) fun h' F' N' => ?_
  · intro p hp
    simp only [List.mem_cons, List.not_mem_nil, or_false] at hp
    rcases hp with rfl | rfl
    · exact ⟨gx, by rw [hsz]; show @Ne Nat _ _; lia, n0 _ (by lia)⟩
    · exact ⟨gd, by rw [hsz]; show @Ne Nat _ _; lia, n0 _ (by lia)⟩
  · show @Ne Nat _ _; lia
  · exact fun _ h => (nomatch h)
  refine wpAny_execs_nil ⟨rfl, ?_⟩
  have fx : Φ (hh.objs.size + 1) = none := i.none (n0 _ (by exact le0 (c1 _) (.v 0) (.a (.v 0) (.n 1))))
  have fd : Φ hh.objs.size = none := i.none (n0 _ (by exact le0 (c1 _) (.v 0) (.v 0)))
  have N1 := N' _ (.head _)
  have N2 := N' _ (.tail _ (.head _))
  obtain ⟨sl, kx⟩ : ∃ sl, h'.get? (hh.objs.size + 1) = some (insO 73 hh.objs.size sl) := ⟨_, N1.1⟩
  obtain ⟨hsh, t2, kd⟩ : ∃ hsh t2, h'.get? hh.objs.size = some (dictOf [⟨hsh, .str "comp_select_list" t2, y⟩] 1) := ⟨_, _, N2.1⟩
  have le : FLe Φ ((Φ.put (hh.objs.size + 1) (insO 73 hh.objs.size sl)).put hh.objs.size (dictOf [⟨hsh, .str "comp_select_list" t2, y⟩] 1)) := fun a o e => by
    have := FM.put_le (o := insO 73 hh.objs.size sl) fx a o e
    exact FM.put_le (Φ := Φ.put (hh.objs.size + 1) (insO 73 hh.objs.size sl)) (by unfold FM.put; rw [if_neg (by show ¬ @Eq Nat _ _; exact fun hh => no10 (le1 (c1 _) (.a (.v 0) (.n 1)) (.v 0) (.n 1) (.n 0) (Nat.le_of_eq hh.symm)))]; exact fd) a o this
  refine ⟨_, .inst 73 v, ⟨fun a o e _ => F'.keep a o e, le, (fun a o e => ?_), (fun a o e => ?_), fun _ _ _ e => e, fun e => e, rfl⟩, .inst (dx := hh.objs.size) (sl := sl) ?_ (FM.put_self ..) rfl (Real.mono le r1), h⟩
  · rcases FM.put_cases e with ⟨rfl, _⟩ | ⟨_, e⟩
    · exact .inr (.inl (n0 _ (by exact le0 (c1 _) (.v 0) (.v 0))))
    · rcases FM.put_cases e with ⟨rfl, _⟩ | ⟨_, e⟩
      · exact .inr (.inl (n0 _ (by exact le0 (c1 _) (.v 0) (.a (.v 0) (.n 1)))))
      · exact .inl e
  · rcases FM.put_cases e with ⟨rfl, rfl⟩ | ⟨_, e⟩
    · exact kd
    · rcases FM.put_cases e with ⟨rfl, rfl⟩ | ⟨_, e⟩
      · exact kx
      · exact F'.keep a o (i.held a o e)
  · unfold FM.put
    rw [if_neg (by show ¬ @Eq Nat _ _; exact fun hh => no10 (le1 (c1 _) (.a (.v 0) (.n 1)) (.v 0) (.n 1) (.n 0) (Nat.le_of_eq hh))), if_pos rfl]
end
end

section
noncomputable def selV (p : Int × Int) : V := .tup [.int p.1, .int p.2]
noncomputable def tupV (l : List Int) : V := .tup (l.map V.int)
noncomputable def cmpGo : List (Int × Int) → List Int → List Int → Int
  | [], _, _ => 0
  | p :: r, x, y => if x.getD p.1.toNat 0 < y.getD p.1.toNat 0 then -p.2 else if x.getD p.1.toNat 0 > y.getD p.1.toNat 0 then p.2 else cmpGo r x y

section
variable {g : Gd} {d : Nat} {K : V → Prop}

theorem keeper_cls (lc : Lc g) {A : Around} {E : Value → Shared → Prop} {s : Shared} {Q : Keeper → Shared → Prop} (i : ∀ a o, g.hB.get? a = some o → s.heap.get? a = some o) (h : Q .machine s) : wpAny (model g.prog g.w) A (keeperOf (.ref 73)) Q E s := by
  obtain ⟨Kf, k⟩ := lc.k
  obtain ⟨⟨oc, od, cd, sl, hC, e1, e2, e4⟩, made, base, self, top, call, typ⟩ := makes_of (M := model g.prog g.w) (k.inn.keeps i) k.mk'
  unfold keeperOf
  refine wpAny_bind (wpAny_load hC ?_)
  dsimp only
  refine wpAny_bind (call.here ?_)
  rw [if_pos (by rfl)]
  exact wpAny_pure h
theorem callWith_cls (lc : Lc g) {A : Around} {Φ : FM} {s : Shared} {env : Env} {σ : Sg} {pos : Pos} {first : List Value} {es : List Expr} {Q : Value → Shared → Prop} (hp : plainArgs es = true) {K : List V → Prop} (hd : AOk d A) (R : Rd g env σ Φ s)
    (h : Evs g d env σ es K) (hQ : ∀ Φ₁ s₁ vs xs, Ext Φ s Φ₁ s₁ → Reals g Φ₁ vs xs → K vs → wpAny (model g.prog g.w) A (call (.ref 73) (first ++ xs)) Q bot s₁) :
    wpAny (model g.prog g.w) A (callWith pos (.ref 73) first (backTo pos (starEach es env)) []) Q bot s := by
  unfold callWith
  refine wpAny_bind (wpAny_holding (wpAny_mono (evalArgs_pl (Q := fun a s₁ => (∀ b o, g.hB.get? b = some o → s₁.heap.get? b = some o) ∧ wpAny (model g.prog g.w) A (call (.ref 73) (first ++ a.pos) a.kw) Q bot s₁) hp
    (wpAny_mono (h A Φ s pos hd R) (fun xs s₁ ⟨Φ₁, vs, e, r, k⟩ => ⟨(R.ext e).toInv.base, hQ Φ₁ s₁ vs xs e r k⟩) fun _ _ f => f)) (fun a s₁ h₁ => wpAny_bind (wpAny_standAt ?_)) fun _ _ x => x))
  simp only [plain_any hp, List.any_nil, Bool.or_false]
  refine wpAny_bind (keeper_cls lc h₁.1 ?_)
  exact wpAny_bind (wpAny_mono h₁.2 (fun r s₂ hr => wpAny_bind (wpAny_holding (wpAny_point (wpAny_pure hr)))) fun _ _ x => x)
theorem ev_call_cls (lc : Lc g) {env : Env} {σ : Sg} {fn es pos} (h : Ev g d env σ fn fun fv => fv = .glob (.ref 73) ∧ Evs g d env σ es fun vs => CallOk g d (.ref 73) vs K) (hp : plainArgs es = true := by rfl)
    (he : eval (.Call fn es [] pos) env = (do callWith pos (← eval fn env) [] (backTo pos (starEach es env)) (backToKw pos (keywordEach [] env))) := by rfl) : Ev g d env σ (.Call fn es [] pos) K := fun A Φ s a R => by
  unfold Wp
  rw [he]
  refine wpAny_bind (wpAny_mono (h A Φ s a R) (fun x s₁ ⟨Φ₁, v, e₁, r₁, hv, k₁⟩ => ?_) fun _ _ f => f)
  subst hv
  refine r₁.onG ?_
  refine callWith_cls lc (first := []) hp a (R.ext e₁) k₁ fun Φ₂ s₂ vs xs e₂ r₂ k₂ => ?_
  exact (k₂ A Φ₂ s₂ xs a ((R.ext e₁).ext e₂).toInv r₂).after (Tr.ext e₁ e₂)

inductive CmpI (K : V → Prop) (x y : List Int) (items : List V) (σ : Sg) : Prop
  | mk (r : List (Int × Int)) : items = r.map selV → Sub [("left", .val (tupV x)), ("right", .val (tupV y))] σ → (∀ p ∈ r, 0 ≤ p.1 ∧ p.1 < 3) → K (.int (cmpGo r x y)) → CmpI K x y items σ
theorem cmp_ok {sel : List (Int × Int)} {x y : List Int} (lc : Lc g) (hx : x.length = 3) (hy : y.length = 3) (hs : ∀ p ∈ sel, 0 ≤ p.1 ∧ p.1 < 3) (h : K (.int (cmpGo sel x y))) :
    CallOk g (d + 1) (.ref 70) [.inst 73 (.list (sel.map selV)), tupV x, tupV y] K := by
  obtain ⟨nm, qn, doc, pm, cd, fa⟩ := lc.cmp
  refine call_fn fa rfl fun L => ?_
  refine exs_cons ?_
  refine ex_for ?_
  refine it_of ?_
  refine ev_attr (v := .list (sel.map selV)) lc ?_ rfl
  refine ev_var (by rfl) ⟨rfl, ?_⟩
  refine itv_list ?_
  refine loop_inv (CmpI K x y) ?_ ?_ _ _ ⟨sel, rfl, sub_cons (by rfl) (sub_cons (by rfl) sub_nil), hs, h⟩
  · clear h hs
    rintro v r σ ⟨es, hi, hs', hr, h⟩
    cases es with
    | nil => cases hi
    | cons e es =>
      simp only [List.map_cons, List.cons.injEq] at hi
      obtain ⟨rfl, rfl⟩ := hi
      have hr1 := hr e (by simp)
      refine as_tup (xs := ["index", "direction"]) ?_ (by rfl) (by rfl) rfl
      refine (exs_weakS (sub_push (sub_push hs')) : Exs _ _ _ _ _ _ → Exs _ _ _ _ _ _) ?_
      refine exs_cons ?_
      iterate 4 walk_at "mine"
      refine sub_tup (v := .int (x.getD e.1.toNat 0)) (by lia) (ixV_map V.int x 0 e.1 hr1.1 (by lia)) ?_
      refine exs_cons ?_
      iterate 4 walk_at "mine"
      refine sub_tup (v := .int (y.getD e.1.toNat 0)) (by omega) (ixV_map V.int y 0 e.1 hr1.1 (by lia)) ?_
      refine exs_cons ?_
      refine ex_if ?_
      repeat (walk_at "mine")
      refine ⟨fun hc => ?_, fun hc => ?_⟩
      · repeat (walk_at "mine")
        unfold cmpGo at h
        rw [if_pos (by simpa using hc)] at h
        exact h
      refine exs_nil ?_
      refine exs_cons ?_
      refine ex_if ?_
      repeat (walk_at "mine")
      refine ⟨fun hc2 => ?_, fun hc2 => ?_⟩
      · repeat (walk_at "mine")
        unfold cmpGo at h
        rw [if_neg (by simpa using hc), if_pos (by simpa using hc2)] at h
        exact h
      unfold cmpGo at h
      rw [if_neg (by simpa using hc), if_neg (by simpa using hc2)] at h
      repeat (walk_at "mine")
      exact ⟨_, Sub.refl _, es, rfl, sub_cons (by rfl) (sub_cons (by rfl) sub_nil), fun p hp => hr p (.tail _ hp), h⟩
  · rintro σ ⟨es, hi, hs', hr, h⟩
    cases es with
    | cons p ps => cases hi
    | nil =>
      refine seq_weak hs' ?_
      repeat (walk_at "mine")
      exact h
end
end

section
theorem mulok_1 {x : Str} {n : Int} (hx : x.length = 1) (hn : n ≤ 1000) (h0 : 0 ≤ n) : MulOk x n := by
  refine ⟨?_, fun h1 _ => ?_, fun h1 _ => ?_⟩
  · simp; lia
  · rw [hx]
    have : (1 : Int) ≤ (2 ^ 63 - 1) / n := (Int.le_ediv_iff_mul_le (by omega)).mpr (by lia)
    lia
  · rw [hx, Nat.one_mul]
    have hszl : sizeLine = 2 ^ 24 := rfl
    unfold tooLong
    simp; lia
theorem cutL_map {α β : Type} (f : α → β) (l : List α) (lo hi : Option Int) : cutL (l.map f) lo hi = (cutL l lo hi).map f := by
  unfold cutL
  rw [List.length_map, ← List.map_drop, ← List.map_take]
theorem ln_m1 : (Str.ofString "(").length = 1 := rfl


noncomputable def oS : Option Str → V
  | none => .none
  | some s => .str s
noncomputable def lstOfCmp (sel : List (Int × Int)) (x y : List Int) : Bool := (([Str.ofString (toString (cmpGo sel x y)), Str.ofString (toString (cmpGo sel y x))] : List Str) != (["-1", "1"] : List Str))
noncomputable def untilOf (coming : List Int) (done one : Int) : Int := if ((coming.idxOf one : Nat) : Int) + 1 > done then ((coming.idxOf one : Nat) : Int) + 1 else done
noncomputable def insOf (coming ins : List Int) (done u one : Int) : List Int := (ins ++ cutL coming (some done) (some u)).filter fun k => k != one
noncomputable def deedsGo (coming : List Int) (bad : Int → Int → Bool) : List Int → Str → List Int → Int → Option Str
  | [], dd, _, _ => some dd
  | one :: r, dd, ins, done =>
    let u := untilOf coming done one
    let ins' := insOf coming ins done u one
    if (ins'.filter (bad one)) != [] then none else deedsGo coming bad r (dd ++ Txt.mul "(" (u - done) ++ ")") ins' u
noncomputable def badOf (sel : List (Int × Int)) (keys : List (List Int)) (a b : Int) : Bool := lstOfCmp sel (keys.getD a.toNat []) (keys.getD b.toNat [])
noncomputable def deedsS (sel : List (Int × Int)) (keys : List (List Int)) (coming wanted : List Int) : Option Str := deedsGo coming (badOf sel keys) wanted "" [] 0

theorem log2_small {n : Nat} (h : n ≤ 1) : n.log2 < 1920 := by
  rcases n with _ | _ | n
  · decide
  · decide
  · exact no10 (le1 (c1 _) (.a (.a (.v 0) (.n 1)) (.n 1)) (.n 1) (.n 1) (.n 0) h)
theorem cmpGo_small {sel : List (Int × Int)} (hs : ∀ p ∈ sel, p.2.natAbs ≤ 1) (x y : List Int) : (cmpGo sel x y).natAbs ≤ 1 := by
  induction sel with
  | nil => show (0 : Int).natAbs ≤ 1; decide
  | cons p r ih =>
    have h1 := hs p (by simp)
    unfold cmpGo
    split
    · omega
    · split
      · omega
      · exact ih fun q hq => hs q (.tail _ hq)

section
variable {g : Gd} {d : Nat} {K : V → Prop}

inductive DeeI (K : V → Prop) (sel : List (Int × Int)) (keys : List (List Int)) (coming : List Int) (items : List V) (σ : Sg) : Prop
  | mk (r : List Int) (dd : Str) (ins : List Int) (dn : Int) (n : Nat) : items = r.map V.int → Sub [("coming", .val (.list (coming.map .int))), ("keys", .val (.list (keys.map tupV))), ("order", .val (.inst 73 (.list (sel.map selV)))), ("deeds", .val (.str dd)), ("inside", .val (.list (ins.map .int))), ("done", .val (.int dn))] σ → n + r.length ≤ 100 → (dd.length : Int) ≤ dn + n → 0 ≤ dn → dn ≤ coming.length → ins.length ≤ 100 * n → (∀ x ∈ ins, x ∈ coming) → (∀ x ∈ r, x ∈ coming) → K (oS (deedsGo coming (badOf sel keys) r dd ins dn)) → DeeI K sel keys coming items σ
theorem deeds_ok {sel : List (Int × Int)} {keys : List (List Int)} {coming wanted : List Int} (lb : Lb g) (lc : Lc g) (hs : ∀ p ∈ sel, 0 ≤ p.1 ∧ p.1 < 3) (hs2 : ∀ p ∈ sel, p.2.natAbs ≤ 1) (hk : ∀ x ∈ keys, x.length = 3)
    (hkl : keys.length ≤ 100) (hcl : coming.length ≤ 100) (hwl : wanted.length ≤ 100) (hc : ∀ x ∈ coming, 0 ≤ x ∧ x < keys.length) (hw : ∀ x ∈ wanted, x ∈ coming) (h : K (oS (deedsS sel keys coming wanted))) :
    CallOk g (d + 3) (.ref 127) [.list (coming.map .int), .list (wanted.map .int), .list (keys.map tupV), .inst 73 (.list (sel.map selV))] K := by
  have hszl : sizeLine = 2 ^ 24 := rfl
  refine lb.deeds.call rfl fun L nm qn doc pm cd => ?_
  refine exs_cons ?_
  refine ex_tup_new_swapped (xs := ["deeds", "inside", "done"]) ?_ (by rfl) (by decide) (by rfl) (by rfl)
  refine evns_cons (evn_val ?_)
  walk_at "mine"
  refine evns_cons (evn_val ?_)
  repeat (walk_at "mine")
  refine ⟨by decide, ?_⟩
  refine evns_cons (evn_val ?_)
  walk_at "mine"
  refine evns_nil ⟨rfl, ?_⟩
  refine exs_cons ?_
  refine ex_for ?_
  refine it_of ?_
  walk_at "mine"
  refine itv_list ?_
  unfold deedsS at h
  refine loop_inv (DeeI K sel keys coming) ?_ ?_ _ _ ⟨wanted, "", [], 0, 0, rfl, ?_, by exact le1 (c1 _) (.v 0) (.n 100) (.a (.n 0) (.v 0)) (.n 100) hwl, by decide, by decide, by lia, by decide, (fun _ h => nomatch h), hw, h⟩
  · clear h hw
    rintro v r σ ⟨es, dd, ins, dn, n, hi, hs', hn, hdl, h0, h1, hil, hin, hw, h⟩
    cases es with
    | nil => cases hi
    | cons one es =>
      simp only [List.map_cons, List.cons.injEq] at hi
      obtain ⟨rfl, rfl⟩ := hi
      simp only [List.length_cons] at hn
      have hone := hw one (by simp)
      have hidx : coming.idxOf one < coming.length := List.idxOf_lt_length_of_mem hone
      refine as_name ?_ (by rfl)
      refine (exs_weakS (sub_push hs') : Exs _ _ _ _ _ _ → Exs _ _ _ _ _ _) ?_
      have hu1 : dn ≤ untilOf coming dn one := by unfold untilOf; split <;> lia
      have hu2 : untilOf coming dn one ≤ coming.length := by unfold untilOf; split <;> omega
      refine exs_cons ?_
      iterate 2 walk_at "mine"
      walk_at "mine"
      refine ⟨_, rfl, Callee.builtin _, ?_⟩
      iterate 4 walk_at "mine"
      iterate 2 walk_at "mine"
      refine ⟨_, meth_list F.slot_list_index F.type_list_index, ?_⟩
      iterate 3 walk_at "mine"
      refine call_index hone (by exact le1 (c1 _) (.v 0) (.n 100) (.v 0) (.n 16777216) hcl) ?_
      iterate 3 walk_at "mine"
      refine call_max_2 ?_
      show seqK _ _ _ _ _ _ ((_, Slot.val (V.int (untilOf coming dn one))) :: _)
      unfold deedsGo at h
      revert h
      generalize hu : untilOf coming dn one = u at hu1 hu2
      intro h
      have hml : ((Txt.mul "(" (u - dn)).length : Int) = 1 * (if u - dn < 0 then 0 else u - dn) := len_mul_k1 rfl
      rw [if_neg (by lia), Int.one_mul] at hml
      refine exs_cons ?_
      repeat (first | walk_at "str" | refine bin_mul_s (mulok_1 rfl (by lia) (by lia)) ?_)
      refine ex_assign_comp (cl := ?_) ?_ (by rfl) (by rfl) ?_ ?_ ?_ ?_ ?_ (by rfl)
      rotate_left
      · exact ⟨rfl, .inl rfl, .inl rfl, trivial⟩
      · show (["one"] : List Str).Nodup
        decide
      · decide
      · rfl
      · decide
      refine it_of ?_
      repeat (walk_at "mine")
      refine ⟨dn, rfl, ?_⟩
      repeat (walk_at "mine")
      refine ⟨u, rfl, ?_⟩
      walk_at "mine"
      refine sl_list (by simp; exact le1 (c1 _) (.v 0) (.n 100) (.v 0) (.n 16777216) hcl) ?_
      rw [cutL_map]
      have hcut := cutL_length coming (some dn) (some u)
      refine bin_add_l (by simp; exact le4 (c5 _ _ _ _ _) (.v 0) (.n 100) (.v 1) (.m 100 (.v 2)) (.m 100 (.a (.v 2) (.a (.v 3) (.n 1)))) (.m 100 (.n 100)) (.v 4) (.v 0) (.a (.v 1) (.v 4)) (.n 16777216) hcl hil (Nat.mul_le_mul_left 100 hn) hcut) ?_
      rw [← List.map_append]
      refine itv_list ?_
      intro C
      refine compP_fm V.int (fun k => k != one) V.int (ins ++ cutL coming (some dn) (some u)) [] (by simp; exact le4 (c5 _ _ _ _ _) (.v 0) (.n 100) (.v 1) (.m 100 (.v 2)) (.m 100 (.a (.v 2) (.a (.v 3) (.n 1)))) (.m 100 (.n 100)) (.v 4) (.v 0) (.a (.v 1) (.v 4)) (.n 16777216) hcl hil (Nat.mul_le_mul_left 100 hn) hcut) (fun x hx => ?_) ?_
      · refine asl_name ⟨sub_bind (by rfl), ?_⟩ (by rfl)
        refine ts_cmp ?_
        repeat (walk_at "mine")
        exact ⟨fun e => ⟨e, ev_var (by rfl) rfl⟩, fun e => e⟩
      rw [List.nil_append]
      have hio : ∀ x ∈ insOf coming ins dn u one, x ∈ coming := fun x hx => by
        unfold insOf at hx
        rcases List.mem_append.mp (List.mem_filter.mp hx).1 with hx | hx
        · exact hin x hx
        · unfold cutL at hx
          exact List.mem_of_mem_drop (List.mem_of_mem_take hx)
      have hil2 : (insOf coming ins dn u one).length ≤ ins.length + 100 := by
        unfold insOf
        refine Nat.le_trans (List.length_filter_le _ _) ?_
        rw [List.length_append]; exact le2 (c3 _ _ _) (.v 0) (.n 100) (.v 1) (.v 0) (.a (.v 2) (.v 1)) (.a (.v 2) (.n 100)) hcl hcut
      refine exs_weakS (σ' := [("inside", .val (.list ((insOf coming ins dn u one).map .int))), ("deeds", .val (.str (dd ++ Txt.mul "(" (u - dn) ++ ")"))), ("until", .val (.int u)), ("one", .val (.int one)), ("coming", .val (.list (coming.map .int))), ("keys", .val (.list (keys.map tupV))), ("order", .val (.inst 73 (.list (sel.map selV))))]) (by (repeat (refine sub_cons (by rfl) ?_)); exact sub_nil) ?_
      revert h hio hil2
      simp only [hu]
      generalize insOf coming ins dn u one = ins'
      intro h hio hil2
      refine exs_cons ?_
      walk_at "mine"
      walk_at "mine"
      refine exs_cons ?_
      refine ex_if ?_
      walk_at "mine"
      refine ev_comp (cl := ?_) ?_ (by rfl) ?_ ?_ ?_ ?_ ?_
      rotate_left
      · exact ⟨rfl, .inl rfl, .inl rfl, rfl, .inl rfl, .inl rfl, rfl, .inl rfl, .inl rfl, trivial⟩
      · show (["order", "one", "keys"] : List Str).Nodup
        decide
      · decide
      · rfl
      · decide
      refine it_of ?_
      walk_at "mine"
      refine itv_list ?_
      intro C
      refine compP_fm V.int (badOf sel keys one) V.int ins' [] (by simp; exact le3 (c4 _ _ _ _) (.v 0) (.m 100 (.v 1)) (.m 100 (.a (.v 1) (.a (.v 2) (.n 1)))) (.m 100 (.n 100)) (.v 3) (.a (.v 0) (.n 100)) (.v 3) (.n 16777216) hil (Nat.mul_le_mul_left 100 hn) hil2) (fun x hx => ?_) ?_
      · refine asl_name ⟨sub_bind (by rfl), ?_⟩ (by rfl)
        have hx0 := hc x (hio x hx)
        have h10 := hc one hone
        have hka : (keys.getD one.toNat []).length = 3 := by
          rw [List.getD_eq_getElem?_getD, List.getElem?_eq_getElem (by lia)]
          exact hk _ (List.getElem_mem _)
        have hkb : (keys.getD x.toNat []).length = 3 := by
          rw [List.getD_eq_getElem?_getD, List.getElem?_eq_getElem (by lia)]
          exact hk _ (List.getElem_mem _)
        have hlog : ∀ y z, (cmpGo sel y z).natAbs.log2 < 1920 := fun y z => log2_small (cmpGo_small hs2 y z)
        have sub : ∀ (o : Int) (KK : V → Prop), 0 ≤ o ∧ o < keys.length → KK (tupV (keys.getD o.toNat [])) → ∀ sl, SubOk g (d + 2) sl (.list (keys.map tupV)) (.int o) KK := fun o KK ho hq sl => sub_list (by lia) (ixV_map tupV keys [] o ho.1 ho.2) hq
        refine ts_cmp ?_
        refine ev_list ?_
        refine evs_cons ?_
        walk_at "mine"
        walk_at "mine"
        refine ⟨_, rfl, Callee.type _, ?_⟩
        walk_at "mine"
        walk_at "mine"
        refine ev_var (v := .inst 73 (.list (sel.map selV))) (by rfl) ?_
        refine ⟨_, meth_cmp lc, ?_⟩
        walk_at "mine"
        walk_at "mine"
        refine ev_var (v := .list (keys.map tupV)) (by rfl) ?_
        refine ev_var (v := .int one) (by rfl) ?_
        refine sub _ _ h10 ?_ _
        walk_at "mine"
        walk_at "mine"
        refine ev_var (v := .list (keys.map tupV)) (by rfl) ?_
        refine ev_var (v := .int x) (by rfl) ?_
        refine sub _ _ hx0 ?_ _
        walk_at "mine"
        refine cmp_ok lc hka hkb hs ?_
        walk_at "mine"
        refine call_str_i (hlog _ _) ?_
        refine evs_cons ?_
        walk_at "mine"
        walk_at "mine"
        refine ⟨_, rfl, Callee.type _, ?_⟩
        walk_at "mine"
        walk_at "mine"
        refine ev_var (v := .inst 73 (.list (sel.map selV))) (by rfl) ?_
        refine ⟨_, meth_cmp lc, ?_⟩
        walk_at "mine"
        walk_at "mine"
        refine ev_var (v := .list (keys.map tupV)) (by rfl) ?_
        refine ev_var (v := .int x) (by rfl) ?_
        refine sub _ _ hx0 ?_ _
        walk_at "mine"
        walk_at "mine"
        refine ev_var (v := .list (keys.map tupV)) (by rfl) ?_
        refine ev_var (v := .int one) (by rfl) ?_
        refine sub _ _ h10 ?_ _
        walk_at "mine"
        refine cmp_ok lc hkb hka hs ?_
        walk_at "mine"
        refine call_str_i (hlog _ _) ?_
        walk_at "mine"
        refine ⟨by simp; exact le0 (c1 0) (.n 2) (.n 16777216), ?_⟩
        repeat (walk_at "mine")
        refine ⟨by simp; exact le0 (c1 0) (.n 2) (.n 16777216), ?_⟩
        refine cmp_ne_l (f := V.str) (l := [Str.ofString (toString (cmpGo sel (keys.getD one.toNat []) (keys.getD x.toNat []))), Str.ofString (toString (cmpGo sel (keys.getD x.toNat []) (keys.getD one.toNat [])))]) (l' := ["-1", "1"]) repStr ?_
        refine true_b ?_
        exact ⟨fun e => ⟨e, ev_var (by rfl) rfl⟩, fun e => e⟩
      repeat (walk_at "mine")
      refine ⟨by decide, ?_⟩
      refine cmp_ne_l (f := V.int) (l' := []) repInt ?_
      refine true_b ?_
      refine ⟨fun hb => ?_, fun hb => ?_⟩
      · rw [if_pos hb] at h
        repeat (walk_at "mine")
        exact h
      · rw [if_neg (by rw [hb]; exact Bool.false_ne_true)] at h
        repeat (walk_at "mine")
        refine ⟨_, Sub.refl _, es, _, _, _, n + 1, rfl, (by (repeat (refine sub_cons (by rfl) ?_)); exact sub_nil), by exact le1 (c2 _ _) (.a (.v 0) (.a (.v 1) (.n 1))) (.n 100) (.a (.a (.v 0) (.n 1)) (.v 1)) (.n 100) hn, ?_, by lia, hu2, by exact le2 (c3 _ _ _) (.v 0) (.m 100 (.v 1)) (.v 2) (.a (.v 0) (.n 100)) (.v 2) (.m 100 (.a (.v 1) (.n 1))) hil hil2, hio, fun x hx => hw x (.tail _ hx), h⟩
        simp only [Str.length_append, ln_cp]
        lia
  · rintro σ ⟨es, dd, ins, dn, n, hi, hs', hn, hdl, h0, h1, hil, hin, hw, h⟩
    cases es with
    | cons p ps => cases hi
    | nil =>
      refine seq_weak hs' ?_
      repeat (walk_at "mine")
      exact h
  · repeat (refine sub_cons (by rfl) ?_)
    exact sub_nil
end
end

section
open SeqAt in
section
variable {g : Gd} {d : Nat} {K : V → Prop}

noncomputable def deq (l l' : List (Str × Int)) : Bool := l.length == l'.length && l.all fun p => dget l' p.1 == some p.2
theorem deq_self {l : List (Str × Int)} (h : (l.map (·.1)).Nodup) : deq l l = true := by
  unfold deq
  simp only [beq_self_eq_true, Bool.true_and, List.all_eq_true]
  intro p hp
  suffices dget l p.1 = some p.2 by rw [this]; exact beq_self_eq_true _
  induction l with
  | nil => cases hp
  | cons q r ih =>
    simp only [List.map_cons, List.nodup_cons] at h
    unfold dget at ih ⊢
    rcases List.mem_cons.mp hp with rfl | hp
    · simp
    · have hne : q.1 ≠ p.1 := fun e => h.1 (e ▸ List.mem_map.mpr ⟨p, hp, rfl⟩)
      rw [List.find?_cons]
      simp only [hne, decide_false]
      exact ih h.2 hp
theorem ivals_det {l l' : List (Str × Int)} {kvs : List (Str × Value)} (h : IntVals l kvs) (h' : IntVals l' kvs) : l = l' := by
  induction h generalizing l' with
  | nil => cases h'; rfl
  | cons _ ih => cases h' with | cons r => rw [ih r]
theorem ivals_keys {l : List (Str × Int)} {kvs : List (Str × Value)} (h : IntVals l kvs) : kvs.map (·.1) = l.map (·.1) := by
  induction h with
  | nil => rfl
  | cons _ ih => simp [ih]
theorem pairs_det {prog : Program} {w : World} {es : List DictEntry} {kvs kvs' : List (Str × Value)} (h : Pairs (PySem.strKind prog w) es kvs) (h' : Pairs (PySem.strKind prog w) es kvs') : kvs = kvs' := by
  induction h generalizing kvs' with
  | nil => cases h'; rfl
  | cons a1 a2 _ ih =>
    cases h' with | cons b1 b2 r =>
    rw [ih r, Prod.ext ((PySem.strKind prog w).inj _ _ _ a1 b1) (a2.symm.trans b2)]
theorem hits_of {A : Around} {s : Shared} {l l' : List (Str × Int)} {ka kb : List (Str × Value)} (h : IntVals l ka) (h' : IntVals l' kb) : KeqHits A s kb ka (l.all fun p => dget l' p.1 == some p.2) := by
  induction h with
  | nil => exact .nil
  | @cons k i t l ka _ ih =>
    rw [List.all_cons]
    rcases h'.get k with ⟨p, q⟩ | ⟨j, t', p, q⟩
    · rw [p]
      exact .miss q
    · rw [p]
      have : (some j == some i) = (i == j) := by
        simp only [Option.some_beq_some]; exact Bool.beq_comm
      show KeqHits A s kb _ ((some j == some i) && _)
      rw [this]
      exact .hit q (.int_int _ _ _ _) ih
theorem eqb_dict {A : Around} {Φ : FM} {s : Shared} {l l' : List (Str × Int)} {x y : Value} {E : Value → Shared → Prop} {Q : Bool → Shared → Prop} (hu : A.units ≤ 9850) (i : Inv g Φ s) (r₁ : Real g Φ (.dict l) x) (r₂ : Real g Φ (.dict l') y) (h : Q (deq l l') s) :
    wpAny (model g.prog g.w) A (eqBool x y) Q E s := by
  cases r₁ with | dict h1 d1 v1 q1 => cases r₂ with | dict h2 d2 v2 q2 =>
    rename_i a o kvs b o' kvs'
    have H1 := i.held _ _ h1
    have H2 := i.held _ _ h2
    unfold eqBool
    refine wpAny_holding ?_
    refine wpAny_ite_split (fun hab => ?_) (fun hab => ?_)
    · have e : a = b := by have := eq_of_beq hab; injection this
      subst e
      rw [H1] at H2; cases H2
      obtain ⟨es, ep, _, e1, _, p1, nd⟩ := d1
      obtain ⟨es', ep', _, e2, _, p2, _⟩ := d2
      rw [e1] at e2; cases e2
      have := pairs_det p1 p2
      subst this
      have := ivals_det v1 v2
      subst this
      rw [deq_self (by rw [← ivals_keys v1]; exact nd)] at h
      exact wpAny_bind (wpAny_rule (wpAny_pure h))
    · refine wpAny_bind (keq_eq q1 q2 (Heap.dictOf_iff.mpr ⟨_, H1, d1⟩) (Heap.dictOf_iff.mpr ⟨_, H2, d2⟩) (by show A.units < 9900; exact le1 (c1 _) (.v 0) (.n 9850) (.a (.v 0) (.n 1)) (.n 9900) hu) (fun _ => hits_of v1 v2) (wpAny_truthy_bool ?_))
      rw [v1.length, v2.length]
      exact h

/-- the pairs of two tuples with what their == says -/
inductive EqZ (g : Gd) (A : Around) (s : Shared) : List (Value × Value) → List Bool → Prop
  | nil : EqZ g A s [] []
  | cons {y x b r bs} : (∀ {Q : Bool → Shared → Prop} {E : Value → Shared → Prop}, Q b s → wpAny (model g.prog g.w) A (eqBool y x) Q E s) → EqZ g A s r bs → EqZ g A s ((y, x) :: r) (b :: bs)
inductive EqI (g : Gd) (A : Around) (s : Shared) (R : Bool → Prop) (rest : List (Value × Value)) (s' : Shared) : Prop
  | mk (bs : List Bool) : s' = s → EqZ g A s rest bs → R (bs.all id) → EqI g A s R rest s'
set_option maxHeartbeats 8000000 in
theorem tup_ne {l b : Addr} {xs ys : List Value} {bs : List Bool} {A : Around} {s : Shared} {Q : Value → Shared → Prop} (h1 : s.heap.IsTuple l xs.toArray) (h2 : s.heap.IsTuple b ys.toArray) (hlen : xs.length = ys.length) (hu : A.units < cLine) (hz : EqZ g A.in1 s (xs.zip ys) bs) (h : Q (.bool (!bs.all id)) s) :
    wpAny (model g.prog g.w) A (compareOp .NotEq (.ref l) (.ref b)) Q bot s := by
  obtain ⟨o1, ho1, hc1, n1, hd1⟩ := h1
  obtain ⟨o2, ho2, hc2, n2, hd2⟩ := h2
  refine wpAny_richCompare_same_room (op := .NotEq) ⟨_, ho1, hc1⟩ ⟨_, ho2, hc2⟩ PySem.F.slot_tuple_ne (wpAny_call_entry PySem.F.slot_tuple_ne ⟨_, ho1, hc1⟩ PySem.F.entry_tuple_ne ?_ (PySem.F.args_tuple_ne_2 _ _)) hu
  obtain ⟨hp, gs, dr, tk, os⟩ := s
  have f2 := AutoSeq1.sub_tuple_tuple
  obtain ⟨c1, d1, da1, sl1⟩ := o1
  obtain ⟨c2, d2, da2, sl2⟩ := o2
  simp only at hc1 hc2 hd1 hd2
  subst hc1 hc2 hd1 hd2
  wp_walk using AutoSeq1.wpAny_loadPart' ho1, AutoSeq1.wpAny_loadPart' ho2, wpAny_forIn_list _ (fun rest b s' => b.1 = none ∧ EqI g A.in1 ⟨hp, gs, dr, tk, os⟩ (fun z => Q (.bool (!z)) ⟨hp, gs, dr, tk, os⟩) rest s') _
  case turn =>
    rintro ⟨y, x⟩ rest b s' ⟨hb', bs, rfl, hz, hR⟩
    cases hz with | @cons _ _ e _ bs he hz =>
    refine wpAny_bind (he ?_)
    cases e with
    | true =>
      wp_walk
      exact ⟨rfl, bs, rfl, hz, hR⟩
    | false =>
      wp_walk
      exact ⟨_, rfl, (fun q => nomatch q), hR⟩
  case fin =>
    rintro ⟨b1, b2⟩ s' ⟨hb', bs, rfl, hz, hR⟩
    simp only at hb'
    subst hb'
    cases hz
    wp_walk
    exact ⟨_, rfl, (fun q => nomatch q), by simpa [Builtin.Tuple.tupleCompareSizes, bne, hlen] using hR⟩
  case h => exact ⟨rfl, bs, rfl, by simpa using hz, h⟩
noncomputable abbrev EqR (g : Gd) (A : Around) (Φ : FM) (s : Shared) (l l' : List V) (bs : List Bool) : Prop := ∀ {xs ys}, Reals g Φ l xs → Reals g Φ l' ys → EqZ g A s (xs.zip ys) bs
theorem eqr_nil {A : Around} {Φ : FM} {s : Shared} : EqR g A Φ s [] [] [] := fun r _ => r.unnil ▸ .nil
theorem eqr_cons {A : Around} {Φ : FM} {s : Shared} {v u : V} {l l' : List V} {b : Bool} {bs : List Bool} (he : ∀ {x y}, Real g Φ v x → Real g Φ u y → ∀ {Q : Bool → Shared → Prop} {E : Value → Shared → Prop}, Q b s → wpAny (model g.prog g.w) A (eqBool x y) Q E s) (hr : EqR g A Φ s l l' bs) : EqR g A Φ s (v :: l) (u :: l') (b :: bs) := fun r1 r2 => by
  obtain ⟨x, xs, rfl, a1, r1⟩ := r1.uncons
  obtain ⟨y, ys, rfl, a2, r2⟩ := r2.uncons
  exact .cons (he a1 a2) (hr r1 r2)
theorem eqr_int {A : Around} {Φ : FM} {s : Shared} (hu : A.units ≤ 9850) (i : Inv g Φ s) {a b : Int} {l l' : List V} {bs : List Bool} (hr : EqR g A Φ s l l' bs) : EqR g A Φ s (.int a :: l) (.int b :: l') ((a == b) :: bs) :=
  eqr_cons (fun r1 r2 _ _ q => eqo_int a b Φ A _ _ _ hu i r1 r2 _ _ _ _ q) hr
theorem cmp_ne_st {a b c e a' b' c' e' : Int} {l l' : List (Str × Int)} (h : K (.bool (!(a == a' && b == b' && c == c' && e == e' && deq l l')))) : CmpOk g d .NotEq (stV a b c e l) (stV a' b' c' e' l') K := fun A Φ s x y ok i r₁ r₂ => by
  obtain ⟨u, xs, rfl, t1, q1⟩ := is_tup i r₁
  obtain ⟨v, ys, rfl, t2, q2⟩ := is_tup i r₂
  have hu : A.in1.units ≤ 9850 := by show A.units + 1 ≤ _; exact le1 (c2 _ _) (.a (.v 0) (.m 10 (.v 1))) (.n 9800) (.a (.v 0) (.n 1)) (.n 9850) ok.2.2
  have he : EqR g A.in1 Φ s _ _ [a == a', b == b', c == c', e == e', deq l l'] := eqr_int hu i (eqr_int hu i (eqr_int hu i (eqr_int hu i (eqr_cons (fun r1 r2 _ _ q => eqb_dict hu i r1 r2 q) eqr_nil))))
  refine tup_ne t1 t2 (q1.length.trans q2.length.symm) ok.units (he q1 q2) (kv (.refl i.held) (.bool _) ?_)
  have e : ∀ p q r t z : Bool, (!(p && q && r && t && z)) = !([p, q, r, t, z].all _root_.id) := by decide
  exact e _ _ _ _ _ ▸ h
end
end

section
open W in
section
variable {g : Gd} {d : Nat} {K : V → Prop}

noncomputable def krun {α : Type} (lt : Nat → Nat → Bool) : KasT α → α
  | .ret a => a
  | .ask i j k => krun lt (k (lt i j))
noncomputable def kbound {α : Type} (n : Nat) : KasT α → Bool
  | .ret _ => true
  | .ask i j k => decide (i < n) && decide (j < n) && kbound n (k true) && kbound n (k false)
theorem kasWp_of {α : Type} {n : Nat} {lt : Nat → Nat → Bool} {cmp : Nat → Nat → (Bool → Shared → Prop) → Shared → Prop} {s : Shared} (hc : ∀ i j (C : Bool → Shared → Prop), i < n → j < n → C (lt i j) s → cmp i j C s) {Q : α → Shared → Prop} :
    ∀ (t : KasT α), kbound n t = true → Q (krun lt t) s → t.kasWp cmp Q s
  | .ret _, _, h => h
  | .ask i j k, hb, h => by
    simp only [kbound, Bool.and_eq_true, decide_eq_true_eq] at hb
    refine hc i j _ hb.1.1.1 hb.1.1.2 (kasWp_of hc (k (lt i j)) ?_ h)
    cases lt i j
    · exact hb.2
    · exact hb.1.2
theorem kbound4 : kbound 4 (kas_sort 4) = true := by decide +kernel

noncomputable def ltT : List Int → List Int → Bool
  | a :: x, b :: y => if a == b then ltT x y else decide (a < b)
  | _, _ => false
theorem kat_lex {A : Around} {Φ : FM} {s : Shared} {Q : Bool → Shared → Prop} : ∀ (l l' : List Int) (xs ys : List Value) (i : Nat), l.length = l'.length → Reals g Φ (l.map V.int) xs → Reals g Φ (l'.map V.int) ys → Q (ltT l l') s → KatLex g.prog g.w A true false Q (xs.zip ys) i s
  | [], [], _, _, i, _, r₁, r₂, h => by cases r₁; cases r₂; exact kat_nil h
  | [], _ :: _, _, _, _, hl, _, _, _ => by cases hl
  | _ :: _, [], _, _, _, hl, _, _, _ => by cases hl
  | a :: l, b :: l', xs, ys, i, hl, r₁, r₂, h => by
    cases r₁ with | cons p₁ r₁ => cases r₂ with | cons p₂ r₂ =>
      cases p₁; cases p₂
      refine kat_cons (wpAny_eqBool_int ?_)
      unfold ltT at h
      cases e : (a == b) with
      | true =>
        rw [e, if_pos rfl] at h
        exact kat_yes (kat_lex l l' _ _ (i + 1) (by simpa using hl) r₁ r₂ h)
      | false =>
        rw [e, if_neg Bool.false_ne_true] at h
        refine kat_no ?_
        cases i with
        | zero => exact oneLt_int h
        | succ i =>
          have : (true && (i + 1 == 0)) = false := by simp
          rw [this]
          exact kat_one _ _ (P.lt_int h)
end
end

section
open W in
section
variable {g : Gd} {d : Nat} {K : V → Prop}

/-- list.sort with nothing that writes -/
theorem lsort_own {A : Around} {E : Value → Shared → Prop} {s : Shared} {a : Addr} {vs : List Value} {n : Nat} {κ : SortKind} {lt : Nat → Nat → Bool} {P : PySem.Fin → Shared → Prop} (ho : s.heap.get? a = some (seqObj "list" vs.toArray n)) (h4 : vs.length = 4)
    (hk : ∀ (s' : Shared), (∀ b o, b ≠ a → s.heap.get? b = some o → s'.heap.get? b = some o) → ∀ (Q : SortKind → Shared → Prop), Q κ s' → wpAny (model g.prog g.w) A (keyKind' vs.toArray) Q (fun _ _ => False) s')
    (hl : ∀ (s' : Shared), (∀ b o, b ≠ a → s.heap.get? b = some o → s'.heap.get? b = some o) → ∀ i j (C : Bool → Shared → Prop), i < 4 → j < 4 → C (lt i j) s' → kas_ask g.prog g.w A κ vs i j C s')
    (h : ∀ h' c, h'.get? a = some (seqObj "list" (((krun lt (kas_sort 4)).toList.map fun i => vs.getD i Value.none)).toArray c) → (∀ b o, b ≠ a → s.heap.get? b = some o → h'.get? b = some o) → P (.done (.ret .none)) { s with heap := h' }) :
    wpAny (model g.prog g.w) A (Builtin.«list.sort» ⟨[.ref a], []⟩) P E s := by
  have ha : a < s.heap.objs.size := Heap.lt_size ho
  obtain ⟨e1, ho1⟩ : ∃ e1, (s.heap.update a (Obj.mapSeq fun _ => (#[] : Array Value))).get? a = some (seqObj "list" #[] e1) := ⟨_, get?_update_seq ho fun _ => #[]⟩
  have s1 := Heap.SameBut.update s.heap a (Obj.mapSeq fun _ => (#[] : Array Value))
  have hsz : sizeLine = 2 ^ 24 := rfl
  rw [list_sort_plain]
  refine wpAny_bind (listItems_at ho rfl ?_)
  refine wpAny_bind (listUpdate_at ho rfl ?_ (by rw [List.size_toArray]; exact le1 (c1 _) (.v 0) (.n 4) (.v 0) (.n 16777216) (Nat.le_of_eq h4)) (Nat.zero_le _))
  refine wpAny_bind (seqEpoch_at ho1 rfl ?_)
  refine wpAny_bind (wpAny_newTuple ?_ (by show vs.length ≤ _; exact le1 (c1 _) (.v 0) (.n 4) (.v 0) (.n 16777216) (Nat.le_of_eq h4)))
  refine wpAny_bind (wpAny_newList ?_ (Nat.zero_le _))
  refine wpAny_holding ?_
  generalize hH : ((s.heap.update a (Obj.mapSeq fun _ => (#[] : Array Value))).push (seqObj "tuple" vs.toArray 0)).push (seqObj "list" #[] 0) = H
  have keep : ∀ b o, b ≠ a → s.heap.get? b = some o → H.get? b = some o := fun b o hb e => by
    rw [← hH]
    exact Heap.get?_push_of_some _ (Heap.get?_push_of_some _ ((s1.2 b hb).trans e))
  have hoH : H.get? a = some (seqObj "list" #[] e1) := by
    rw [← hH]
    exact Heap.get?_push_of_some _ (Heap.get?_push_of_some _ ho1)
  show wpAny (model g.prog g.w) A _ P E { s with heap := H }
  dsimp only
  have hn2 : ¬ vs.toArray.size < 2 := by rw [List.size_toArray]; exact fun hh => no10 (le2 (c1 _) (.n 4) (.v 0) (.a (.v 0) (.n 1)) (.n 2) (.n 1) (.n 0) (Nat.le_of_eq h4.symm) hh)
  rw [if_neg hn2, if_neg hn2]
  refine wpAny_bind (wpAny_mono (hk { s with heap := H } keep (fun κ' s' => κ' = κ ∧ s' = { s with heap := H }) ⟨rfl, rfl⟩) (fun κ' s0 hk => ?_) fun _ _ x => x.elim)
  obtain ⟨rfl, rfl⟩ := hk
  have run := kasWp_of (Q := fun p s' => p = krun lt (kas_sort 4) ∧ s' = { s with heap := H }) (hl { s with heap := H } keep) (kas_sort 4) kbound4 ⟨rfl, rfl⟩
  rw [← h4] at run
  refine wpAny_bind (wpAny_mono (kat_run (Q := fun st' s' => ∃ p : Array Nat, p.size = vs.length ∧ arrOf st' = p.map (kas_item (vs.toArray.zip vs.toArray)) ∧ failedOf st' = none ∧ (p = krun lt (kas_sort vs.length) ∧ s' = { s with heap := H }))
    rfl (by exact le1 (c1 _) (.n 4) (.v 0) (.n 2) (.v 0) (Nat.le_of_eq h4.symm)) (by exact le1 (c1 _) (.v 0) (.n 4) (.a (.v 0) (.n 1)) (.n 64) (Nat.le_of_eq h4)) (fun p' st' s' a1 a2 a3 a4 => ⟨p', a1, a2, a3, a4⟩) run) ?_ fun _ _ e => e)
  rintro ⟨⟨⟩, st'⟩ s' ⟨p, hp, har, hf, rfl, rfl⟩
  dsimp only
  have hout := kat_snds rfl har
  have hsz2 : (List.toArray ((krun lt (kas_sort vs.length)).toList.map fun i => vs.getD i Value.none)).size = vs.length := by rw [List.size_toArray, List.length_map, Array.length_toList, hp]
  rw [hout]
  have s2 := Heap.SameBut.update H a (Obj.mapSeq fun _ => List.toArray ((krun lt (kas_sort vs.length)).toList.map fun i => vs.getD i Value.none))
  obtain ⟨c2, hc2⟩ : ∃ c2, (H.update a (Obj.mapSeq fun _ => List.toArray ((krun lt (kas_sort vs.length)).toList.map fun i => vs.getD i Value.none))).get? a = some (seqObj "list" (List.toArray ((krun lt (kas_sort vs.length)).toList.map fun i => vs.getD i Value.none)) c2) := ⟨_, get?_update_seq hoH fun _ => List.toArray ((krun lt (kas_sort vs.length)).toList.map fun i => vs.getD i Value.none)⟩
  refine wpAny_bind (seqEpoch_at hoH rfl ?_)
  refine wpAny_bind (listUpdate_at hoH rfl ?_ (Nat.zero_le _) (Nat.le_trans (Nat.le_of_eq hsz2) (by exact le1 (c1 _) (.v 0) (.n 4) (.v 0) (.a (.n 16777216) (.n 1)) (Nat.le_of_eq h4))))
  rw [hf]
  simp only [bne_self_eq_false, Bool.false_eq_true, if_false]
  refine wpAny_pure (h _ c2 ?_ fun b o hb e => (s2.2 b hb).trans (keep b o hb e))
  rw [← h4]
  exact hc2
end
end

section
open W in
section
variable {g : Gd} {d : Nat} {K : V → Prop}

noncomputable def kleaf {α : Type} (P : α → Bool) : KasT α → Bool
  | .ret a => P a
  | .ask _ _ k => kleaf P (k true) && kleaf P (k false)
theorem kleaf_run {α : Type} {P : α → Bool} {lt : Nat → Nat → Bool} : ∀ (t : KasT α), kleaf P t = true → P (krun lt t) = true
  | .ret _, h => h
  | .ask i j k, h => by
    simp only [kleaf, Bool.and_eq_true] at h
    show P (krun lt (k (lt i j))) = true
    refine kleaf_run _ ?_
    cases lt i j
    · exact h.2
    · exact h.1
theorem kleaf4 : kleaf (fun p => p.toList.all fun i => decide (i < 4)) (kas_sort 4) = true := by decide +kernel

noncomputable def sortOrd (l : List (List Int)) : List Nat := (krun (fun i j => ltT (l.getD i []) (l.getD j [])) (kas_sort 4)).toList
noncomputable def sortT (l : List (List Int)) : List (List Int) := (sortOrd l).map fun i => l.getD i []
theorem sortOrd_lt (l : List (List Int)) : ∀ i ∈ sortOrd l, i < 4 := fun i hi => by
  have := kleaf_run (lt := fun i j => ltT (l.getD i []) (l.getD j [])) _ kleaf4
  simpa using List.all_eq_true.mp this i hi

theorem kattups {Φ : FM} {h : Heap} (held : ∀ a o, Φ a = some o → h.get? a = some o) {l : List (List Int)} {xs : List Value} (r : Reals g Φ (l.map tupV) xs) (hn : ∀ t ∈ l, t ≠ []) : ∃ fs, KatTups h xs fs ∧ (∀ v ∈ fs, ∃ i t, v = .int i t) ∧ fs.length = l.length := by
  induction l generalizing xs with
  | nil => rw [r.unnil]; exact ⟨[], .nil, (fun _ h => nomatch h), rfl⟩
  | cons t l ih =>
    obtain ⟨y, ys, rfl, r1, r'⟩ := r.uncons
    obtain ⟨fs, h1, h2, h3⟩ := ih r' fun t ht => hn t (.tail _ ht)
    cases t with
    | nil => exact absurd rfl (hn _ (.head _))
    | cons a t =>
      refine r1.onT fun b o zs n e1 e2 e3 r1 => ?_
      obtain ⟨z, zs, rfl, p1, _⟩ := r1.uncons
      obtain ⟨tk, rfl⟩ := real_int p1
      exact ⟨.int a tk :: fs, .cons (held _ _ e1) e2 e3 (by simp) h1, List.forall_mem_cons.mpr ⟨⟨_, _, rfl⟩, h2⟩, congrArg (· + 1) h3⟩
theorem reals_getD {α : Type} {f : α → V} {Φ : FM} {l : List α} {xs : List Value} (r : Reals g Φ (l.map f) xs) {i : Nat} (hi : i < l.length) (a : α) (x : Value) : Real g Φ (f (l.getD i a)) (xs.getD i x) := by
  have hx : xs.length = l.length := by simpa using r.length
  obtain ⟨h2, q⟩ := reals_map r (j := i) (by omega)
  simpa [List.getD_eq_getElem?_getD, hi, hx] using q
theorem call_sorted {l : List (List Int)} (h4 : l.length = 4) (hl : ∀ t ∈ l, t.length = 4) (h : K (.list ((sortT l).map tupV))) : CallOk g (d + 2) (.builtin "sorted") [.list (l.map tupV)] K := fun A Φ s xs ok i r => by
  refine r.on1 fun _ r1 => ?_
  refine r1.onL fun a vs n e1 r => ?_
  have hvl : vs.length = 4 := by simpa [h4] using r.length
  have hsz : sizeLine = 2 ^ 24 := rfl
  have hL : s.heap.IsList a vs.toArray := ⟨_, i.held _ _ e1, rfl, n, rfl⟩
  refine Calls.call_function_entry kind_sorted plain_sorted entry_sorted (args_sorted1 _) ?_
  unfold Builtin.«sorted»
  refine wpAny_bind (m := checkCount "sorted" 1 1 _) (wpAny_pure ?_)
  refine wpAny_bind (collect_list hL ?_ (by exact le1 (c1 _) (.v 0) (.n 4) (.v 0) (.n 16777216) (Nat.le_of_eq hvl)))
  refine wpAny_bind (wpAny_newList ?_ (by exact le1 (c1 _) (.v 0) (.n 4) (.v 0) (.n 16777216) (Nat.le_of_eq hvl)))
  generalize hH : (s.heap.push (seqObj "list" #[] 0)).update s.heap.objs.size (Obj.mapSeq (· ++ vs.toArray)) = H
  have hHs : H.objs.size = s.heap.objs.size + 1 := by rw [← hH, Heap.size_update, Heap.size_push]
  have keep0 : ∀ b o, s.heap.get? b = some o → H.get? b = some o := fun b o e => by
    rw [← hH]
    exact ((Heap.SameBut.update _ _ _).2 b (Nat.ne_of_lt (Heap.lt_size e))).trans (Heap.get?_push_of_some _ e)
  show wpAny _ _ _ _ _ { s with heap := H.push (seqObj "list" vs.toArray 0) }
  have hoL : (H.push (seqObj "list" vs.toArray 0)).get? H.objs.size = some (seqObj "list" vs.toArray 0) := Heap.get?_push_size _ rfl
  have keep1 : ∀ b o, s.heap.get? b = some o → (H.push (seqObj "list" vs.toArray 0)).get? b = some o := fun b o e => Heap.get?_push_of_some _ (keep0 b o e)
  have hD : s.heap.get? H.objs.size = none := above_none (by exact le1 (c2 _ _) (.a (.v 1) (.n 1)) (.v 0) (.v 1) (.v 0) (Nat.le_of_eq hHs.symm))
  refine wpAny_bind (wpAny_holding (wpAny_call_entry slot_list_sort ⟨_, hoL, rfl⟩ entry_list_sort ?body (args_list_sort _)))
  case body =>
    have keep2 : ∀ (s' : Shared), (∀ b o, b ≠ H.objs.size → (H.push (seqObj "list" vs.toArray 0)).get? b = some o → s'.heap.get? b = some o) → ∀ b o, Φ b = some o → s'.heap.get? b = some o := fun s' hs b o e =>
      hs b o (fun q => by rw [q] at e; have := i.held _ _ e; rw [hD] at this; cases this) (keep1 b o (i.held b o e))
    refine lsort_own (κ := tuples' true) (lt := fun i j => ltT (l.getD i []) (l.getD j [])) (s := { s with heap := H.push (seqObj "list" vs.toArray 0) }) hoL hvl (fun s' hs Q hq => ?_) (fun s' hs i' j' C hi hj hc => ?_) fun h' c h1 h2 => ?_
    · obtain ⟨fs, f1, f2, f3⟩ := kattups (keep2 s' hs) r fun t ht => by have := hl t ht; intro q; rw [q] at this; cases this
      exact kat_kind (T := .type "int") f1 (by exact le2 (c2 _ _) (.n 4) (.v 0) (.v 0) (.v 1) (.a (.n 0) (.n 1)) (.v 1) (Nat.le_of_eq h4.symm) (Nat.le_of_eq f3.symm)) (fun v hv => by obtain ⟨i, t, rfl⟩ := f2 v hv; exact .now) (by decide) hq
    · have r1 := reals_getD r (i := i') (by exact le2 (c2 _ _) (.n 4) (.v 0) (.a (.v 1) (.n 1)) (.n 4) (.a (.v 1) (.n 1)) (.v 0) (Nat.le_of_eq h4.symm) hi) [] Value.none
      have r2 := reals_getD r (i := j') (by exact le2 (c2 _ _) (.n 4) (.v 0) (.a (.v 1) (.n 1)) (.n 4) (.a (.v 1) (.n 1)) (.v 0) (Nat.le_of_eq h4.symm) hj) [] Value.none
      have l1 : (l.getD i' []).length = 4 := by
        rw [List.getD_eq_getElem?_getD, List.getElem?_eq_getElem (by exact le2 (c2 _ _) (.n 4) (.v 0) (.a (.v 1) (.n 1)) (.n 4) (.a (.v 1) (.n 1)) (.v 0) (Nat.le_of_eq h4.symm) hi)]; exact hl _ (List.getElem_mem _)
      have l2 : (l.getD j' []).length = 4 := by
        rw [List.getD_eq_getElem?_getD, List.getElem?_eq_getElem (by exact le2 (c2 _ _) (.n 4) (.v 0) (.a (.v 1) (.n 1)) (.n 4) (.a (.v 1) (.n 1)) (.v 0) (Nat.le_of_eq h4.symm) hj)]; exact hl _ (List.getElem_mem _)
      unfold kas_ask
      revert r1 r2 l1 l2 hc
      generalize vs.getD i' Value.none = x
      generalize vs.getD j' Value.none = y
      generalize l.getD i' [] = u
      generalize l.getD j' [] = v
      intro hc r1 r2 l1 l2
      refine r1.onT fun _ _ xs1 n1 a1 a2 a3 q1 => ?_
      refine r2.onT fun _ _ ys1 n2 b1 b2 b3 q2 => ?_
      have x1 : xs1.length = 4 := by simpa [l1] using q1.length
      have y1 : ys1.length = 4 := by simpa [l2] using q2.length
      refine kat_lt (keep2 s' hs _ _ a1) a3 (keep2 s' hs _ _ b1) b3 ?_
      rw [show decide (xs1.toArray.size < ys1.toArray.size) = false by simp; exact le2 (c2 _ _) (.n 4) (.v 0) (.v 1) (.n 4) (.v 1) (.v 0) (Nat.le_of_eq x1.symm) (Nat.le_of_eq y1)]
      exact kat_lex u v xs1 ys1 0 (by exact Nat.le_antisymm (le2 (c2 _ _) (.v 0) (.n 4) (.n 4) (.v 1) (.v 0) (.v 1) (Nat.le_of_eq l1) (Nat.le_of_eq l2.symm)) (le2 (c2 _ _) (.n 4) (.v 0) (.v 1) (.n 4) (.v 1) (.v 0) (Nat.le_of_eq l1.symm) (Nat.le_of_eq l2))) q1 q2 hc
    · refine ⟨_, rfl, wpAny_pure ⟨_, rfl, ?_⟩⟩
      have keep3 : ∀ b o, s.heap.get? b = some o → h'.get? b = some o := fun b o e => h2 b o (fun q => by rw [q, hD] at e; cases e) (keep1 b o e)
      have ex : Ext Φ s Φ { s with heap := h' } := Ext.keeps i keep3 s.toks
      refine ⟨_, .list ((sortT l).map tupV), ex.freeze (g := g) (i.ext ex) h1 (i.none hD) (.inl hD), .list (FM.put_self ..) (Reals.mono (FM.put_le (i.none hD)) ?_), h⟩
      show Reals g Φ (((sortOrd l).map fun i => l.getD i []).map tupV) ((sortOrd l).map fun i => vs.getD i Value.none)
      have := sortOrd_lt l
      revert this
      generalize sortOrd l = p
      intro hp
      induction p with
      | nil => exact .nil
      | cons j p ih => exact .cons (reals_getD r (by have := hp j (by simp); exact le2 (c2 _ _) (.n 4) (.v 0) (.a (.v 1) (.n 1)) (.n 4) (.a (.v 1) (.n 1)) (.v 0) (Nat.le_of_eq h4.symm) this) [] Value.none) (ih fun i hi => hp i (.tail _ hi))
end
end

section
theorem compTurn_21 (elt t1 i1 target iter : Expr) (scope : Scope) (pos : Pos) (it acc : Value) (env : Env) :
    compTurn (.ListComp elt [⟨t1, i1, [], 0⟩, ⟨target, iter, [], 0⟩] scope pos) 1 it acc env = (do
      standAt iter.pos
      match ← pyNext it with
      | none => pure (.done .next)
      | some v =>
        letOwnedTupleGo target it v
        assign target env v
        let mut ok := true
        for c in ([] : List Expr) do
          if ok then ok ← isTrue c env (eval c env)
        if ok then
          (do let _ ← call (.builtin "list.append") [acc, ← eval elt env])
        again (.compLoop (.ListComp elt [⟨t1, i1, [], 0⟩, ⟨target, iter, [], 0⟩] scope pos) 1 it acc env)) := by rfl
theorem compTurn_20 (elt t1 i1 target iter : Expr) (scope : Scope) (pos : Pos) (it acc : Value) (env : Env) :
    compTurn (.ListComp elt [⟨t1, i1, [], 0⟩, ⟨target, iter, [], 0⟩] scope pos) 0 it acc env = (do
      standAt i1.pos
      match ← pyNext it with
      | none => pure (.done .next)
      | some v =>
        letOwnedTupleGo t1 it v
        assign t1 env v
        let x ← eval iter env
        standAt iter.pos
        let x ← foldedSetIterable iter env x
        let _ ← runOwn (.compStart (.ListComp elt [⟨t1, i1, [], 0⟩, ⟨target, iter, [], 0⟩] scope pos) 1 (← holding [x] (pyIter x)) acc env) env
        again (.compLoop (.ListComp elt [⟨t1, i1, [], 0⟩, ⟨target, iter, [], 0⟩] scope pos) 0 it acc env)) := by rfl

section
variable {g : Gd} {d : Nat} {env cenv : Env} {σ : Sg}

theorem compStart_21 {A : Around} {R : Result → Shared → Prop} {s : Shared} {elt t1 i1 target iter : Expr} {scope : Scope} {pos : Pos} {it acc : Value} {env : Env}
    (h0 : codeAny (model g.prog g.w) A (.compLoop (.ListComp elt [⟨t1, i1, [], 0⟩, ⟨target, iter, [], 0⟩] scope pos) 1 it acc env) R s)
    (h : wpAny (model g.prog g.w) A (pyIter it) (fun it' s' => codeAny (model g.prog g.w) A (.compLoop (.ListComp elt [⟨t1, i1, [], 0⟩, ⟨target, iter, [], 0⟩] scope pos) 1 it' acc env) R s')
      (notedBy (model g.prog g.w) A env fun x s' => R (.error x) s') s) :
    codeAny (model g.prog g.w) A (.compStart (.ListComp elt [⟨t1, i1, [], 0⟩, ⟨target, iter, [], 0⟩] scope pos) 1 it acc env) R s := by
  refine codeAny_of_tree ?_
  show wpAny _ _ ((compStart (.ListComp elt [⟨t1, i1, [], 0⟩, ⟨target, iter, [], 0⟩] scope pos) 1 it acc env).onRaise (fun x => do noteFrame x env; standAt theWindowsPlace)) _ _ s
  refine wpAny_notedAt ?_
  unfold compStart
  show wpAny _ _ (ask >>= _) _ _ s
  refine wpAny_bind (wpAny_askSetting (wpAny_ite ?_))
  split
  · first
      | exact wpAny_bind (wpAny_pure (wpAny_pure (And.intro rfl h0)))
      | exact wpAny_pure (And.intro rfl h0)
  · first
      | exact wpAny_bind (wpAny_rule (wpAny_bind (wpAny_standAt (wpAny_bind (wpAny_mono h (fun it' s' h' => wpAny_pure (And.intro rfl h')) fun _ _ x => x)))))
      | (refine wpAny_bind (wpAny_rule ?_); show wpAny _ _ (standAt iter.pos >>= _) _ _ s; exact wpAny_bind (wpAny_standAt (wpAny_bind (wpAny_mono h (fun it' s' h' => wpAny_pure (And.intro rfl h')) fun _ _ x => x))))

/-- the turns of a comprehension of two clauses -/
noncomputable def compP2 (g : Gd) (d : Nat) (env : Env) (σ : Sg) (t1 iter target elt : Expr) (K : List V → Prop) : List V → List V → Prop
  | [], acc => K acc
  | v :: r, acc => AsL g d env σ t1 v fun σ' => Sub σ σ' ∧ ItEv g d env σ' target iter fun items => compP g d env σ' target [] elt (compP2 g d env σ t1 iter target elt K r) items acc

noncomputable abbrev cmp2 (elt t1 i1 target iter : Expr) (scope : Scope) (pos : Pos) : Expr := .ListComp elt [⟨t1, i1, [], 0⟩, ⟨target, iter, [], 0⟩] scope pos
theorem loop_in {elt t1 i1 target iter : Expr} {scope : Scope} {pos : Pos} {K : List V → Prop} {items acc : List V} (h : compP g d cenv σ target [] elt K items acc) :
    LoopOk g d cenv σ target (fun I D => .compLoop (cmp2 elt t1 i1 target iter scope pos) 1 (.ref I) (.ref D) cenv) (HL g) acc K items := fun {A I tg gi J fp D Φ₀ s₀ Φ s R} a W ht hDw hz hgi c hj hR =>
  comp_go (σ := σ) (H := HL g D) (Q := compP g d cenv σ target [] elt K) (Φ₀ := Φ₀) (s₀ := s₀) W ht rfl
    (fun {P s} h => by
      show wpAny _ A ((compTurn (cmp2 elt t1 i1 target iter scope pos) 1 (.ref I) (.ref D) cenv).onRaise (fun x => do noteFrame x cenv; theTreesLotGoes x)) _ _ s
      refine wpAny_noted ?_
      rw [compTurn_21]
      exact wpAny_bind (wpAny_standAt (wpAny_bind (wpAny_mono h (fun o s₁ h => wpAny_mono h (fun _ _ q => q) fun _ _ f => f.elim) fun _ _ f => f.elim)))) rfl (fun _ => rfl) HL.stable hgi
    (fun v r acc Φ s x hk c rx => body_list a hDw hk c rx) (fun acc Φ s k c => hR acc Φ s k c) hz h c hj

theorem loop_list2 {elt t1 i1 target iter : Expr} {scope : Scope} {pos : Pos} {K : List V → Prop} {items acc : List V} (hfs : ∀ x, foldedSetIterable iter cenv x = pure x) (h : compP2 g d cenv σ t1 iter target elt K items acc) :
    LoopOk g d cenv σ t1 (fun I D => .compLoop (cmp2 elt t1 i1 target iter scope pos) 0 (.ref I) (.ref D) cenv) (HL g) acc K items := fun {A I tg gi J fp D Φ₀ s₀ Φ s R} a W ht hDw hz hgi c hj hR =>
  comp_go (σ := σ) (H := HL g D) (Q := compP2 g d cenv σ t1 iter target elt K) (Φ₀ := Φ₀) (s₀ := s₀) W ht rfl
    (fun {P s} h => by
      show wpAny _ A ((compTurn (cmp2 elt t1 i1 target iter scope pos) 0 (.ref I) (.ref D) cenv).onRaise (fun x => do noteFrame x cenv; theTreesLotGoes x)) _ _ s
      refine wpAny_noted ?_
      rw [compTurn_20]
      exact wpAny_bind (wpAny_standAt (wpAny_bind (wpAny_mono h (fun o s₁ h => wpAny_mono h (fun _ _ q => q) fun _ _ f => f.elim) fun _ _ f => f.elim)))) rfl (fun _ => rfl) HL.stable hgi
    (fun v r acc Φ s x hk c rx => by
      refine wpAny_mono (hk A Φ s x a c.st rx) (fun _ s₃ ⟨Φ₃, σ₃, t₃, S₃, hsub, hk₃⟩ => ?_) fun _ _ f => f
      have c₃ := c.step HL.stable t₃ S₃ (fun b q => .inl q) (fun _ q => q.elim) (fun q => hDw (.inl q))
      refine wpAny_bind (wpAny_mono (hk₃ A Φ₃ s₃ a c₃.st.rd) (fun xv s₄ h₄ => wpAny_bind (wpAny_standAt ?_)) fun _ _ f => f)
      rw [hfs]
      refine wpAny_bind (wpAny_pure (wpAny_bind (wpAny_holding (wpAny_mono h₄ (fun it s₅ ⟨Φ₅, I₅, tg₅, fp₅, gi₅, J₅, items₅, e, x₅, W₅, ht₅, hj₅, hf₅, hg₅, hk₅⟩ => ?_) fun _ _ f => f))))
      subst e
      have c₅ := c₃.start.ev HL.stable x₅
      have loop : codeAny (model g.prog g.w) A (.compLoop (cmp2 elt t1 i1 target iter scope pos) 1 (.ref I₅) (.ref D) cenv)
          (fun rr s₆ => rr = .ok .next ∧ BodyP g cenv σ D (HL g D) (compP2 g d cenv σ t1 iter target elt K r) (.compLoop (cmp2 elt t1 i1 target iter scope pos) 0 (.ref I) (.ref D) cenv) Φ s (.again (.compLoop (cmp2 elt t1 i1 target iter scope pos) 0 (.ref I) (.ref D) cenv)) s₆) s₅ :=
        loop_in hk₅ a W₅ ht₅ hDw (fun b q => ⟨hf₅ b q, fun e => in_out (e ▸ c₃.dh) (hf₅ b q), fun w => in_out (c₃.st.inheap w) (hf₅ b q)⟩) hg₅ c₅ hj₅ fun acc₆ Φ₆ s₆ k₆ c₆ => ⟨rfl, Φ₆, acc₆, rfl, (c₃.after c₆).weak hsub, k₆⟩
      refine wpAny_bind (wpAny_runOwn (codeAny_mono (compStart_21 loop (wpAny_mono (W₅.self items₅ fp₅ Φ₅ s₅ c₅.st.toInv hj₅) (fun z s' ⟨e1, e2⟩ => by subst e1 e2; exact loop) fun _ _ f => f.elim)) fun rr s₆ ⟨e, h₆⟩ => ?_))
      subst e
      exact wpAny_pure h₆) (fun acc Φ s k c => hR acc Φ s k c) hz h c hj

theorem ev_comp2 {elt target iter t1 i1 : Expr} {scope : Scope} {pos : Pos} {cl : List (Str × Addr)} {K : V → Prop}
    (h : ItEv g d env σ t1 i1 fun items => ∀ C, compP2 g d (compEnvC scope cl C env) (capt σ cl) t1 iter target elt (fun r => K (.list r)) items [])
    (hclos : closureFor scope env = pure cl) (hcl : ClOk scope env cl) (hnd : (cl.map (·.1)).Nodup) (hcell : ∀ y ∈ scope.names, y.2 ≠ .cell) (hkind : scope.kind = .function)
    (hnames : ∀ y ∈ scope.names, y.2 = .local → scope.names.lookup y.1 = some .local)
    (hfs : ∀ C x, foldedSetIterable iter (compEnvC scope cl C env) x = pure x := by intro _ _; rfl) (hs : ∀ x, foldedSetIterable i1 env x = pure x := by intro _; rfl) : Ev g d env σ (.ListComp elt [⟨t1, i1, [], 0⟩, ⟨target, iter, [], 0⟩] scope pos) K :=
  ev_go (mkV := V.list) (compK_list rfl) (eval_ListComp ..) rfl (ItEv.mono h fun items k C => loop_list2 (hfs C) (k C)) hclos hcl hnd hcell hkind hnames hs
theorem ex_assign_comp2 {elt target iter t1 i1 : Expr} {scope : Scope} {pos spos py : Pos} {y : Str} {cl : List (Str × Addr)} {K : Fl → Sg → Prop}
    (h : ItEv g d env σ t1 i1 fun items => ∀ C, compP2 g d (compEnvC scope cl C env) (capt σ cl) t1 iter target elt (fun r => K .next ((y, .val (.list r)) :: σ)) items [])
    (hsw : swapsWith (.ListComp elt [⟨t1, i1, [], 0⟩, ⟨target, iter, [], 0⟩] scope pos) (some (.Name y py)) spos.line env = pure true)
    (hclos : closureFor scope env = pure cl) (hcl : ClOk scope env cl) (hnd : (cl.map (·.1)).Nodup) (hcell : ∀ y ∈ scope.names, y.2 ≠ .cell) (hkind : scope.kind = .function)
    (hnames : ∀ y ∈ scope.names, y.2 = .local → scope.names.lookup y.1 = some .local) (hy : isVar env y = true)
    (hfs : ∀ C x, foldedSetIterable iter (compEnvC scope cl C env) x = pure x := by intro _ _; rfl) (hs : ∀ x, foldedSetIterable i1 env x = pure x := by intro _; rfl) : Ex g d env σ (.Assign [.Name y py] (.ListComp elt [⟨t1, i1, [], 0⟩, ⟨target, iter, [], 0⟩] scope pos) spos) K :=
  ex_go (mkV := V.list) (compK_list rfl) rfl rfl hsw (ItEv.mono h fun items k C => loop_list2 (hfs C) (k C)) hclos hcl hnd hcell hkind hnames hy hs
end
end



section
theorem compTurn_dict (ke ve target iter : Expr) (scope : Scope) (pos : Pos) (it : Value) (D : Addr) (env : Env) :
    compTurn (.DictComp ke ve [⟨target, iter, [], 0⟩] scope pos) 0 it (.ref D) env = (do
      standAt iter.pos
      match ← pyNext it with
      | none => pure (.done .next)
      | some v =>
        letOwnedTupleGo target it v
        assign target env v
        (do
          let kv ← eval ke env
          let vv ← holding [kv] (eval ve env)
          standAt { ke.pos with endLine := ve.pos.endLine, endCol := ve.pos.endCol }
          holding [kv, vv] (dictSet D kv vv))
        again (.compLoop (.DictComp ke ve [⟨target, iter, [], 0⟩] scope pos) 0 it (.ref D) env)) := by rfl

/-- the turns of a dict comprehension -/
noncomputable def compPD (g : Gd) (d : Nat) (env : Env) (σ : Sg) (target ke ve : Expr) (K : List (Str × Int) → Prop) : List V → List (Str × Int) → Prop
  | [], acc => K acc
  | v :: r, acc => acc.length ≤ 1000 ∧ AsL g d env σ target v fun σ' => Sub σ σ' ∧ Ev g d env σ' ke fun ku => Ev g d env σ' ve fun vu => ∃ k j, ku = .str k ∧ vu = .int j ∧ compPD g d env σ target ke ve K r (dput acc k j)

-- a dict in the making
noncomputable def HD (g : Gd) (D : Addr) (acc : List (Str × Int)) (_ : FM) (s : Shared) : Prop := ∃ o kvs, s.heap.get? D = some o ∧ o.IsDictOf (PySem.strKind g.prog g.w) kvs ∧ IntVals acc kvs ∧ (D == sysModules) = false
section
variable {g : Gd} {d : Nat} {env cenv : Env} {σ : Sg} {D : Addr}
theorem HD.stable : Stable D (HD g D) := fun _ _ _ _ _ _ _ t hD ⟨o, kvs, ho, r⟩ => ⟨o, kvs, t.keep D _ ho hD, r⟩
theorem HD.real (D : Addr) (acc : List (Str × Int)) (Φ : FM) (s : Shared) (_ : Φ D = none) (h : HD g D acc Φ s) : ∃ o, s.heap.get? D = some o ∧ Real g (Φ.put D o) (.dict acc) (.ref D) :=
  let ⟨o, kvs, ho, hd, iv, hq⟩ := h
  ⟨o, ho, .dict (FM.put_self ..) hd iv hq⟩
theorem HD.new (D : Addr) (Φ : FM) (s : Shared) (hq : (D == sysModules) = false) (h : s.heap.get? D = some { cls := .type "dict", dict := none, data := .dict #[] }) : HD g D [] Φ s := by
  obtain ⟨o, ho, hd⟩ := Heap.dictOf_iff.mp (Heap.DictOf.new (knd := PySem.strKind g.prog g.w) s.heap)
  rw [Heap.get?_push_size _ rfl] at ho
  cases ho
  exact ⟨_, [], h, hd, .nil, hq⟩
theorem dict_new {A : Around} {P : Value → Shared → Prop} {s : Shared} (h : P (.ref s.heap.objs.size) { s with heap := s.heap.push { cls := .type "dict", dict := none, data := .dict #[] } }) : wpAny (model g.prog g.w) A newDict P bot s := wpAny_newObj_type h
theorem compK_dict {ke ve target iter : Expr} {scope : Scope} {pos : Pos} : CompK g (.DictComp ke ve [⟨target, iter, [], 0⟩] scope pos) newDict { cls := .type "dict", dict := none, data := .dict #[] } (HD g) [] V.dict where
  new := dict_new
  live := rfl
  start := codeAny_compStart_dict
  first := HD.new
  real := HD.real
  stable := fun D => HD.stable

theorem loop_dict {ke ve target iter : Expr} {scope : Scope} {pos : Pos} {K : List (Str × Int) → Prop} {items : List V} {acc : List (Str × Int)} (h : compPD g d cenv σ target ke ve K items acc) :
    LoopOk g d cenv σ target (fun I D => .compLoop (.DictComp ke ve [⟨target, iter, [], 0⟩] scope pos) 0 (.ref I) (.ref D) cenv) (HD g) acc K items := fun {A I tg gi J fp D Φ₀ s₀ Φ s R} a W ht hDw hz hgi c hj hR =>
  comp_go (σ := σ) (H := HD g D) (Q := compPD g d cenv σ target ke ve K) (Φ₀ := Φ₀) (s₀ := s₀) W ht rfl
    (fun {P s} h => by
      show wpAny _ A ((compTurn (.DictComp ke ve [⟨target, iter, [], 0⟩] scope pos) 0 (.ref I) (.ref D) cenv).onRaise (fun x => do noteFrame x cenv; theTreesLotGoes x)) _ _ s
      refine wpAny_noted ?_
      rw [compTurn_dict]
      exact wpAny_bind (wpAny_standAt (wpAny_bind (wpAny_mono h (fun o s₁ h => wpAny_mono h (fun _ _ q => q) fun _ _ f => f.elim) fun _ _ f => f.elim)))) rfl (fun _ => rfl) HD.stable hgi
    (fun v r acc Φ s x hk c rx => by
      refine wpAny_mono (hk.2 A Φ s x a c.st rx) (fun _ s₃ ⟨Φ₃, σ₃, t₃, S₃, hsub, hk₃⟩ => ?_) fun _ _ f => f
      have c₃ := c.step HD.stable t₃ S₃ (fun b q => .inl q) (fun _ q => q.elim) (fun q => hDw (.inl q))
      refine wpAny_bind (wpAny_bind (wpAny_mono (hk₃ A Φ₃ s₃ a c₃.st.rd : Wp ..) (fun kx s₄ ⟨Φ₄, ku, e₄, r₄, k₄⟩ => ?_) fun _ _ f => f))
      have c₄ := c₃.ev HD.stable e₄
      refine wpAny_bind (wpAny_holding (wpAny_mono (k₄ A Φ₄ s₄ a c₄.st.rd : Wp ..) (fun vx s₅ ⟨Φ₅, vu, e₅, r₅, k, jj, hku, hvu, k₅⟩ => ?_) fun _ _ f => f))
      subst hku hvu
      obtain ⟨tk, rfl⟩ := real_str r₄
      obtain ⟨tj, rfl⟩ := real_int r₅
      have c₅ := c₄.ev HD.stable e₅
      obtain ⟨o, kvs, ho, hdo, iv, hq⟩ := c₅.here
      refine wpAny_bind (wpAny_standAt (wpAny_holding (wpAny_dictSet_pairs (knd := PySem.strKind g.prog g.w) (isStr k tk) (Heap.dictOf_iff.mpr ⟨o, ho, hdo⟩) (fun h' hd' hs' => ?_) (by rw [iv.length]; exact Nat.le_trans hk.1 (Nat.le_of_ble_eq_true rfl)))))
      obtain ⟨o', ho', hdo'⟩ := Heap.dictOf_iff.mp hd'
      have t₆ : Tr (fun b => b = D) no1 Φ₅ s₅ Φ₅ { s₅ with heap := h', toks := s₅.toks + 1 } := Tr.keeps c₅.st.toInv (fun b o q e => (hs'.2 b q).trans e) (fun b q => by rw [q]; exact c₅.df) _
      exact wpAny_pure ⟨Φ₅, _, rfl, ⟨(c₅.st.tr t₆ fun b hb q => hDw (q ▸ hb)).weak hsub, c₅.tr.trans t₆ (fun b q => .inl (.inl q)) (fun _ q => q.elim), c₅.df, in_some ho', o', _, ho', hdo', iv.put k jj tj, hq⟩, k₅⟩) (fun acc Φ s k c => hR acc Φ s k c) hz h c hj

theorem ev_compD {ke ve target iter : Expr} {scope : Scope} {pos : Pos} {cl : List (Str × Addr)} {K : V → Prop}
    (h : ItEv g d env σ target iter fun items => ∀ C, compPD g d (compEnvC scope cl C env) (capt σ cl) target ke ve (fun r => K (.dict r)) items [])
    (hclos : closureFor scope env = pure cl) (hcl : ClOk scope env cl) (hnd : (cl.map (·.1)).Nodup) (hcell : ∀ y ∈ scope.names, y.2 ≠ .cell) (hkind : scope.kind = .function)
    (hnames : ∀ y ∈ scope.names, y.2 = .local → scope.names.lookup y.1 = some .local)
    (hs : ∀ x, foldedSetIterable iter env x = pure x := by intro _; rfl) : Ev g d env σ (.DictComp ke ve [⟨target, iter, [], 0⟩] scope pos) K :=
  ev_go (mkV := V.dict) compK_dict (arm_eval_DictComp ..) rfl (ItEv.mono h fun items k C => loop_dict (k C)) hclos hcl hnd hcell hkind hnames hs
end
end


section
section
variable {g : Gd} {d : Nat} {K : V → Prop}
theorem sl_given {a : Addr} {xs : List Value} {ns : List Int} {lo hi : Option Int} (hl : g.hB.IsList a xs.toArray) (hi' : IntsAre xs ns) (hs : ns.length ≤ sizeLine) (h : K (.list ((cutL ns lo hi).map V.int))) : SlOk g d (.glob (.ref a)) lo hi none K := fun A Φ s v a' vl vu vs ok i r hsl pl pu ps => by
  refine r.onG ?_
  obtain ⟨o, ho, hc, n, hd⟩ := hl
  have hl : s.heap.IsList a xs.toArray := ⟨o, i.base _ _ ho, hc, n, hd⟩
  have rr : Reals g Φ (ns.map V.int) xs := reals_ints hi'
  have hlen : xs.length = ns.length := by simpa using rr.length
  refine ⟨"list", _, hl.typeIs, list_getitem_lookup, ?_⟩
  refine wpAny_getItem_list_slice hl hsl pl pu ps (by cases ps; simp) ?_ (by rw [List.size_toArray, hlen]; exact hs)
  rw [slicePick_plain]
  have e := Ext.push i (lstO (cutL xs lo hi) 0) rfl s.toks
  rw [← cutL_map] at h
  exact ⟨_, _, e, .list (xs := cutL xs lo hi) (n := 0) (FM.put_self ..) ((reals_cut rr lo hi).mono e.mono), h⟩
end
end

section
section
variable {g : Gd} {d : Nat} {K : V → Prop}
theorem sub_str {slice} {x : Str} {k : Int} {c : Nat} (hb : -(2 ^ 63) ≤ k ∧ k < 2 ^ 63) (hv : (seqIndex? k x.length).bind (x.cps[·]?) = some c) (h : K (.str ⟨#[c]⟩)) : SubOk g d slice (.str x) (.int k) K := fun A Φ s x y value ok i r₁ r₂ => by
  refine r₂.onI fun _ => ?_
  refine r₁.onS fun _ => ?_
  refine tail_of (T := "str") (typeIs_str _ _ _) PySem.F.slot_str_getitem.lookup ?_
  exact P.getItem_str (by simp; lia) hv (kv (.tok i _) (.str _ _) h)
end
end

section
open StrLaws
theorem fromIndex_nat (n k : Nat) : fromIndex n (k : Int) = k := by
  show (max 0 (if (k : Int) < 0 then (k : Int) + n else k)).toNat = k
  rw [if_neg (by lia)]
  lia
theorem findIn_cases (t w : Str) {s e : Nat} (he : e ≤ t.length) : (findIn t w s e = -1 ∧ ∀ j, s ≤ j → j + w.length ≤ e → subAt t w j = false) ∨ ∃ k : Nat, findIn t w s e = k ∧ s ≤ k ∧ k + w.length ≤ e ∧ subAt t w k = true ∧ ∀ j, s ≤ j → j < k → subAt t w j = false := by
  unfold findIn
  rw [fromIndex_nat, fromIndex_nat, Nat.min_eq_left he, occ_eq]
  rcases occ_first t w e 1 (Nat.le_refl _) (List.range' s (e + 1 - s)) s (fun i hi => (List.mem_range'_1.mp hi).1) with ⟨h0, hn⟩ | ⟨pre, a, post, e', h0, ha, hn⟩
  · left
    rw [h0]
    refine ⟨rfl, fun j h1 h2 => ?_⟩
    have := hn j (List.mem_range'_1.mpr ⟨h1, by omega⟩)
    cases q : subAt t w j with
    | false => rfl
    | true => exact absurd ⟨h2, q⟩ this
  · right
    have hmem : a ∈ List.range' s (e + 1 - s) := by rw [e']; simp
    generalize (forIn (List.range' s (e + 1 - s)) ((#[] : Array Nat), s) (occBody t w e 1)).run.fst = arr at h0
    have h1 : arr.toList[0]? = some a := by simpa using h0
    cases hL : arr.toList with
    | nil => rw [hL] at h1; cases h1
    | cons b r =>
      rw [hL] at h1
      have : b = a := by simpa using h1
      subst this
      refine ⟨b, rfl, (List.mem_range'_1.mp hmem).1, ha.1, ha.2, fun j h2 h3 => ?_⟩
      have hj : j ∈ pre := by
        have hs : List.range' s (e + 1 - s) = List.map (s + ·) (List.range (e + 1 - s)) := List.range'_eq_map_range ..
        have hlen : (List.range' s (e + 1 - s))[j - s]? = some j := by
          rw [List.getElem?_range' (by have := ha.1; lia)]
          congr 1; lia
        have hb : (List.range' s (e + 1 - s))[pre.length]? = some b := by rw [e']; simp
        have hpl : pre.length < e + 1 - s := by
          have := congrArg List.length e'
          simp at this; exact le1 (c3 _ _ _) (.a (.v 1) (.a (.v 2) (.n 1))) (.v 0) (.a (.v 1) (.n 1)) (.v 0) (Nat.le_of_eq this.symm)
        rw [List.getElem?_range' hpl] at hb
        have hb : s + 1 * pre.length = b := by simpa using hb
        rw [e', List.getElem?_append_left (by lia)] at hlen
        exact List.mem_of_getElem? hlen
      have := hn j hj
      cases q : subAt t w j with
      | false => rfl
      | true => exact absurd ⟨by have := ha.1; exact le2 (c4 _ _ _ _) (.a (.v 0) (.n 1)) (.v 1) (.a (.v 1) (.v 2)) (.v 3) (.a (.v 0) (.v 2)) (.v 3) h3 this, q⟩ this
theorem findIn_some {t w : Str} {s e k : Nat} (hsk : s ≤ k) (hke : k + w.length ≤ e) (he : e ≤ t.length) (hat : subAt t w k = true) (hno : ∀ j, s ≤ j → j < k → subAt t w j = false) : findIn t w s e = k := by
  rcases findIn_cases t w (s := s) he with ⟨_, h⟩ | ⟨k', h, h1, h2, h3, h4⟩
  · rw [h k hsk hke] at hat; cases hat
  · rcases Nat.lt_trichotomy k k' with q | q | q
    · rw [h4 k hsk q] at hat; cases hat
    · rw [h, q]
    · rw [hno k' h1 q] at h3; cases h3
theorem findIn_none {t w : Str} {s e : Nat} (he : e ≤ t.length) (hno : ∀ j, s ≤ j → j + w.length ≤ e → subAt t w j = false) : findIn t w s e = -1 := by
  rcases findIn_cases t w (s := s) he with ⟨h, _⟩ | ⟨k', h, h1, h2, h3, h4⟩
  · exact h
  · rw [hno k' h1 h2] at h3; cases h3
end

section
noncomputable abbrev lawE (nm qn : Str) (doc pm cd : Value) (L : Addr) : Env := callEnvC (fnD (stm 21) nm qn doc pm cd) L 146
/-- the law's body from its j-th statement on -/
noncomputable def lawD (j : Nat) : List Stmt := (bodyS (stm 21)).drop j
noncomputable def enI (k : Nat) : List Int → List V
  | [] => []
  | n :: r => .tup [.int k, .int n] :: enI (k + 1) r
theorem enumV_int : ∀ (l : List Int), enumV (l.map V.int) = enI 0 l := by
  have key : ∀ (l : List Int) (k : Nat), ((l.map V.int).zipIdx k).map (fun p => V.tup [.int p.2, p.1]) = enI k l := by
    intro l
    induction l with
    | nil => intro k; rfl
    | cons n r ih => intro k; simp only [List.map_cons, List.zipIdx_cons, enI, ih]
  intro l; exact key l 0
theorem mem_set {α : Type} {l : List α} {j : Nat} {v x : α} (h : x ∈ l.set j v) : x ∈ l ∨ x = v := List.mem_or_eq_of_mem_set h
theorem ixV_mapN {α : Type} (F : α → V) (l : List α) (x0 : α) (k : Nat) (h1 : k < l.length) : ixV (l.map F) (k : Int) = some (F (l.getD k x0)) := by
  have := ixV_map F l x0 (k : Int) (by lia) (by omega)
  simpa using this
theorem upto_eq (n : Nat) : upto n = (List.range n).map fun i : Nat => V.int i := by unfold upto; simp
noncomputable def hiddenL : List Str := ["", "\\)", "\"(\"", "\\(", "\\\"", "\\\\", "\"\\\"(\"", ""]
noncomputable def letS (k : Nat) : Str := ⟨#[97 + k]⟩
noncomputable def nmS (ds : List Int) (k : Nat) : Str := letS k ++ hiddenL.getD (ds.getD k 0 / 4 % 8).toNat ""
noncomputable def nmsS (ds : List Int) : List Str := (List.range 4).map (nmS ds)
theorem abcd_at (k : Nat) (h : k < 4) : (seqIndex? (k : Int) ("abcd" : Str).length).bind (("abcd" : Str).cps[·]?) = some (97 + k) := by
  rcases k with _ | _ | _ | _ | k <;> first | rfl | lia
theorem hiddenL_len : ∀ x ∈ hiddenL, x.length ≤ 5 := by decide
theorem getD_mem {α : Type} {l : List α} {i : Nat} {a : α} (h : i < l.length) : l.getD i a ∈ l := by
  rw [List.getD_eq_getElem?_getD, List.getElem?_eq_getElem h]
  exact List.getElem_mem h
noncomputable def told3 (p : Fn3) : Prop := p.1.length ≤ 1000 ∧ p.2.2.length ≤ 1000 ∧ 0 ≤ p.2.1 ∧ p.2.1 < 1000
noncomputable def fss3 (p : Fn3) : Str := fssS p.1 p.2.1 p.2.2
noncomputable def lnsS (texts : List Str) : List Str := texts.map (· ++ "\n")

noncomputable def lawS (j : Nat) : Stmt := (bodyS (stm 21)).getD j (.Pass ⟨0, 0, 0, 0⟩)
theorem law_len : (bodyS (stm 21)).length = 31 := by rfl
theorem lawD_cons {j : Nat} (h : j < 31) : lawD j = lawS j :: lawD (j + 1) := by
  unfold lawD lawS
  have h' : j < (bodyS (stm 21)).length := by rw [law_len]; exact h
  rw [List.drop_eq_getElem_cons h', List.getD_eq_getElem?_getD, List.getElem?_eq_getElem h']
  rfl
theorem exs_law {g : Gd} {d : Nat} {env : Env} {σ : Sg} {K : Fl → Sg → Prop} (j : Nat) (hj : j < 31) (h : Ex g d env σ (lawS j) (seqK g d env (lawD (j + 1)) K)) : Exs g d env σ (lawD j) K := by
  rw [lawD_cons hj]; exact exs_cons h

/-- the law's rest from a state on; a structure, so that no elaborator unfolds it -/
structure X (g : Gd) (d : Nat) (env : Env) (σ : Sg) (ss : List Stmt) (K : Fl → Sg → Prop) : Prop where
  x : Exs g d env σ ss K
section
variable {g : Gd} {d : Nat} {env : Env} {σ : Sg} {K : Fl → Sg → Prop}
theorem seq_x {rest σ'} (hs : Sub σ' σ) (h : X g d env σ' rest K) : seqK g d env rest K .next σ := exs_weak h.x hs
theorem x_weak {rest σ'} (hs : Sub σ' σ) (h : X g d env σ' rest K) : X g d env σ rest K := ⟨exs_weak h.x hs⟩
theorem x_freeze {ss x l} (hl : σ.lookup x = some (.own l)) (h : X g d env ((x, .val (.list l)) :: σ) ss K) : X g d env σ ss K := ⟨exs_freeze hl h.x⟩
theorem x_st (j : Nat) {st : Stmt} (hj : j < 31) (hst : lawS j = st) (h : Ex g d env σ st (seqK g d env (lawD (j + 1)) K)) : X g d env σ (lawD j) K := ⟨exs_law j hj (hst ▸ h)⟩
theorem x_assign (j : Nat) {x p value pos} (hst : lawS j = .Assign [.Name x p] value pos) (hj : j < 31) (h : Ev g d env σ value fun v => X g d env ((x, .val v) :: σ) (lawD (j + 1)) K) (hx : isVar env x = true) (hs : swapsWith value (some (.Name x p)) pos.line env = pure false := by rfl) : X g d env σ (lawD j) K :=
  x_st j hj hst (ex_assign (h.mono fun _ k => k.x) hx hs)
theorem EvN.mono {e} {K K' : Slot → Prop} (h : EvN g d env σ e K) (hk : ∀ v, K v → K' v) : EvN g d env σ e K' := fun A Φ s a R => wpAny_mono (h A Φ s a R) (fun _ _ ⟨Φ', sl, e, r, n, k⟩ => ⟨Φ', sl, e, r, n, hk _ k⟩) fun _ _ f => f
theorem x_assignN (j : Nat) {x p value pos} (hst : lawS j = .Assign [.Name x p] value pos) (hj : j < 31) (h : EvN g d env σ value fun sl => X g d env ((x, sl) :: σ) (lawD (j + 1)) K) (hx : isVar env x = true) (hs : swapsWith value (some (.Name x p)) pos.line env = pure false := by rfl) : X g d env σ (lawD j) K :=
  x_st j hj hst (ex_assignN (h.mono fun _ k => k.x) hx hs)
theorem x_for (j : Nat) {target iter body pos} (hst : lawS j = .For target iter body [] pos) (hj : j < 31) (h : ItEv g d env σ target iter fun items => loopP g d env target body (seqK g d env (lawD (j + 1)) K) items σ) (hs : ∀ x, foldedSetIterable iter env x = pure x := by intro _; rfl) : X g d env σ (lawD j) K :=
  x_st j hj hst (ex_for h hs)
theorem As.mono {t v} {K K' : Sg → Prop} (h : As g d env σ t v K) (hk : ∀ σ', K σ' → K' σ') : As g d env σ t v K' := fun A Φ s O x a S r => wpAny_mono (h A Φ s O x a S r) (fun _ _ ⟨Φ', σ', tr, S', k⟩ => ⟨Φ', σ', tr, S', hk _ k⟩) fun _ _ f => f
theorem x_unpack (j : Nat) {elts k tpos value pos} (hst : lawS j = .Assign [.Tuple elts k tpos] value pos) (hj : j < 31) (h : Ev g d env σ value fun v => As g d env σ (.Tuple elts k tpos) v fun σ' => X g d env σ' (lawD (j + 1)) K)
    (hs : swapsWithSole [.Tuple elts k tpos] value pos.line env = pure false := by rfl) (hw : swappedStores [.Tuple elts k tpos] value env = pure none := by rfl) : X g d env σ (lawD j) K :=
  x_st j hj hst (ex_unpack (h.mono fun _ k => k.mono fun _ k => k.x) hs hw)
/-- an if that is not taken -/
theorem x_if_not (j : Nat) {t b pos} (hst : lawS j = .If t b [] pos) (hj : j < 31) (h : Ts g d env σ t fun c => c = false ∧ X g d env σ (lawD (j + 1)) K) : X g d env σ (lawD j) K :=
  by
  refine x_st j hj hst (ex_if ?_)
  refine Ts.mono h fun c k => ⟨fun e' => ?_, fun _ => exs_nil ?_⟩
  · rw [k.1] at e'; cases e'
  · exact k.2.x
theorem x_assign_comp (j : Nat) {elt target iter : Expr} {ifs : List Expr} {scope : Scope} {pos spos py : Pos} {y : Str} {cl : List (Str × Addr)} (hst : lawS j = .Assign [.Name y py] (.ListComp elt [⟨target, iter, ifs, 0⟩] scope pos) spos) (hj : j < 31)
    (h : ItEv g d env σ target iter fun items => ∀ C, compP g d (compEnvC scope cl C env) (capt σ cl) target ifs elt (fun r => X g d env ((y, .val (.list r)) :: σ) (lawD (j + 1)) K) items [])
    (hsw : swapsWith (.ListComp elt [⟨target, iter, ifs, 0⟩] scope pos) (some (.Name y py)) spos.line env = pure true)
    (hclos : closureFor scope env = pure cl) (hcl : ClOk scope env cl) (hnd : (cl.map (·.1)).Nodup) (hcell : ∀ y ∈ scope.names, y.2 ≠ .cell) (hkind : scope.kind = .function)
    (hnames : ∀ y ∈ scope.names, y.2 = .local → scope.names.lookup y.1 = some .local) (hy : isVar env y = true)
    (hs : ∀ x, foldedSetIterable iter env x = pure x := by intro _; rfl) : X g d env σ (lawD j) K :=
  x_st j hj hst (ex_assign_comp (h.mono fun items k C => compP.mono (fun _ k => k.x) _ _ (k C)) hsw hclos hcl hnd hcell hkind hnames hy hs)
theorem x_return (j : Nat) {e pos} (hst : lawS j = .Return (some e) pos) (hj : j < 31) (h : Ev g d env σ e fun v => K (.ret v) σ) : X g d env σ (lawD j) K := x_st j hj hst (ex_return h)
end
end

section
theorem ten6 : (10 : Int) ^ (6 : Int).toNat = 1000000 := by decide
theorem bin_ten6 {g : Gd} {d : Nat} {K : V → Prop} (h : K (.int 1000000)) : BinOk g d .Pow (.int 10) (.int 6) K :=
  bin_pow (by decide) (by decide) (by decide) (by decide) (by rw [ten6]; exact h)
section
variable {g : Gd} {d : Nat} {nm qn : Str} {doc pm cd : Value} {L : Addr} {K : Fl → Sg → Prop}
inductive DrwI  (items : List V) (σ : Sg) : Prop
  | mk (r : List Int) (k : Nat) (ds : List Int) : items = enI k r → Sub [("draws", .own (ds.map V.int))] σ → ds.length = 6 → (∀ x ∈ ds, 0 ≤ x) → DrwI items σ
theorem segA {a : Addr} {xs : List Value} {ns : List Int} (lb : Lb g) (hl : g.hB.IsList a xs.toArray) (hi : IntsAre xs ns) (hs : ns.length ≤ 63)
    (h : ∀ ds : List Int, ds.length = 6 → (∀ x ∈ ds, 0 ≤ x) → X g (d + 8) (lawE nm qn doc pm cd L) [("draws", .val (.list (ds.map V.int)))] (lawD 2) K) :
    X g (d + 8) (lawE nm qn doc pm cd L) [("script", .val (.glob (.ref a)))] (lawD 0) K := by
  have hszl : sizeLine = 2 ^ 24 := rfl
  refine x_assignN 0 rfl (by decide) ?_ (by rfl) (by rfl)
  refine evn_list ?_
  repeat (walk_at "mine")
  refine ⟨by decide, ?_⟩
  refine x_for 1 rfl (by decide) ?_
  refine it_call ?_
  walk_at "mine"
  refine ⟨_, rfl, Callee.type _, ?_⟩
  repeat (first | walk_at "mine" | refine ⟨_, rfl, ?_⟩ | refine sl_given hl hi (by exact le1 (c1 _) (.v 0) (.n 63) (.v 0) (.n 16777216) hs) ?_)
  refine call_enum ?_
  rw [enumV_int]
  generalize cutL ns none (some 60) = r0
  refine loop_inv DrwI ?_ ?_ _ _ ⟨r0, 0, [98, 37, 74, 16, 5270, 324], rfl, sub_cons (by rfl) sub_nil, rfl, by decide⟩
  · clear h hl hs hi
    rintro v r σ ⟨es, k, ds, hi, hs, hl, h0⟩
    cases es with
    | nil => cases hi
    | cons e es =>
      simp only [enI, List.cons.injEq] at hi
      obtain ⟨rfl, rfl⟩ := hi
      refine as_tup (xs := ["place", "x"]) ?_ (by rfl) (by rfl) rfl
      refine (exs_weakS (sub_push (sub_push hs)) : Exs _ _ _ _ _ _ → Exs _ _ _ _ _ _) ?_
      refine exs_cons ?_
      refine ex_aug_list (l := ds.map V.int) (by rfl) (by simp; exact le1 (c1 _) (.v 0) (.n 6) (.v 0) (.n 1000) (Nat.le_of_eq hl)) ?_
      repeat (walk_at "mine")
      have hk : k % 6 < ds.length := by lia
      refine ⟨k % 6, .int (ds[k % 6]'hk), by simp, by simp [hk], ?_⟩
      repeat (walk_at "mine")
      refine bin_ten6 ?_
      refine bin_modn (by decide) ?_
      repeat (walk_at "mine")
      refine ⟨_, Sub.refl _, es, k + 1, ds.set (k % 6) (ds[k % 6]'hk + e % 1000000), rfl, sub_cons ?_ sub_nil, by simpa using hl, fun x hx => ?_⟩
      · rw [List.map_set]; rfl
      · rcases mem_set hx with q | q
        · exact h0 x q
        · have := h0 _ (List.getElem_mem hk)
          have h2 : 0 ≤ e % 1000000 := Int.emod_nonneg _ (by decide)
          lia
  · rintro σ ⟨es, k, ds, hi, hs, hl, h0⟩
    cases es with
    | cons p ps => cases hi
    | nil =>
      refine seq_x hs ?_
      refine x_freeze (x := "draws") (l := ds.map V.int) (by rfl) ?_
      exact x_weak (sub_cons (by rfl) sub_nil) (h ds hl h0)
end
end

section
section
variable {g : Gd} {d : Nat} {nm qn : Str} {doc pm cd : Value} {L : Addr} {K : Fl → Sg → Prop}
theorem segB {ds : List Int} (lb : Lb g) (hd : ds.length = 6) 
    (h : X g (d + 8) (lawE nm qn doc pm cd L) [("names", .val (.list ((nmsS ds).map V.str))), ("draws", .val (.list (ds.map V.int)))] (lawD 4) K) :
    X g (d + 8) (lawE nm qn doc pm cd L) [("draws", .val (.list (ds.map V.int)))] (lawD 2) K := by
  have hszl : sizeLine = 2 ^ 24 := rfl
  refine x_assign 2 rfl (by decide) ?_ (by rfl)
  repeat (walk_at "mine")
  refine ⟨by decide, ?_⟩
  first
  | refine x_assign_comp 3 (cl := ?_) rfl (by decide) ?_ (by rfl) (by rfl) ?_ ?_ ?_ ?_ ?_ (by rfl)
  | (refine x_assign 3 rfl (by decide) ?_ (by rfl); refine ev_comp (cl := ?_) ?_ (by rfl) ?_ ?_ ?_ ?_ ?_)
  rotate_left
  · exact ⟨rfl, .inl rfl, .inl rfl, rfl, .inl rfl, .inl rfl, trivial⟩
  · show (["hidden", "draws"] : List Str).Nodup
    decide
  · decide
  · rfl
  · decide
  refine it_call ?_
  walk_at "mine"
  refine ⟨_, rfl, Callee.type _, ?_⟩
  repeat (walk_at "mine")
  refine call_range1 (by decide) ?_
  intro C
  rw [show upto 4 = (List.range 4).map fun i : Nat => V.int i from upto_eq 4]
  refine compP_map (fun i : Nat => V.int i) (fun k => V.str (nmS ds k)) (List.range 4) (by decide) (fun k hk => ?_) ?_
  · have hk : k < 4 := List.mem_range.mp hk
    refine asl_name ⟨sub_bind (by rfl), ?_⟩ (by rfl)
    have h0 : 0 ≤ ds.getD k 0 / 4 % 8 := Int.emod_nonneg _ (by decide)
    have h1 : ds.getD k 0 / 4 % 8 < 8 := Int.emod_lt_of_pos _ (by decide)
    repeat (walk_at "mine")
    refine sub_str (by lia) (abcd_at k hk) ?_
    refine ev_sub ?_
    refine ev_var (v := .list (hiddenL.map V.str)) (by rfl) ?_
    repeat (walk_at "mine")
    refine sub_list (v := .int (ds.getD k 0)) (by omega) (ixV_mapN V.int ds 0 k (by exact le2 (c2 _ _) (.n 6) (.v 0) (.a (.v 1) (.n 1)) (.n 4) (.a (.v 1) (.n 1)) (.v 0) (Nat.le_of_eq hd.symm) hk)) ?_
    repeat (walk_at "mine")
    refine sub_list (v := .str (hiddenL.getD (ds.getD k 0 / 4 % 8).toNat "")) (by lia) (ixV_map V.str hiddenL "" _ h0 h1) ?_
    have hm := hiddenL_len _ (getD_mem (l := hiddenL) (i := (ds.getD k 0 / 4 % 8).toNat) (a := "") (by show _ < 8; lia))
    refine bin_add_s ?_ rfl
    have : (letS k).length = 1 := rfl
    show (letS k).length + _ ≤ _
    exact le2 (c2 _ _) (.v 0) (.n 5) (.v 1) (.n 1) (.a (.v 1) (.v 0)) (.n 16777216) hm (Nat.le_of_eq this)
  · exact x_weak (sub_cons (by rfl) (sub_cons (by rfl) sub_nil)) h
end
end

section
section
variable {g : Gd} {d : Nat} {nm qn : Str} {doc pm cd : Value} {L : Addr} {K : Fl → Sg → Prop}
theorem segC {ds : List Int} {names texts : List Str} (lb : Lb g) (hd : ds.length = 6) (hn : names.length = 4) (hnl : ∀ n ∈ names, n.length ≤ 80)
    (htx : texts = dueS (ds.getD 4 0) 0 names) (htl : ∀ t ∈ texts, t.length ≤ 90)
    (htold : ∀ p ∈ toldS (ds.getD 4 0) 0 names, told3 p) (hfs : (toldS (ds.getD 4 0) 0 names).map fss3 = texts) (hdots : dotsS ((lnsS texts).getD 0 "") ((lnsS texts).getD 1 "") = true)
    (h : X g (d + 8) (lawE nm qn doc pm cd L) [("lines", .val (.list ((lnsS texts).map V.str))), ("texts", .val (.list (texts.map V.str))), ("draws", .val (.list (ds.map V.int)))] (lawD 7) K) :
    X g (d + 8) (lawE nm qn doc pm cd L) [("names", .val (.list (names.map V.str))), ("draws", .val (.list (ds.map V.int)))] (lawD 4) K := by
  have hszl : sizeLine = 2 ^ 24 := rfl
  have htn : texts.length = 4 := by rw [htx, dueS_len, hn]
  have hfn := lb.fns.1
  have hdt := lb.dots.1
  have hfs0 := lb.fss.1
  refine x_unpack 4 rfl (by decide) ?_
  repeat (first | walk_at "mine" | refine ⟨_, rfl, lb.fns.callee, ?_⟩)
  refine sub_list (v := .int (ds.getD 4 0)) (by decide) (ixV_mapN V.int ds 0 4 (by exact le1 (c1 _) (.n 6) (.v 0) (.a (.n 4) (.n 1)) (.v 0) (Nat.le_of_eq hd.symm))) ?_
  repeat (walk_at "mine")
  refine fns_ok lb (by exact le1 (c1 _) (.v 0) (.n 4) (.v 0) (.n 4) (Nat.le_of_eq hn)) hnl ?_
  rw [← htx]
  refine as_tup (xs := ["told", "texts"]) ?_ (by rfl) (by rfl) rfl
  first
  | refine x_assign_comp 5 (cl := []) rfl (by decide) ?_ (by rfl) (by rfl) trivial .nil (by decide) rfl (by decide) (by rfl)
  | (refine x_assign 5 rfl (by decide) ?_ (by rfl); refine ev_comp (cl := []) ?_ (by rfl) trivial .nil (by decide) rfl (by decide))
  refine it_of ?_
  refine ev_var (v := .list (texts.map V.str)) (by rfl) ?_
  refine itv_list ?_
  intro C
  refine compP_map V.str (fun t => V.str (t ++ "\n")) texts (by exact le1 (c1 _) (.v 0) (.n 4) (.v 0) (.n 16777216) (Nat.le_of_eq htn)) (fun t ht => ?_) ?_
  · have := htl t ht
    refine asl_name ⟨sub_nil, ?_⟩ (by rfl)
    repeat (walk_at "str")
    rfl
  refine x_weak (σ' := [("lines", .val (.list ((lnsS texts).map V.str))), ("told", .val (.list ((toldS (ds.getD 4 0) 0 names).map fnV))), ("texts", .val (.list (texts.map V.str))), ("draws", .val (.list (ds.map V.int)))]) (sub_cons ?_ (sub_cons (by rfl) (sub_cons (by rfl) (sub_cons (by rfl) sub_nil)))) ?_
  · unfold lnsS
    rw [List.map_map]; rfl
  have hll : ∀ i, i < 4 → ((lnsS texts).getD i "").length ≤ 100 := fun i hi => by
    have hm : (lnsS texts).getD i "" ∈ lnsS texts := getD_mem (by simp [lnsS]; exact le2 (c2 _ _) (.n 4) (.v 0) (.a (.v 1) (.n 1)) (.n 4) (.a (.v 1) (.n 1)) (.v 0) (Nat.le_of_eq htn.symm) hi)
    obtain ⟨t, ht, he⟩ := List.mem_map.mp hm
    have := htl t ht
    rw [← he, Str.length_append]
    have : (Str.ofString "\n").length = 1 := rfl
    exact le2 (c2 _ _) (.v 0) (.n 90) (.v 1) (.n 1) (.a (.v 0) (.v 1)) (.n 100) (by assumption) (Nat.le_of_eq this)
  refine x_if_not 6 rfl (by decide) ?_
  refine ts_or ?_
  refine ts_cmp ?_
  refine ev_comp (cl := []) ?_ (by rfl) trivial .nil (by decide) rfl (by decide)
  refine it_of ?_
  refine ev_var (v := .list ((toldS (ds.getD 4 0) 0 names).map fnV)) (by rfl) ?_
  refine itv_list ?_
  intro C
  refine compP_map fnV (fun p => V.str (fss3 p)) (toldS (ds.getD 4 0) 0 names) (by rw [toldS_len]; exact le1 (c1 _) (.v 0) (.n 4) (.v 0) (.n 16777216) (Nat.le_of_eq hn)) (fun p hp => ?_) ?_
  · obtain ⟨h1, h2, h3, h4⟩ := htold p hp
    refine asl_name ⟨sub_nil, ?_⟩ (by rfl)
    walk_at "mine"
    walk_at "mine"
    refine ⟨_, rfl, lb.fss.callee, ?_⟩
    walk_at "mine"
    refine ev_var (v := fnV p) (by rfl) ?_
    walk_at "mine"
    exact fss_ok lb h1 h2 h3 h4 rfl
  rw [show ((toldS (ds.getD 4 0) 0 names).map fun p => V.str (fss3 p)) = texts.map V.str by rw [← hfs, List.map_map]; rfl]
  refine ev_var (v := .list (texts.map V.str)) (by rfl) ?_
  refine cmp_ne_l repStr ?_
  refine true_b ?_
  refine ⟨fun e => by simp at e, fun _ => ?_⟩
  refine ts_or ?_
  refine ts_not ?_
  refine ts_of ?_
  walk_at "mine"
  walk_at "mine"
  refine ⟨_, rfl, lb.dots.callee, ?_⟩
  have hl0 : 0 < (lnsS texts).length := by simp [lnsS]; exact le1 (c1 _) (.n 4) (.v 0) (.a (.n 0) (.n 1)) (.v 0) (Nat.le_of_eq htn.symm)
  have hl1 : 1 < (lnsS texts).length := by simp [lnsS]; exact le1 (c1 _) (.n 4) (.v 0) (.a (.n 1) (.n 1)) (.v 0) (Nat.le_of_eq htn.symm)
  refine evs_cons ?_
  refine ev_sub ?_
  refine ev_var (v := .list ((lnsS texts).map V.str)) (by rfl) ?_
  walk_at "mine"
  refine sub_list (by decide) (ixV_mapN V.str (lnsS texts) "" 0 hl0) ?_
  refine evs_cons ?_
  refine ev_sub ?_
  refine ev_var (v := .list ((lnsS texts).map V.str)) (by rfl) ?_
  walk_at "mine"
  refine sub_list (by decide) (ixV_mapN V.str (lnsS texts) "" 1 hl1) ?_
  walk_at "mine"
  refine dots_ok lb (hll 0 (by exact le0 (c1 0) (.a (.n 0) (.n 1)) (.n 4))) (hll 1 (by exact le0 (c1 0) (.a (.n 1) (.n 1)) (.n 4))) ?_
  rw [hdots]
  refine true_b ?_
  refine ⟨fun e => by simp at e, fun _ => ?_⟩
  refine ts_or_nil ?_
  refine ⟨rfl, ?_⟩
  exact x_weak (sub_cons (by rfl) (sub_cons (by rfl) (sub_cons (by rfl) sub_nil))) h
end
end

section
section
variable {g : Gd} {d : Nat} {nm qn : Str} {doc pm cd : Value} {L : Addr} {K : Fl → Sg → Prop}
theorem segD {ds : List Int} {lines texts : List V} (lb : Lb g) (hd : ds.length = 6) 
    (h : ∀ front back : Str, (front = "top\n" ∧ back = "tip\n") ∨ (front = "" ∧ back = "") →
      X g (d + 8) (lawE nm qn doc pm cd L) [("front", .val (.str front)), ("back", .val (.str back)), ("lines", .val (.list lines)), ("texts", .val (.list texts)), ("draws", .val (.list (ds.map V.int)))] (lawD 8) K) :
    X g (d + 8) (lawE nm qn doc pm cd L) [("lines", .val (.list lines)), ("texts", .val (.list texts)), ("draws", .val (.list (ds.map V.int)))] (lawD 7) K := by
  have hszl : sizeLine = 2 ^ 24 := rfl
  refine x_unpack 7 rfl (by decide) ?_
  repeat (first | walk_at "mine" | refine ⟨_, rfl, Callee.builtin _, ?_⟩ | refine call_sum ?_)
  refine ⟨fun _ => ?_, fun _ => ?_⟩
  · repeat (walk_at "mine")
    refine ⟨by decide, ?_⟩
    refine as_tup (xs := ["front", "back"]) ?_ (by rfl) (by rfl) rfl
    refine x_weak ?_ (h "top\n" "tip\n" (.inl ⟨rfl, rfl⟩))
    (repeat (refine sub_cons (by rfl) ?_)); exact sub_nil
  · repeat (walk_at "mine")
    refine ⟨by decide, ?_⟩
    refine as_tup (xs := ["front", "back"]) ?_ (by rfl) (by rfl) rfl
    refine x_weak ?_ (h "" "" (.inr ⟨rfl, rfl⟩))
    (repeat (refine sub_cons (by rfl) ?_)); exact sub_nil
end
end

section
/-- the ways in which k things may come -/
noncomputable def insAt (c : List Int) (k : Nat) (p : Nat) : List Int := cutL c none (some (p : Int)) ++ [(k : Int)] ++ cutL c (some (p : Int)) none
noncomputable def comesS : Nat → List (List Int)
  | 0 => [[]]
  | k + 1 => (comesS k).flatMap fun c => (List.range (k + 1)).map fun p => insAt c k p
noncomputable def intsV (l : List Int) : V := .list (l.map V.int)
theorem insAt_len (c : List Int) (k p : Nat) : (insAt c k p).length ≤ 2 * c.length + 1 := by
  unfold insAt
  have h1 := cutL_length c none (some (p : Int))
  have h2 := cutL_length c (some (p : Int)) none
  simp only [List.length_append, List.length_cons, List.length_nil]
  exact le2 (c3 _ _ _) (.v 0) (.v 1) (.v 2) (.v 1) (.a (.a (.v 0) (.a (.n 0) (.n 1))) (.v 2)) (.a (.m 2 (.v 1)) (.n 1)) h1 h2
section
variable {g : Gd} {d : Nat} {env : Env} {σ : Sg}
/-- a comprehension of two clauses over lists -/
theorem compP2_lists {t1 iter target elt : Expr} {G : List Int → List (List Int)} {m : Nat} {K : List V → Prop} : ∀ (l : List (List Int)) (acc : List V), acc.length + m * l.length ≤ sizeLine → (∀ c ∈ l, (G c).length ≤ m) →
    (∀ c ∈ l, ∀ (acc : List V) (K' : List V → Prop), acc.length + m ≤ sizeLine → K' (acc ++ (G c).map intsV) → AsL g d env σ t1 (intsV c) fun σ' => Sub σ σ' ∧ ItEv g d env σ' target iter fun items => compP g d env σ' target [] elt K' items acc) →
    K (acc ++ (l.flatMap G).map intsV) → compP2 g d env σ t1 iter target elt K (l.map intsV) acc
  | [], acc, _, _, _, h => by simpa [compP2] using h
  | c :: r, acc, hs, hm, hx, h => by
    have h1 := hm c (by simp)
    have h2 : m * (c :: r).length = m * r.length + m := by rw [List.length_cons, Nat.mul_add, Nat.mul_one]
    refine hx c (by simp) acc _ (by exact le2 (c4 _ _ _ _) (.a (.v 0) (.v 1)) (.n 16777216) (.a (.v 2) (.v 3)) (.v 1) (.a (.v 0) (.v 3)) (.n 16777216) hs (Nat.le_of_eq h2.symm)) ?_
    refine compP2_lists r _ (by rw [List.length_append, List.length_map]; exact le3 (c5 _ _ _ _ _) (.a (.v 0) (.v 1)) (.n 16777216) (.v 2) (.v 3) (.a (.v 4) (.v 3)) (.v 1) (.a (.a (.v 0) (.v 2)) (.v 4)) (.n 16777216) hs h1 (Nat.le_of_eq h2.symm)) (fun c' hc' => hm c' (.tail _ hc')) (fun c' hc' => hx c' (.tail _ hc')) ?_
    simpa using h
/-- a comprehension without tests, from any start -/
theorem compP_mapA {α : Type} (f : α → V) (F : α → V) {target elt} {K : List V → Prop} (l : List α) (acc : List V) (hs : acc.length + l.length ≤ sizeLine)
    (hx : ∀ x ∈ l, AsL g d env σ target (f x) fun σ' => Sub σ σ' ∧ Ev g d env σ' elt fun u => u = F x) (h : K (acc ++ l.map F)) : compP g d env σ target [] elt K (l.map f) acc := by
  refine compP_fm f (fun _ => true) F l acc hs (fun x hm => ?_) (by rw [List.filter_eq_self.mpr (fun _ _ => rfl)]; exact h)
  refine (hx x hm).mono fun σ' ⟨a, b⟩ => ⟨a, ?_⟩
  show (true = true → _) ∧ _
  exact ⟨fun _ => ⟨rfl, b⟩, fun e => by cases e⟩

theorem comes_fact : ∀ k, k < 4 → (comesS k).length ≤ 24 ∧ ∀ c ∈ comesS k, c.length ≤ 4 := by
  intro k hk
  rcases k with _ | _ | _ | _ | k
  · decide
  · decide
  · decide
  · decide
  · omega
end
section
variable {g : Gd} {d : Nat} {nm qn : Str} {doc pm cd : Value} {L : Addr} {K : Fl → Sg → Prop}
inductive ComI (fv bv lv tv dv : V) (items : List V) (σ : Sg) : Prop
  | mk (k n : Nat) : items = (List.range' k n).map (fun i : Nat => V.int i) → k + n = 4 → Sub [("comings", .val (.list ((comesS k).map intsV))), ("front", .val fv), ("back", .val bv), ("lines", .val lv), ("texts", .val tv), ("draws", .val dv)] σ → ComI fv bv lv tv dv items σ
theorem segE {fv bv lv tv dv : V} (lb : Lb g)
    (h : X g (d + 8) (lawE nm qn doc pm cd L) [("comings", .val (.list ((comesS 4).map intsV))), ("front", .val fv), ("back", .val bv), ("lines", .val lv), ("texts", .val tv), ("draws", .val dv)] (lawD 10) K) :
    X g (d + 8) (lawE nm qn doc pm cd L) [("front", .val fv), ("back", .val bv), ("lines", .val lv), ("texts", .val tv), ("draws", .val dv)] (lawD 8) K := by
  have hszl : sizeLine = 2 ^ 24 := rfl
  refine x_assign 8 rfl (by decide) ?_ (by rfl)
  refine ev_list ?_
  refine evs_cons ?_
  refine ev_list ?_
  refine evs_nil ⟨by decide, ?_⟩
  refine evs_nil ⟨by decide, ?_⟩
  refine x_for 9 rfl (by decide) ?_
  refine it_call ?_
  walk_at "mine"
  refine ⟨_, rfl, Callee.type _, ?_⟩
  repeat (walk_at "mine")
  refine call_range1 (by decide) ?_
  rw [show upto 4 = (List.range' 0 4).map fun i : Nat => V.int i from rfl]
  refine loop_inv (ComI fv bv lv tv dv) ?_ ?_ _ _ ⟨0, 4, rfl, rfl, ?_⟩
  · clear h
    rintro v r σ ⟨k, n, hi, hk, hs⟩
    cases n with
    | zero => cases hi
    | succ n =>
      simp only [List.range'_succ, List.map_cons, List.cons.injEq] at hi
      obtain ⟨rfl, rfl⟩ := hi
      refine as_name ?_ (by rfl)
      refine (exs_weakS (sub_push hs) : Exs _ _ _ _ _ _ → Exs _ _ _ _ _ _) ?_
      have hf := comes_fact k (by exact le1 (c2 _ _) (.a (.v 0) (.a (.v 1) (.n 1))) (.n 4) (.a (.v 0) (.n 1)) (.n 4) (Nat.le_of_eq hk))
      refine exs_cons ?_
      first
      | refine ex_assign_comp2 (cl := ?_) ?_ (by rfl) (by rfl) ?_ ?_ ?_ ?_ ?_ (by rfl)
      | (refine ex_assign ?_ (by rfl); refine ev_comp2 (cl := ?_) ?_ (by rfl) ?_ ?_ ?_ ?_ ?_)
      rotate_left
      · exact ⟨rfl, .inl rfl, .inl rfl, trivial⟩
      · show (["k"] : List Str).Nodup
        decide
      · decide
      · rfl
      · decide
      refine it_of ?_
      refine ev_var (v := .list ((comesS k).map intsV)) (by rfl) ?_
      refine itv_list ?_
      intro C
      refine compP2_lists (G := fun c => (List.range (k + 1)).map fun p => insAt c k p) (m := k + 1) (comesS k) [] ?_ (fun c hc => by simp) (fun c hc acc K' ha hk' => ?_) ?_
      · have : (k + 1) * (comesS k).length ≤ 4 * 24 := Nat.mul_le_mul (by exact le1 (c2 _ _) (.a (.v 0) (.a (.v 1) (.n 1))) (.n 4) (.a (.v 0) (.n 1)) (.n 4) (Nat.le_of_eq hk)) hf.1
        simp; exact le1 (c1 _) (.v 0) (.m 4 (.n 24)) (.v 0) (.n 16777216) this
      · have hcl := hf.2 c hc
        refine asl_name ⟨sub_bind (by rfl), ?_⟩ (by rfl)
        refine it_call ?_
        walk_at "mine"
        refine ⟨_, rfl, Callee.type _, ?_⟩
        walk_at "mine"
        walk_at "mine"
        refine ev_var (v := .int (k : Int)) (by rfl) ?_
        repeat (walk_at "mine")
        refine call_range1 (by lia) ?_
        rw [show upto ((k : Int) + 1) = (List.range (k + 1)).map fun i : Nat => V.int i from upto_eq (k + 1)]
        refine compP_mapA (fun i : Nat => V.int i) (fun p => intsV (insAt c k p)) (List.range (k + 1)) acc (by simpa using ha) (fun p hp => ?_) ?_
        · have hp : p < k + 1 := List.mem_range.mp hp
          refine asl_name ⟨sub_bind (by rfl), ?_⟩ (by rfl)
          have h1 := cutL_length c none (some (p : Int))
          have h2 := cutL_length c (some (p : Int)) none
          refine ev_bin ?_
          refine ev_bin ?_
          refine ev_slice ?_
          refine ev_var (v := intsV c) (by rfl) ?_
          refine evp_none ?_
          refine evp_some ?_
          refine ev_var (v := .int (p : Int)) (by rfl) ?_
          refine ⟨_, rfl, ?_⟩
          refine evp_none ?_
          refine sl_list (by simp; exact le1 (c1 _) (.v 0) (.n 4) (.v 0) (.n 16777216) hcl) ?_
          rw [cutL_map]
          refine ev_list ?_
          refine evs_cons ?_
          refine ev_var (v := .int (k : Int)) (by rfl) ?_
          refine evs_nil ⟨by simp; exact le0 (c1 0) (.n 1) (.n 16777216), ?_⟩
          refine bin_add_l (by simp; exact le2 (c2 _ _) (.v 0) (.n 4) (.v 1) (.v 0) (.a (.v 1) (.n 1)) (.n 16777216) hcl h1) ?_
          refine ev_slice ?_
          refine ev_var (v := intsV c) (by rfl) ?_
          refine evp_some ?_
          refine ev_var (v := .int (p : Int)) (by rfl) ?_
          refine ⟨_, rfl, ?_⟩
          refine evp_none ?_
          refine evp_none ?_
          refine sl_list (by simp; exact le1 (c1 _) (.v 0) (.n 4) (.v 0) (.n 16777216) hcl) ?_
          rw [cutL_map]
          refine bin_add_l (by simp; exact le3 (c3 _ _ _) (.m 2 (.v 0)) (.m 2 (.n 4)) (.v 1) (.v 0) (.v 2) (.v 0) (.a (.a (.v 1) (.n 1)) (.v 2)) (.n 16777216) (Nat.mul_le_mul_left 2 hcl) h1 h2) ?_
          show V.list _ = V.list _
          rw [show ([V.int (k : Int)] : List V) = [(k : Int)].map V.int from rfl, ← List.map_append, ← List.map_append]
          rfl
        · rw [List.map_map] at hk'; exact hk'
      · rw [List.nil_append]
        refine exs_nil ?_
        refine ⟨_, Sub.refl _, k + 1, n, rfl, by exact Nat.le_antisymm (le1 (c2 _ _) (.a (.v 0) (.a (.v 1) (.n 1))) (.n 4) (.a (.a (.v 0) (.n 1)) (.v 1)) (.n 4) (Nat.le_of_eq hk)) (le1 (c2 _ _) (.n 4) (.a (.v 0) (.a (.v 1) (.n 1))) (.n 4) (.a (.a (.v 0) (.n 1)) (.v 1)) (Nat.le_of_eq hk.symm)), ?_⟩
        (repeat (refine sub_cons (by rfl) ?_)); exact sub_nil
  · rintro σ ⟨k, n, hi, hk, hs⟩
    cases n with
    | succ n => cases hi
    | zero =>
      have : k = 4 := by omega
      subst this
      exact seq_x hs h
  · (repeat (refine sub_cons (by rfl) ?_)); exact sub_nil
end
end

section
section
variable {g : Gd} {d : Nat} {env : Env} {σ : Sg} {K : Fl → Sg → Prop}
theorem EvNs.mono {es} {K K' : List Slot → Prop} (h : EvNs g d env σ es K) (hk : ∀ v, K v → K' v) : EvNs g d env σ es K' := fun A Φ s pos a R =>
  wpAny_mono (h A Φ s pos a R) (fun _ _ ⟨Φ', ps, e, a1, a2, a3, a4, k⟩ => ⟨Φ', ps, e, a1, a2, a3, a4, hk _ k⟩) fun _ _ f => f
theorem x_tup_new (j : Nat) {elts k tpos es k' vpos pos xs} (hst : lawS j = .Assign [.Tuple elts k tpos] (.Tuple es k' vpos) pos) (hj : j < 31) (h : EvNs g d env σ es fun sls => sls.length = xs.length ∧ X g d env (bindS xs sls σ) (lawD (j + 1)) K) (hn : names? elts = some xs) (hv : (xs.all (isVar env)) = true) (hsz : xs.length ≤ 1000)
    (hs : swapsWithSole [.Tuple elts k tpos] (.Tuple es k' vpos) pos.line env = pure false := by rfl)
    (hw : swappedStores [.Tuple elts k tpos] (.Tuple es k' vpos) env = pure none := by rfl) : X g d env σ (lawD j) K :=
  x_st j hj hst (ex_tup_new (h.mono fun _ k => ⟨k.1, k.2.x⟩) hn hv hsz hs hw)
theorem x_tup_swap (j : Nat) {elts k tpos es k' vpos pos xs} (hst : lawS j = .Assign [.Tuple elts k tpos] (.Tuple es k' vpos) pos) (hj : j < 31) (h : EvNs g d env σ es fun sls => sls.length = xs.length ∧ X g d env (bindS xs.reverse sls.reverse σ) (lawD (j + 1)) K) (hv : (xs.all (isVar env)) = true) (hsz : xs.length ≤ 1000)
    (hs : swapsWithSole [.Tuple elts k tpos] (.Tuple es k' vpos) pos.line env = pure false := by rfl)
    (hw : swappedStores [.Tuple elts k tpos] (.Tuple es k' vpos) env = pure (some xs) := by rfl) : X g d env σ (lawD j) K :=
  x_st j hj hst (ex_tup_new_swapped (h.mono fun _ k => ⟨k.1, k.2.x⟩) hv hsz hs hw)
theorem ev_dict0 {pos} {K : V → Prop} (h : K (.dict [])) : Ev g d env σ (.Dict [] [] pos) K := fun A Φ s a R => by
  have i := R.toInv
  have e₂ := Ext.push i { cls := .type "dict", data := .dict #[] } rfl s.toks
  refine wpAny_Dict_empty ⟨_, .dict [], e₂, .dict (kvs := []) (FM.put_self ..) ?_ .nil (sys_ne i (size_none _)), h⟩
  obtain ⟨o, ho, hd⟩ := Heap.dictOf_iff.mp (Heap.DictOf.new (knd := PySem.strKind g.prog g.w) s.heap)
  rw [Heap.get?_push_size _ rfl] at ho
  cases ho; exact hd
end
theorem foldl_len (l : List Str) : ∀ (a : Nat), (∀ x ∈ l, x.length ≤ 1000) → l.foldl (fun s (t : Str) => s + t.length + (Str.ofString "").length) a ≤ a + 1000 * l.length := by
  induction l with
  | nil => intro a _; simp
  | cons x r ih =>
    intro a hx
    have h1 := hx x (by simp)
    have h2 : (Str.ofString "").length = 0 := rfl
    simp only [List.foldl_cons, List.length_cons]
    have := ih (a + x.length + (Str.ofString "").length) fun y hy => hx y (.tail _ hy)
    exact le3 (c5 _ _ _ _ _) (.v 0) (.n 1000) (.v 1) (.n 0) (.v 2) (.a (.a (.a (.v 3) (.v 0)) (.v 1)) (.m 1000 (.v 4))) (.v 2) (.a (.v 3) (.m 1000 (.a (.v 4) (.n 1)))) h1 (Nat.le_of_eq h2) this
theorem joinok_small {l : List Str} (hl : l.length ≤ 1000) (hx : ∀ x ∈ l, x.length ≤ 1000) : JoinOk "" l = true := by
  unfold JoinOk tooLong
  have h := foldl_len l 0 hx
  rw [List.foldl_toArray]
  have hszl : sizeLine = 2 ^ 24 := rfl
  simp only [Bool.not_eq_true', decide_eq_false_iff_not]
  show ¬ (_ > sizeLine)
  exact fun hh => no10 (le3 (c2 _ _) (.m 1000 (.v 0)) (.m 1000 (.n 1000)) (.v 1) (.a (.n 0) (.m 1000 (.v 0))) (.a (.n 16777216) (.n 1)) (.v 1) (.n 1) (.n 0) (Nat.mul_le_mul_left 1000 hl) h hh)
/-- a list of all the four -/
noncomputable def pageS (front back : Str) (lines : List Str) (w : List Int) : Str := front ++ Txt.join "" (w.map fun k => lines.getD k.toNat "") ++ back
end

section
noncomputable def insW (w : List Int) (k : Nat) (p : Int) : List Int := cutL w none (some p) ++ [(k : Int)] ++ cutL w (some p) none
noncomputable def wantS (n : Int) : Nat → List Int
  | 0 => []
  | k + 1 => insW (wantS n k) k (n / (([1, 1, 2, 6] : List Int).getD k 1) % ((k : Int) + 1))
theorem want_fact : ∀ n : Nat, n < 24 → (∀ k, k < 4 → (wantS (n : Int) k).length ≤ 4) ∧ wantS (n : Int) 4 ∈ comesS 4 := by decide +kernel
theorem want_div : ∀ k, k < 4 → 0 < (([1, 1, 2, 6] : List Int).getD k 1) ∧ (([1, 1, 2, 6] : List Int).getD k 1) < 2 ^ 30 := by
  intro k hk
  rcases k with _ | _ | _ | _ | k
  · decide
  · decide
  · decide
  · decide
  · omega
section
variable {g : Gd} {d : Nat} {nm qn : Str} {doc pm cd : Value} {L : Addr} {K : Fl → Sg → Prop}
inductive WanI (n : Int) (cv fv bv lv tv : V) (ds : List Int) (items : List V) (σ : Sg) : Prop
  | mk (k m : Nat) : items = (List.range' k m).map (fun i : Nat => V.int i) → k + m = 4 → Sub [("wanted", .val (intsV (wantS n k))), ("number", .val (.int n)), ("comings", .val cv), ("front", .val fv), ("back", .val bv), ("lines", .val lv), ("texts", .val tv), ("draws", .val (.list (ds.map V.int)))] σ → WanI n cv fv bv lv tv ds items σ
theorem segF {ds : List Int} {cv fv bv lv tv : V} (lb : Lb g) (hd : ds.length = 6)
    (h : ∀ w, w ∈ comesS 4 → X g (d + 8) (lawE nm qn doc pm cd L) [("wanted", .val (intsV w)), ("comings", .val cv), ("front", .val fv), ("back", .val bv), ("lines", .val lv), ("texts", .val tv), ("draws", .val (.list (ds.map V.int)))] (lawD 12) K) :
    X g (d + 8) (lawE nm qn doc pm cd L) [("comings", .val cv), ("front", .val fv), ("back", .val bv), ("lines", .val lv), ("texts", .val tv), ("draws", .val (.list (ds.map V.int)))] (lawD 10) K := by
  have hszl : sizeLine = 2 ^ 24 := rfl
  have hn0 : 0 ≤ ds.getD 4 0 / 2401 % 24 := Int.emod_nonneg _ (by decide)
  have hn1 : ds.getD 4 0 / 2401 % 24 < 24 := Int.emod_lt_of_pos _ (by decide)
  refine x_tup_new 10 (xs := ["wanted", "number"]) rfl (by decide) ?_ (by rfl) (by rfl) (by decide) (by rfl) (by rfl)
  refine evns_cons (evn_val ?_)
  refine ev_list ?_
  refine evs_nil ⟨by decide, ?_⟩
  refine evns_cons (evn_val ?_)
  walk_at "mine"
  walk_at "mine"
  refine ev_sub ?_
  refine ev_var (v := .list (ds.map V.int)) (by rfl) ?_
  walk_at "mine"
  refine sub_list (v := .int (ds.getD 4 0)) (by decide) (ixV_mapN V.int ds 0 4 (by exact le1 (c1 _) (.n 6) (.v 0) (.a (.n 4) (.n 1)) (.v 0) (Nat.le_of_eq hd.symm))) ?_
  repeat (walk_at "mine")
  refine evns_nil ⟨rfl, ?_⟩
  revert hn0 hn1
  generalize ds.getD 4 0 / 2401 % 24 = nb
  intro hn0 hn1
  obtain ⟨n, rfl⟩ : ∃ n : Nat, nb = n := ⟨nb.toNat, by lia⟩
  have hn : n < 24 := by lia
  have hwf := want_fact n hn
  refine x_for 11 rfl (by decide) ?_
  refine it_call ?_
  walk_at "mine"
  refine ⟨_, rfl, Callee.type _, ?_⟩
  repeat (walk_at "mine")
  refine call_range1 (by decide) ?_
  rw [show upto 4 = (List.range' 0 4).map fun i : Nat => V.int i from rfl]
  refine loop_inv (WanI n cv fv bv lv tv ds) ?_ ?_ _ _ ⟨0, 4, rfl, rfl, ?_⟩
  · clear h
    rintro v r σ ⟨k, m, hi, hk, hs⟩
    cases m with
    | zero => cases hi
    | succ m =>
      simp only [List.range'_succ, List.map_cons, List.cons.injEq] at hi
      obtain ⟨rfl, rfl⟩ := hi
      refine as_name ?_ (by rfl)
      refine (exs_weakS (sub_push hs) : Exs _ _ _ _ _ _ → Exs _ _ _ _ _ _) ?_
      have hk4 : k < 4 := by exact le1 (c2 _ _) (.a (.v 0) (.a (.v 1) (.n 1))) (.n 4) (.a (.v 0) (.n 1)) (.n 4) (Nat.le_of_eq hk)
      have hf := hwf.1 k hk4
      have hdv := want_div k hk4
      refine exs_cons ?_
      refine ex_assign ?_ (by rfl)
      refine ev_bin ?_
      refine ev_bin ?_
      refine ev_var (v := .int n) (by rfl) ?_
      refine ev_sub ?_
      repeat (walk_at "mine")
      refine ⟨by decide, ?_⟩
      refine ev_var (v := .int (k : Int)) (by rfl) ?_
      refine sub_list (v := .int (([1, 1, 2, 6] : List Int).getD k 1)) (by lia) (ixV_mapN V.int [1, 1, 2, 6] 1 k (by simpa using hk4)) ?_
      refine bin_divn hdv.1 hdv.2 ?_
      refine ev_bin ?_
      refine ev_var (v := .int (k : Int)) (by rfl) ?_
      repeat (walk_at "mine")
      refine bin_modn (by lia) ?_
      generalize hp : (n : Int) / (([1, 1, 2, 6] : List Int).getD k 1) % ((k : Int) + 1) = p
      refine exs_cons ?_
      refine ex_assign ?_ (by rfl)
      have h1 := cutL_length (wantS n k) none (some p)
      have h2 := cutL_length (wantS n k) (some p) none
      refine ev_bin ?_
      refine ev_bin ?_
      refine ev_slice ?_
      refine ev_var (v := intsV (wantS n k)) (by rfl) ?_
      refine evp_none ?_
      refine evp_some ?_
      refine ev_var (v := .int p) (by rfl) ?_
      refine ⟨_, rfl, ?_⟩
      refine evp_none ?_
      refine sl_list (by simp; exact le1 (c1 _) (.v 0) (.n 4) (.v 0) (.n 16777216) hf) ?_
      rw [cutL_map]
      refine ev_list ?_
      refine evs_cons ?_
      refine ev_var (v := .int (k : Int)) (by rfl) ?_
      refine evs_nil ⟨by simp; exact le0 (c1 0) (.n 1) (.n 16777216), ?_⟩
      refine bin_add_l (by simp; exact le2 (c2 _ _) (.v 0) (.n 4) (.v 1) (.v 0) (.a (.v 1) (.n 1)) (.n 16777216) hf h1) ?_
      refine ev_slice ?_
      refine ev_var (v := intsV (wantS n k)) (by rfl) ?_
      refine evp_some ?_
      refine ev_var (v := .int p) (by rfl) ?_
      refine ⟨_, rfl, ?_⟩
      refine evp_none ?_
      refine evp_none ?_
      refine sl_list (by simp; exact le1 (c1 _) (.v 0) (.n 4) (.v 0) (.n 16777216) hf) ?_
      rw [cutL_map]
      refine bin_add_l (by simp; exact le3 (c3 _ _ _) (.m 2 (.v 0)) (.m 2 (.n 4)) (.v 1) (.v 0) (.v 2) (.v 0) (.a (.a (.v 1) (.n 1)) (.v 2)) (.n 16777216) (Nat.mul_le_mul_left 2 hf) h1 h2) ?_
      rw [show ([V.int (k : Int)] : List V) = [(k : Int)].map V.int from rfl, ← List.map_append, ← List.map_append]
      subst hp
      refine exs_nil ?_
      refine ⟨_, Sub.refl _, k + 1, m, rfl, by exact Nat.le_antisymm (le1 (c2 _ _) (.a (.v 0) (.a (.v 1) (.n 1))) (.n 4) (.a (.a (.v 0) (.n 1)) (.v 1)) (.n 4) (Nat.le_of_eq hk)) (le1 (c2 _ _) (.n 4) (.a (.v 0) (.a (.v 1) (.n 1))) (.n 4) (.a (.a (.v 0) (.n 1)) (.v 1)) (Nat.le_of_eq hk.symm)), ?_⟩
      (repeat (refine sub_cons (by rfl) ?_)); exact sub_nil
  · rintro σ ⟨k, m, hi, hk, hs⟩
    cases m with
    | succ m => cases hi
    | zero =>
      have : k = 4 := by omega
      subst this
      refine seq_x hs ?_
      refine x_weak ?_ (h _ hwf.2)
      (repeat (refine sub_cons (by rfl) ?_)); exact sub_nil
  · (repeat (refine sub_cons (by rfl) ?_)); exact sub_nil
end
end

section
noncomputable def bi (x : Bool) : Int := if x then 1 else 0
noncomputable def sg (x : Bool) : Int := if x then 1 else -1
noncomputable def keysB (b0 c0 b1 c1 b2 c2 b3 c3 : Bool) : List (List Int) := [[0, bi b0, bi c0], [1, bi b1, bi c1], [2, bi b2, bi c2], [3, bi b3, bi c3]]
noncomputable def sidesB (s0 s1 s2 : Bool) : List Int := [sg s0, sg s1, sg s2]
noncomputable def rankS (keys : List (List Int)) (sides : List Int) : List (List Int) := (List.range 4).map fun k : Nat => [sides.getD 0 0 * (keys.getD k []).getD 1 0, sides.getD 1 0 * (keys.getD k []).getD 2 0, sides.getD 2 0 * (k : Int), (k : Int)]
noncomputable def lineS (keys : List (List Int)) (sides : List Int) : List Int := (sortT (rankS keys sides)).map fun t => t.getD 3 0
noncomputable def selS (sides : List Int) : List (Int × Int) := [(1, sides.getD 0 0), (2, sides.getD 1 0), (0, sides.getD 2 0)]
theorem bi_mod (x : Int) : x % 2 = bi (decide (x % 2 = 1)) := by
  unfold bi
  by_cases h : x % 2 = 1
  · simp [h]
  · simp [h]; lia
theorem sg_mod (x : Int) : x % 2 * 2 - 1 = sg (decide (x % 2 = 1)) := by
  unfold sg
  by_cases h : x % 2 = 1
  · simp [h]
  · simp [h]; lia
theorem mulok_b {a b : Int} (h : b.natAbs < 2 ^ 60) : IntMulOk a b := by
  refine IntMulOk.of_right ?_
  unfold Builtin.Int.intBits
  split
  · exact le0 (c1 0) (.n 0) (.n 64)
  · rename_i hb
    have hb : b ≠ 0 := by simpa using hb
    have := (Nat.log2_lt (n := b.natAbs) (k := 60) (by omega)).mpr h
    exact le1 (c1 _) (.a (.v 0) (.n 1)) (.n 60) (.a (.v 0) (.n 1)) (.n 64) this
theorem rank_len (keys : List (List Int)) (sides : List Int) : ∀ t ∈ rankS keys sides, t.length = 4 := by
  intro t ht
  obtain ⟨k, _, rfl⟩ := List.mem_map.mp ht
  rfl
theorem sort_len (l : List (List Int)) (h4 : l.length = 4) (hl : ∀ t ∈ l, t.length = 4) : ∀ t ∈ sortT l, t.length = 4 := by
  intro t ht
  obtain ⟨k, hk, rfl⟩ := List.mem_map.mp ht
  have := sortOrd_lt l k hk
  exact hl _ (getD_mem (by exact le2 (c2 _ _) (.n 4) (.v 0) (.a (.v 1) (.n 1)) (.n 4) (.a (.v 1) (.n 1)) (.v 0) (Nat.le_of_eq h4.symm) this))
theorem sort_n (l : List (List Int)) : (sortT l).length = (sortOrd l).length := by unfold sortT; simp
section
variable {g : Gd} {d : Nat} {nm qn : Str} {doc pm cd : Value} {L : Addr} {K : Fl → Sg → Prop}
theorem segG {ds : List Int} {wv cv fv bv lv tv : V} (lb : Lb g) (lc : Lc g) (hd : ds.length = 6) (hso : ∀ l : List (List Int), (sortOrd l).length ≤ 1000)
    (h : ∀ b0 c0 b1 c1 b2 c2 b3 c3 s0 s1 s2 : Bool, X g (d + 8) (lawE nm qn doc pm cd L) [("order", .val (.inst 73 (.list ((selS (sidesB s0 s1 s2)).map selV)))), ("line", .val (intsV (lineS (keysB b0 c0 b1 c1 b2 c2 b3 c3) (sidesB s0 s1 s2)))), ("keys", .val (.list ((keysB b0 c0 b1 c1 b2 c2 b3 c3).map tupV))),
      ("wanted", .val wv), ("comings", .val cv), ("front", .val fv), ("back", .val bv), ("lines", .val lv), ("texts", .val tv), ("draws", .val (.list (ds.map V.int)))] (lawD 17) K) :
    X g (d + 8) (lawE nm qn doc pm cd L) [("wanted", .val wv), ("comings", .val cv), ("front", .val fv), ("back", .val bv), ("lines", .val lv), ("texts", .val tv), ("draws", .val (.list (ds.map V.int)))] (lawD 12) K := by
  have hszl : sizeLine = 2 ^ 24 := rfl
  have htc := lb.tc
  first
  | refine x_assign_comp 12 (cl := ?_) rfl (by decide) ?_ (by rfl) (by rfl) ?_ ?_ ?_ ?_ ?_ (by rfl)
  | (refine x_assign 12 rfl (by decide) ?_ (by rfl); refine ev_comp (cl := ?_) ?_ (by rfl) ?_ ?_ ?_ ?_ ?_)
  rotate_left
  · exact ⟨rfl, .inl rfl, .inl rfl, trivial⟩
  · show (["draws"] : List Str).Nodup
    decide
  · decide
  · rfl
  · decide
  refine it_call ?_
  walk_at "mine"
  refine ⟨_, rfl, Callee.type _, ?_⟩
  repeat (walk_at "mine")
  refine call_range1 (by decide) ?_
  intro C
  rw [show upto 4 = (List.range 4).map fun i : Nat => V.int i from upto_eq 4]
  refine compP_map (fun i : Nat => V.int i) (fun k => tupV [(k : Int), ds.getD k 0 % 2, ds.getD k 0 / 2 % 2]) (List.range 4) (by decide) (fun k hk => ?_) ?_
  · have hk : k < 4 := List.mem_range.mp hk
    refine asl_name ⟨sub_bind (by rfl), ?_⟩ (by rfl)
    refine ev_tup ?_
    refine evs_cons ?_
    refine ev_var (v := .int (k : Int)) (by rfl) ?_
    refine evs_cons ?_
    refine ev_bin ?_
    refine ev_sub ?_
    refine ev_var (v := .list (ds.map V.int)) (by rfl) ?_
    refine ev_var (v := .int (k : Int)) (by rfl) ?_
    refine sub_list (v := .int (ds.getD k 0)) (by omega) (ixV_mapN V.int ds 0 k (by exact le2 (c2 _ _) (.n 6) (.v 0) (.a (.v 1) (.n 1)) (.n 4) (.a (.v 1) (.n 1)) (.v 0) (Nat.le_of_eq hd.symm) hk)) ?_
    repeat (walk_at "mine")
    refine sub_list (v := .int (ds.getD k 0)) (by omega) (ixV_mapN V.int ds 0 k (by exact le2 (c2 _ _) (.n 6) (.v 0) (.a (.v 1) (.n 1)) (.n 4) (.a (.v 1) (.n 1)) (.v 0) (Nat.le_of_eq hd.symm) hk)) ?_
    repeat (walk_at "mine")
    exact ⟨by simp; exact le0 (c1 0) (.n 3) (.n 16777216), rfl⟩
  rw [show ((List.range 4).map fun k : Nat => tupV [(k : Int), ds.getD k 0 % 2, ds.getD k 0 / 2 % 2]) =
      (keysB (decide (ds.getD 0 0 % 2 = 1)) (decide (ds.getD 0 0 / 2 % 2 = 1)) (decide (ds.getD 1 0 % 2 = 1)) (decide (ds.getD 1 0 / 2 % 2 = 1)) (decide (ds.getD 2 0 % 2 = 1)) (decide (ds.getD 2 0 / 2 % 2 = 1)) (decide (ds.getD 3 0 % 2 = 1)) (decide (ds.getD 3 0 / 2 % 2 = 1))).map tupV by
    simp only [keysB, ← bi_mod]; rfl]
  generalize hkeys : keysB (decide (ds.getD 0 0 % 2 = 1)) (decide (ds.getD 0 0 / 2 % 2 = 1)) (decide (ds.getD 1 0 % 2 = 1)) (decide (ds.getD 1 0 / 2 % 2 = 1)) (decide (ds.getD 2 0 % 2 = 1)) (decide (ds.getD 2 0 / 2 % 2 = 1)) (decide (ds.getD 3 0 % 2 = 1)) (decide (ds.getD 3 0 / 2 % 2 = 1)) = keys
  have hkl : keys.length = 4 := by rw [← hkeys]; rfl
  have hk3 : ∀ t ∈ keys, t.length = 3 := by
    rw [← hkeys]; intro t ht
    simp only [keysB, List.mem_cons, List.not_mem_nil, or_false] at ht
    rcases ht with rfl | rfl | rfl | rfl <;> rfl
  have hk1 : ∀ t ∈ keys, ∀ i, i < 3 → (t.getD i 0).natAbs < 2 ^ 60 := by
    rw [← hkeys]; intro t ht i hi
    have hb : ∀ b, (bi b).natAbs < 2 ^ 60 := by decide
    simp only [keysB, List.mem_cons, List.not_mem_nil, or_false] at ht
    rcases ht with rfl | rfl | rfl | rfl <;> (rcases i with _ | _ | _ | i <;> first | exact hb _ | exact (by decide : (0 : Int).natAbs < 2 ^ 60) | exact (by decide : (1 : Int).natAbs < 2 ^ 60) | exact (by decide : (2 : Int).natAbs < 2 ^ 60) | exact (by decide : (3 : Int).natAbs < 2 ^ 60) | omega)
  -- sides
  first
  | refine x_assign_comp 13 (cl := ?_) rfl (by decide) ?_ (by rfl) (by rfl) ?_ ?_ ?_ ?_ ?_ (by rfl)
  | (refine x_assign 13 rfl (by decide) ?_ (by rfl); refine ev_comp (cl := ?_) ?_ (by rfl) ?_ ?_ ?_ ?_ ?_)
  rotate_left
  · exact ⟨rfl, .inl rfl, .inl rfl, trivial⟩
  · show (["draws"] : List Str).Nodup
    decide
  · decide
  · rfl
  · decide
  refine it_call ?_
  walk_at "mine"
  refine ⟨_, rfl, Callee.type _, ?_⟩
  repeat (walk_at "mine")
  refine call_range1 (by decide) ?_
  intro C
  rw [show upto 3 = (List.range 3).map fun i : Nat => V.int i from upto_eq 3]
  refine compP_map (fun i : Nat => V.int i) (fun k => V.int (ds.sum / 2 ^ k % 2 * 2 - 1)) (List.range 3) (by decide) (fun k hk => ?_) ?_
  · have hk : k < 3 := List.mem_range.mp hk
    refine asl_name ⟨sub_bind (by rfl), ?_⟩ (by rfl)
    repeat (walk_at "mine")
    refine ⟨_, rfl, Callee.builtin _, ?_⟩
    refine evs_cons ?_
    refine ev_var (v := .list (ds.map V.int)) (by rfl) ?_
    walk_at "mine"
    refine call_sum ?_
    walk_at "mine"
    walk_at "mine"
    refine ev_var (v := .int (k : Int)) (by rfl) ?_
    refine bin_pown (.inl rfl) (by exact le1 (c1 _) (.a (.v 0) (.n 1)) (.n 3) (.a (.v 0) (.n 1)) (.n 4) hk) ?_
    refine bin_divn (Int.pow_pos (by decide)) ?_ ?_
    · rcases k with _ | _ | _ | k <;> first | decide | lia
    repeat (walk_at "mine")
    refine bin_mul (mulok_b (by decide)) ?_
    repeat (walk_at "mine")
    rfl
  rw [show ((List.range 3).map fun k : Nat => V.int (ds.sum / 2 ^ k % 2 * 2 - 1)) = (sidesB (decide (ds.sum / 2 ^ 0 % 2 = 1)) (decide (ds.sum / 2 ^ 1 % 2 = 1)) (decide (ds.sum / 2 ^ 2 % 2 = 1))).map V.int by
    simp only [sidesB, ← sg_mod]; rfl]
  have h := h (decide (ds.getD 0 0 % 2 = 1)) (decide (ds.getD 0 0 / 2 % 2 = 1)) (decide (ds.getD 1 0 % 2 = 1)) (decide (ds.getD 1 0 / 2 % 2 = 1)) (decide (ds.getD 2 0 % 2 = 1)) (decide (ds.getD 2 0 / 2 % 2 = 1)) (decide (ds.getD 3 0 % 2 = 1)) (decide (ds.getD 3 0 / 2 % 2 = 1)) (decide (ds.sum / 2 ^ 0 % 2 = 1)) (decide (ds.sum / 2 ^ 1 % 2 = 1)) (decide (ds.sum / 2 ^ 2 % 2 = 1))
  rw [hkeys] at h
  clear hkeys
  revert h
  generalize hsides : sidesB (decide (ds.sum / 2 ^ 0 % 2 = 1)) (decide (ds.sum / 2 ^ 1 % 2 = 1)) (decide (ds.sum / 2 ^ 2 % 2 = 1)) = sides
  intro h
  have hsl : sides.length = 3 := by rw [← hsides]; rfl
  clear hsides
  -- ranked
  refine x_assign 14 rfl (by decide) ?_ (by rfl)
  walk_at "mine"
  walk_at "mine"
  refine ⟨_, rfl, Callee.builtin _, ?_⟩
  refine evs_cons ?_
  refine ev_comp (cl := ?_) ?_ (by rfl) ?_ ?_ ?_ ?_ ?_
  rotate_left
  · exact ⟨rfl, .inl rfl, .inl rfl, rfl, .inl rfl, .inl rfl, trivial⟩
  · show (["sides", "keys"] : List Str).Nodup
    decide
  · decide
  · rfl
  · decide
  refine it_call ?_
  walk_at "mine"
  refine ⟨_, rfl, Callee.type _, ?_⟩
  repeat (walk_at "mine")
  refine call_range1 (by decide) ?_
  intro C
  rw [show upto 4 = (List.range 4).map fun i : Nat => V.int i from upto_eq 4]
  refine compP_map (fun i : Nat => V.int i) (fun k => tupV [sides.getD 0 0 * (keys.getD k []).getD 1 0, sides.getD 1 0 * (keys.getD k []).getD 2 0, sides.getD 2 0 * (k : Int), (k : Int)]) (List.range 4) (by decide) (fun k hk => ?_) ?_
  · have hk : k < 4 := List.mem_range.mp hk
    have hkk := hk3 _ (getD_mem (l := keys) (i := k) (a := []) (by exact le2 (c2 _ _) (.n 4) (.v 0) (.a (.v 1) (.n 1)) (.n 4) (.a (.v 1) (.n 1)) (.v 0) (Nat.le_of_eq hkl.symm) hk))
    have hk1 := hk1 _ (getD_mem (l := keys) (i := k) (a := []) (by exact le2 (c2 _ _) (.n 4) (.v 0) (.a (.v 1) (.n 1)) (.n 4) (.a (.v 1) (.n 1)) (.v 0) (Nat.le_of_eq hkl.symm) hk))
    refine asl_name ⟨sub_bind (by rfl), ?_⟩ (by rfl)
    refine ev_tup ?_
    refine evs_cons ?_
    refine ev_bin ?_
    refine ev_sub ?_
    refine ev_var (v := .list (sides.map V.int)) (by rfl) ?_
    walk_at "mine"
    refine sub_list (v := .int (sides.getD 0 0)) (by decide) (ixV_mapN V.int sides 0 0 (by exact le1 (c1 _) (.n 3) (.v 0) (.a (.n 0) (.n 1)) (.v 0) (Nat.le_of_eq hsl.symm))) ?_
    refine ev_sub ?_
    refine ev_sub ?_
    refine ev_var (v := .list (keys.map tupV)) (by rfl) ?_
    refine ev_var (v := .int (k : Int)) (by rfl) ?_
    refine sub_list (v := tupV (keys.getD k [])) (by lia) (ixV_mapN tupV keys [] k (by exact le2 (c2 _ _) (.n 4) (.v 0) (.a (.v 1) (.n 1)) (.n 4) (.a (.v 1) (.n 1)) (.v 0) (Nat.le_of_eq hkl.symm) hk)) ?_
    walk_at "mine"
    refine sub_tup (v := .int ((keys.getD k []).getD 1 0)) (by decide) (ixV_mapN V.int _ 0 1 (by exact le1 (c1 _) (.n 3) (.v 0) (.a (.n 1) (.n 1)) (.v 0) (Nat.le_of_eq hkk.symm))) ?_
    refine bin_mul (mulok_b (hk1 1 (by decide))) ?_
    refine evs_cons ?_
    refine ev_bin ?_
    refine ev_sub ?_
    refine ev_var (v := .list (sides.map V.int)) (by rfl) ?_
    walk_at "mine"
    refine sub_list (v := .int (sides.getD 1 0)) (by decide) (ixV_mapN V.int sides 0 1 (by exact le1 (c1 _) (.n 3) (.v 0) (.a (.n 1) (.n 1)) (.v 0) (Nat.le_of_eq hsl.symm))) ?_
    refine ev_sub ?_
    refine ev_sub ?_
    refine ev_var (v := .list (keys.map tupV)) (by rfl) ?_
    refine ev_var (v := .int (k : Int)) (by rfl) ?_
    refine sub_list (v := tupV (keys.getD k [])) (by omega) (ixV_mapN tupV keys [] k (by exact le2 (c2 _ _) (.n 4) (.v 0) (.a (.v 1) (.n 1)) (.n 4) (.a (.v 1) (.n 1)) (.v 0) (Nat.le_of_eq hkl.symm) hk)) ?_
    walk_at "mine"
    refine sub_tup (v := .int ((keys.getD k []).getD 2 0)) (by decide) (ixV_mapN V.int _ 0 2 (by exact le1 (c1 _) (.n 3) (.v 0) (.a (.n 2) (.n 1)) (.v 0) (Nat.le_of_eq hkk.symm))) ?_
    refine bin_mul (mulok_b (hk1 2 (by decide))) ?_
    refine evs_cons ?_
    refine ev_bin ?_
    refine ev_sub ?_
    refine ev_var (v := .list (sides.map V.int)) (by rfl) ?_
    walk_at "mine"
    refine sub_list (v := .int (sides.getD 2 0)) (by decide) (ixV_mapN V.int sides 0 2 (by exact le1 (c1 _) (.n 3) (.v 0) (.a (.n 2) (.n 1)) (.v 0) (Nat.le_of_eq hsl.symm))) ?_
    refine ev_var (v := .int (k : Int)) (by rfl) ?_
    refine bin_mul (mulok_b (by omega)) ?_
    refine evs_cons ?_
    refine ev_var (v := .int (k : Int)) (by rfl) ?_
    refine evs_nil ⟨by simp; exact le0 (c1 0) (.n 4) (.n 16777216), rfl⟩
  refine evs_nil ?_
  rw [show ((List.range 4).map fun k : Nat => tupV [sides.getD 0 0 * (keys.getD k []).getD 1 0, sides.getD 1 0 * (keys.getD k []).getD 2 0, sides.getD 2 0 * (k : Int), (k : Int)]) = (rankS keys sides).map tupV by unfold rankS; rw [List.map_map]; rfl]
  refine call_sorted (by rfl) (rank_len keys sides) ?_
  have hsl4 := sort_len (rankS keys sides) (by rfl) (rank_len keys sides)
  -- line
  first
  | refine x_assign_comp 15 (cl := []) rfl (by decide) ?_ (by rfl) (by rfl) trivial .nil (by decide) rfl (by decide) (by rfl)
  | (refine x_assign 15 rfl (by decide) ?_ (by rfl); refine ev_comp (cl := []) ?_ (by rfl) trivial .nil (by decide) rfl (by decide))
  refine it_of ?_
  refine ev_var (v := .list ((sortT (rankS keys sides)).map tupV)) (by rfl) ?_
  refine itv_list ?_
  intro C
  refine compP_map tupV (fun t => V.int (t.getD 3 0)) (sortT (rankS keys sides)) (by have := hso (rankS keys sides); rw [sort_n]; exact le1 (c1 _) (.v 0) (.n 1000) (.v 0) (.n 16777216) this) (fun t ht => ?_) ?_
  · have := hsl4 t ht
    refine asl_name ⟨sub_nil, ?_⟩ (by rfl)
    refine ev_sub ?_
    refine ev_var (v := tupV t) (by rfl) ?_
    walk_at "mine"
    exact sub_tup (v := .int (t.getD 3 0)) (by decide) (ixV_mapN V.int _ 0 3 (by exact le1 (c1 _) (.n 4) (.v 0) (.a (.n 3) (.n 1)) (.v 0) (Nat.le_of_eq this.symm))) rfl
  -- order
  refine x_assign 16 rfl (by decide) ?_ (by rfl)
  refine ev_call_cls lc ?_
  walk_at "mine"
  refine ⟨rfl, ?_⟩
  refine evs_cons ?_
  refine ev_list ?_
  refine evs_cons ?_
  refine ev_tup ?_
  refine evs_cons ?_
  walk_at "mine"
  refine evs_cons ?_
  refine ev_sub ?_
  refine ev_var (v := .list (sides.map V.int)) (by rfl) ?_
  walk_at "mine"
  refine sub_list (v := .int (sides.getD 0 0)) (by decide) (ixV_mapN V.int sides 0 0 (by exact le1 (c1 _) (.n 3) (.v 0) (.a (.n 0) (.n 1)) (.v 0) (Nat.le_of_eq hsl.symm))) ?_
  refine evs_nil ⟨by simp; exact le0 (c1 0) (.n 2) (.n 16777216), ?_⟩
  refine evs_cons ?_
  refine ev_tup ?_
  refine evs_cons ?_
  walk_at "mine"
  refine evs_cons ?_
  refine ev_sub ?_
  refine ev_var (v := .list (sides.map V.int)) (by rfl) ?_
  walk_at "mine"
  refine sub_list (v := .int (sides.getD 1 0)) (by decide) (ixV_mapN V.int sides 0 1 (by exact le1 (c1 _) (.n 3) (.v 0) (.a (.n 1) (.n 1)) (.v 0) (Nat.le_of_eq hsl.symm))) ?_
  refine evs_nil ⟨by simp; exact le0 (c1 0) (.n 2) (.n 16777216), ?_⟩
  refine evs_cons ?_
  refine ev_tup ?_
  refine evs_cons ?_
  walk_at "mine"
  refine evs_cons ?_
  refine ev_sub ?_
  refine ev_var (v := .list (sides.map V.int)) (by rfl) ?_
  walk_at "mine"
  refine sub_list (v := .int (sides.getD 2 0)) (by decide) (ixV_mapN V.int sides 0 2 (by exact le1 (c1 _) (.n 3) (.v 0) (.a (.n 2) (.n 1)) (.v 0) (Nat.le_of_eq hsl.symm))) ?_
  refine evs_nil ⟨by simp; exact le0 (c1 0) (.n 2) (.n 16777216), ?_⟩
  refine evs_nil ⟨by simp; exact le0 (c1 0) (.n 3) (.n 16777216), ?_⟩
  refine evs_nil ?_
  refine call_tc lc ?_
  refine x_weak ?_ h
  refine sub_cons (by rfl) (sub_cons ?_ ?_)
  · show some _ = some _
    unfold lineS intsV
    rw [List.map_map]; rfl
  (repeat (refine sub_cons (by rfl) ?_)); exact sub_nil
end
end

section
/-- lines that may be looked up -/
structure LnOk (lines : List Str) : Prop where
  n : lines.length = 4
  len : ∀ x ∈ lines, x.length ≤ 100
noncomputable def PermOk (w : List Int) : Prop := w.length = 4 ∧ ∀ x ∈ w, 0 ≤ x ∧ x < 4
theorem LnOk.at {lines : List Str} (h : LnOk lines) {x : Int} (hx : 0 ≤ x ∧ x < 4) : ixV (lines.map V.str) x = some (.str (lines.getD x.toNat "")) ∧ (lines.getD x.toNat "").length ≤ 100 := by
  have hn := h.n
  exact ⟨ixV_map V.str lines "" x hx.1 (by lia), h.len _ (getD_mem (by lia))⟩
theorem join_len (l : List Str) (h : ∀ x ∈ l, x.length ≤ 100) : (Txt.join "" l).length ≤ 100 * l.length := by
  have h1 := StrLaws.join_length_le "" l
  have h2 : (Str.ofString "").length = 0 := rfl
  rw [h2] at h1
  have h3 : (l.map (·.length)).sum ≤ 100 * l.length := by
    clear h1
    induction l with
    | nil => simp
    | cons x r ih =>
      have := ih fun y hy => h y (.tail _ hy)
      have := h x (by simp)
      simp only [List.map_cons, List.sum_cons, List.length_cons]; exact le2 (c3 _ _ _) (.v 0) (.m 100 (.v 1)) (.v 2) (.n 100) (.a (.v 2) (.v 0)) (.m 100 (.a (.v 1) (.n 1))) (by assumption) this
  show (Builtin.Str.glued "" l).length ≤ _
  rw [StrLaws.glued_eq_join]
  lia
section
variable {g : Gd} {d : Nat} {env : Env} {σ : Sg} {K : V → Prop}
/-- ''.join([lines[k] for k in w]) ahead of a call's end -/
theorem comp_lines {target elt : Expr} {lines : List Str} {w : List Int} {K : List V → Prop} (hl : LnOk lines) (hw : PermOk w)
    (hx : ∀ x, 0 ≤ x ∧ x < 4 → AsL g d env σ target (.int x) fun σ' => Sub σ σ' ∧ Ev g d env σ' elt fun u => u = .str (lines.getD x.toNat "")) (h : K ((w.map fun k => lines.getD k.toNat "").map V.str)) : compP g d env σ target [] elt K (w.map V.int) [] := by
  have hszl : sizeLine = 2 ^ 24 := rfl
  have hw1 := hw.1
  refine compP_map V.int (fun x => V.str (lines.getD x.toNat "")) w (by exact le1 (c1 _) (.v 0) (.n 4) (.v 0) (.n 16777216) (Nat.le_of_eq hw1)) (fun x hm => hx x (hw.2 x hm)) ?_
  rw [List.map_map] at h; exact h
end
theorem page_len {front back : Str} {lines : List Str} {w : List Int} (hf : front.length ≤ 4) (hb : back.length ≤ 4) (hl : LnOk lines) (hw : PermOk w) : (Txt.join "" (w.map fun k => lines.getD k.toNat "")).length ≤ 400 ∧ (pageS front back lines w).length ≤ 408 ∧ JoinOk "" (w.map fun k => lines.getD k.toNat "") = true := by
  have hlen : ∀ x ∈ w.map fun k => lines.getD k.toNat "", x.length ≤ 100 := fun x hx => by
    obtain ⟨k, hk, rfl⟩ := List.mem_map.mp hx
    exact (hl.at (hw.2 k hk)).2
  have h1 := join_len _ hlen
  rw [List.length_map, hw.1] at h1
  refine ⟨h1, ?_, joinok_small (by rw [List.length_map, hw.1]; decide) fun x hx => Nat.le_trans (hlen x hx) (by decide)⟩
  unfold pageS
  rw [Str.length_append, Str.length_append]; exact le3 (c3 _ _ _) (.v 0) (.n 4) (.v 1) (.n 4) (.v 2) (.m 100 (.n 4)) (.a (.a (.v 0) (.v 2)) (.v 1)) (.n 408) hf hb h1
section
variable {g : Gd} {d : Nat} {nm qn : Str} {doc pm cd : Value} {L : Addr} {K : Fl → Sg → Prop}
theorem segH {front back : Str} {lines : List Str} {w : List Int} {ov linev kv cv tv dv : V} (lb : Lb g) (hf : front.length ≤ 4) (hb : back.length ≤ 4) (hl : LnOk lines) (hw : PermOk w)
    (h : X g (d + 8) (lawE nm qn doc pm cd L) [("page", .val (.str (pageS front back lines w))), ("order", .val ov), ("line", .val linev), ("keys", .val kv),
      ("wanted", .val (intsV w)), ("comings", .val cv), ("front", .val (.str front)), ("back", .val (.str back)), ("lines", .val (.list (lines.map V.str))), ("texts", .val tv), ("draws", .val dv)] (lawD 18) K) :
    X g (d + 8) (lawE nm qn doc pm cd L) [("order", .val ov), ("line", .val linev), ("keys", .val kv),
      ("wanted", .val (intsV w)), ("comings", .val cv), ("front", .val (.str front)), ("back", .val (.str back)), ("lines", .val (.list (lines.map V.str))), ("texts", .val tv), ("draws", .val dv)] (lawD 17) K := by
  have hszl : sizeLine = 2 ^ 24 := rfl
  obtain ⟨hp1, hp2, hp3⟩ := page_len hf hb hl hw
  refine x_assign 17 rfl (by decide) ?_ (by rfl)
  refine ev_bin ?_
  refine ev_bin ?_
  refine ev_var (v := .str front) (by rfl) ?_
  refine ev_meth ?_
  walk_at "mine"
  refine ⟨_, meth_str F.slot_str_join F.type_str_join F.plainAttrs_str, ?_⟩
  refine evs_cons ?_
  refine ev_comp (cl := ?_) ?_ (by rfl) ?_ ?_ ?_ ?_ ?_
  rotate_left
  · exact ⟨rfl, .inl rfl, .inl rfl, trivial⟩
  · show (["lines"] : List Str).Nodup
    decide
  · decide
  · rfl
  · decide
  refine it_of ?_
  refine ev_var (v := intsV w) (by rfl) ?_
  refine itv_list ?_
  intro C
  refine comp_lines hl hw (fun x hx => ?_) ?_
  · refine asl_name ⟨sub_bind (by rfl), ?_⟩ (by rfl)
    refine ev_sub ?_
    refine ev_var (v := .list (lines.map V.str)) (by rfl) ?_
    refine ev_var (v := .int x) (by rfl) ?_
    exact sub_list (by lia) (hl.at hx).1 rfl
  refine evs_nil ?_
  refine call_join hp3 ?_
  refine bin_add_s (by exact le2 (c2 _ _) (.v 0) (.n 4) (.v 1) (.n 400) (.a (.v 0) (.v 1)) (.n 16777216) hf hp1) ?_
  refine ev_var (v := .str back) (by rfl) ?_
  refine bin_add_s (by rw [Str.length_append]; exact le3 (c3 _ _ _) (.v 0) (.n 4) (.v 1) (.n 4) (.v 2) (.n 400) (.a (.a (.v 0) (.v 2)) (.v 1)) (.n 16777216) hf hb hp1) ?_
  exact h
end
end

section
noncomputable def p2 (front back a b : Str) : Str := front ++ "..." ++ a ++ "..." ++ b ++ "..." ++ back
noncomputable def p3 (front back a b c : Str) : Str := front ++ "..." ++ a ++ "..." ++ b ++ "..." ++ c ++ "..." ++ back
noncomputable def lnl (lines : List Str) (line : List Int) (i : Nat) : Str := lines.getD (line.getD i 0).toNat ""
noncomputable def wK (front back page : Str) (l : Nat → Str) (i j k : Nat) : List Str := if ellip (p3 front back (l i) (l k) (l j)) page then [p3 front back (l k) (l j) (l i)] else []
noncomputable def wI (front back page : Str) (l : Nat → Str) (j i : Nat) : List Str := (if ellip (p2 front back (l j) (l i)) page then [p2 front back (l i) (l j)] else []) ++ (List.range' (j + 1) (3 - j)).flatMap (wK front back page l i j)
noncomputable def wJ (front back page : Str) (l : Nat → Str) (j : Nat) : List Str := (List.range' 0 j).flatMap (wI front back page l j)
noncomputable def wantsS (front back page : Str) (l : Nat → Str) : List Str := (List.range' 0 4).flatMap (wJ front back page l)
theorem flatMap_len {α β : Type} (f : α → List β) (B : Nat) (h : ∀ x, (f x).length ≤ B) : ∀ l : List α, (l.flatMap f).length ≤ l.length * B
  | [] => by simp
  | x :: r => by
    have h1 := h x
    have h2 := flatMap_len f B h r
    rw [List.flatMap_cons, List.length_append, List.length_cons, Nat.add_mul, Nat.one_mul]; exact le2 (c4 _ _ _ _) (.v 0) (.v 1) (.v 2) (.v 3) (.a (.v 0) (.v 2)) (.a (.v 3) (.v 1)) h1 h2
theorem wK_len {front back page : Str} {l : Nat → Str} {i j k : Nat} : (wK front back page l i j k).length ≤ 1 := by unfold wK; split <;> simp
theorem wI_len {front back page : Str} {l : Nat → Str} {i j : Nat} : (wI front back page l j i).length ≤ 4 := by
  unfold wI
  have h1 := flatMap_len (wK front back page l i j) 1 (fun _ => wK_len) (List.range' (j + 1) (3 - j))
  rw [List.length_range'] at h1
  rw [List.length_append]
  revert h1
  generalize (List.flatMap (wK front back page l i j) (List.range' (j + 1) (3 - j))).length = m
  intro h1
  split
  · rw [List.length_singleton]; omega
  · rw [List.length_nil]; omega
theorem wJ_len {front back page : Str} {l : Nat → Str} {j : Nat} : (wJ front back page l j).length ≤ j * 4 := by
  unfold wJ
  have h1 := flatMap_len (wI front back page l j) 4 (fun _ => wI_len) (List.range' 0 j)
  rwa [List.length_range'] at h1
noncomputable def wJ' (front back page : Str) (l : Nat → Str) (j : Nat) : List Str := if j < 4 then wJ front back page l j else []
theorem wJ'_len {front back page : Str} {l : Nat → Str} {j : Nat} : (wJ' front back page l j).length ≤ 12 := by
  unfold wJ'
  split
  · exact Nat.le_trans wJ_len (by lia)
  · exact Nat.zero_le _
theorem wJ'_all {front back page : Str} {l : Nat → Str} : (List.range' 0 4).flatMap (wJ' front back page l) = wantsS front back page l := by
  unfold wantsS
  have e : ∀ r : List Nat, (∀ x ∈ r, x < 4) → r.flatMap (wJ' front back page l) = r.flatMap (wJ front back page l) := by
    intro r
    induction r with
    | nil => intro _; rfl
    | cons x r ih =>
      intro h
      rw [List.flatMap_cons, List.flatMap_cons, ih fun y hy => h y (.tail _ hy)]
      rw [show wJ' front back page l x = wJ front back page l x by unfold wJ'; rw [if_pos (h x (by simp))]]
  exact e _ (by decide)
noncomputable def forB : Stmt → List Stmt
  | .For _ _ b _ _ => b
  | _ => []
noncomputable def jB : List Stmt := forB (lawS 19)
noncomputable def iB : List Stmt := forB (jB.getD 0 (.Pass ⟨0, 0, 0, 0⟩))
noncomputable def kB : List Stmt := forB (iB.getD 2 (.Pass ⟨0, 0, 0, 0⟩))
section
variable {g : Gd} {d : Nat} {env : Env}
theorem loop_acc {x : Str} {p : Pos} {body : List Stmt} {base : Sg} {W : Nat → List Str} {K : Fl → Sg → Prop} {B N : Nat} (hx : isVar env x = true) (hB : ∀ k, (W k).length ≤ B) :
    ∀ (n a : Nat) (acc : List Str) (σ : Sg), acc.length + n * B ≤ N →
    (∀ k acc σ (K' : Fl → Sg → Prop), a ≤ k → k < a + n → acc.length ≤ N → Sub ((x, .val (.int (k : Int))) :: ("wants", .own (acc.map V.str)) :: base) σ → (∀ σ', Sub (("wants", .own ((acc ++ W k).map V.str)) :: base) σ' → K' .next σ') → Exs g d env σ body K') →
    Sub (("wants", .own (acc.map V.str)) :: base) σ → (∀ σ', Sub (("wants", .own ((acc ++ (List.range' a n).flatMap W).map V.str)) :: base) σ' → K .next σ') →
    loopP g d env (.Name x p) body K ((List.range' a n).map fun i : Nat => V.int i) σ
  | 0, a, acc, σ, hN, step, hs, done => by
    show K .next σ
    exact done σ (by simpa using hs)
  | n + 1, a, acc, σ, hN, step, hs, done => by
    rw [Nat.add_mul, Nat.one_mul] at hN
    show As g d env σ (.Name x p) (.int (a : Int)) _
    refine as_name ?_ hx
    refine step a acc _ _ (Nat.le_refl _) (by exact le0 (c2 _ _) (.a (.v 0) (.n 1)) (.a (.v 0) (.a (.v 1) (.n 1)))) (by exact le1 (c4 _ _ _ _) (.a (.v 0) (.a (.v 1) (.v 2))) (.v 3) (.v 0) (.v 3) hN) (sub_push hs) fun σ' hs' => ?_
    refine ⟨σ', Sub.refl _, ?_⟩
    have hBa := hB a
    refine loop_acc hx hB n (a + 1) (acc ++ W a) σ' (by rw [List.length_append]; exact le2 (c5 _ _ _ _ _) (.a (.v 0) (.a (.v 1) (.v 2))) (.v 3) (.v 4) (.v 2) (.a (.a (.v 0) (.v 4)) (.v 1)) (.v 3) hN hBa) (fun k acc σ K' h1 h2 => step k acc σ K' (by exact le1 (c2 _ _) (.a (.v 0) (.n 1)) (.v 1) (.v 0) (.v 1) h1) (by exact le1 (c3 _ _ _) (.a (.v 0) (.n 1)) (.a (.a (.v 1) (.n 1)) (.v 2)) (.a (.v 0) (.n 1)) (.a (.v 1) (.a (.v 2) (.n 1))) h2)) hs' fun σ'' hs'' => done σ'' ?_
    rw [List.range'_succ, List.flatMap_cons, ← List.append_assoc]; exact hs''
end
section
variable {g : Gd} {d : Nat} {nm qn : Str} {doc pm cd : Value} {L : Addr}
noncomputable def base0 (front back page : Str) (lines : List Str) (line : List Int) (ov kv wv cv tv dv : V) : Sg := [("page", .val (.str page)), ("order", .val ov), ("line", .val (intsV line)), ("keys", .val kv), ("wanted", .val wv), ("comings", .val cv), ("front", .val (.str front)), ("back", .val (.str back)), ("lines", .val (.list (lines.map V.str))), ("texts", .val tv), ("draws", .val dv)]
theorem lnl_at {lines : List Str} {line : List Int} (hl : LnOk lines) (hw : PermOk line) (i : Nat) (hi : i < 4) : ixV (line.map V.int) (i : Int) = some (.int (line.getD i 0)) ∧ (-(2 ^ 63) ≤ line.getD i 0 ∧ line.getD i 0 < 2 ^ 63) ∧ ixV (lines.map V.str) (line.getD i 0) = some (.str (lnl lines line i)) ∧ (lnl lines line i).length ≤ 100 := by
  have hm := hw.2 (line.getD i 0) (getD_mem (by rw [hw.1]; exact hi))
  exact ⟨ixV_mapN V.int line 0 i (by rw [hw.1]; exact hi), by lia, (hl.at hm).1, (hl.at hm).2⟩
theorem kbody {front back page : Str} {lines : List Str} {line : List Int} {ov kv wv cv tv dv jv : V} {a b : Str} {k : Nat} {acc : List Str} {σ : Sg} {K : Fl → Sg → Prop} (lb : Lb g) (hf : front.length ≤ 4) (hb : back.length ≤ 4) (hpg : page.length ≤ 408) (hl : LnOk lines) (hw : PermOk line)
    (ha : a.length ≤ 100) (hbl : b.length ≤ 100) (hk : k < 4) (hacc : acc.length ≤ 1000)
    (hs : Sub (("k", .val (.int (k : Int))) :: ("wants", .own (acc.map V.str)) :: ("a", .val (.str a)) :: ("b", .val (.str b)) :: ("j", .val jv) :: base0 front back page lines line ov kv wv cv tv dv) σ)
    (h : ∀ σ', Sub (("wants", .own ((acc ++ (if ellip (p3 front back a (lnl lines line k) b) page then [p3 front back (lnl lines line k) b a] else [])).map V.str)) :: ("a", .val (.str a)) :: ("b", .val (.str b)) :: ("j", .val jv) :: base0 front back page lines line ov kv wv cv tv dv) σ' → K .next σ') :
    Exs g (d + 8) (lawE nm qn doc pm cd L) σ kB K := by
  have hszl : sizeLine = 2 ^ 24 := rfl
  have hell := lb.ell.1
  obtain ⟨h1, h2, h3, h4⟩ := lnl_at hl hw k hk
  revert h h3 h4
  generalize lnl lines line k = c
  intro h h3 h4
  refine (exs_weakS hs : Exs _ _ _ _ _ _ → Exs _ _ _ _ _ _) ?_
  refine exs_cons ?_
  refine ex_assign ?_ (by rfl)
  refine ev_sub ?_
  refine ev_var (v := .list (lines.map V.str)) (by rfl) ?_
  refine ev_sub ?_
  refine ev_var (v := intsV line) (by rfl) ?_
  refine ev_var (v := .int (k : Int)) (by rfl) ?_
  refine sub_list (by lia) h1 ?_
  refine sub_list h2 h3 ?_
  refine exs_cons ?_
  refine ex_if ?_
  refine ts_cmp ?_
  walk_at "mine"
  walk_at "mine"
  refine ⟨_, rfl, lb.ell.callee, ?_⟩
  have q : EllOk (p3 front back a c b) page := by
    unfold p3; constructor
    · simp only [Str.length_append, ln_dots]; exact le5 (c5 _ _ _ _ _) (.v 0) (.n 4) (.v 1) (.n 4) (.v 2) (.n 100) (.v 3) (.n 100) (.v 4) (.n 100) (.a (.a (.a (.a (.a (.a (.a (.a (.v 0) (.n 3)) (.v 2)) (.n 3)) (.v 4)) (.n 3)) (.v 3)) (.n 3)) (.v 1)) (.n 900) hf hb ha hbl h4
    · exact le1 (c1 _) (.v 0) (.n 408) (.v 0) (.n 900) hpg
  repeat (walk_at "str")
  refine ell_ok lb q ?_
  repeat (walk_at "mine")
  refine cmp_is rfl rfl ?_
  refine true_b ?_
  refine ⟨fun e => ?_, fun e => ?_⟩
  · have e : (ellip (p3 front back a c b) page == true) = true := e
    have e : ellip (p3 front back a c b) page = true := by simpa using e
    rw [e] at h
    refine exs_cons ?_
    refine ex_append (by rfl) ?_
    repeat (walk_at "str")
    refine ⟨by rw [List.length_map]; exact le1 (c1 _) (.v 0) (.n 1000) (.v 0) (.n 16777216) hacc, ?_⟩
    refine exs_nil ?_
    refine (exs_nil ?_ : Exs _ _ _ _ [] _)
    refine h _ ?_
    refine sub_cons ?_ ?_
    · rw [List.map_append]; rfl
    · (repeat (refine sub_cons (by rfl) ?_)); exact sub_nil
  · have e : (ellip (p3 front back a c b) page == true) = false := e
    have e : ellip (p3 front back a c b) page = false := by simpa using e
    rw [e] at h
    refine exs_nil ?_
    refine (exs_nil ?_ : Exs _ _ _ _ [] _)
    refine h _ ?_
    refine sub_cons ?_ ?_
    · rw [if_neg Bool.false_ne_true, List.append_nil]; rfl
    · (repeat (refine sub_cons (by rfl) ?_)); exact sub_nil

theorem ibody {front back page : Str} {lines : List Str} {line : List Int} {ov kv wv cv tv dv : V} {i j : Nat} {acc : List Str} {σ : Sg} {K : Fl → Sg → Prop} (lb : Lb g) (hf : front.length ≤ 4) (hb : back.length ≤ 4) (hpg : page.length ≤ 408) (hl : LnOk lines) (hw : PermOk line)
    (hi : i < 4) (hj : j < 4) (hacc : acc.length ≤ 900)
    (hs : Sub (("i", .val (.int (i : Int))) :: ("wants", .own (acc.map V.str)) :: ("j", .val (.int (j : Int))) :: base0 front back page lines line ov kv wv cv tv dv) σ)
    (h : ∀ σ', Sub (("wants", .own ((acc ++ wI front back page (lnl lines line) j i).map V.str)) :: ("j", .val (.int (j : Int))) :: base0 front back page lines line ov kv wv cv tv dv) σ' → K .next σ') :
    Exs g (d + 8) (lawE nm qn doc pm cd L) σ iB K := by
  have hszl : sizeLine = 2 ^ 24 := rfl
  have hell := lb.ell.1
  obtain ⟨h1, h2, h3, h4⟩ := lnl_at hl hw i hi
  obtain ⟨h1', h2', h3', h4'⟩ := lnl_at hl hw j hj
  have hwi : wI front back page (lnl lines line) j i = (if ellip (p2 front back (lnl lines line j) (lnl lines line i)) page then [p2 front back (lnl lines line i) (lnl lines line j)] else []) ++ (List.range' (j + 1) (3 - j)).flatMap (fun k => if ellip (p3 front back (lnl lines line i) (lnl lines line k) (lnl lines line j)) page then [p3 front back (lnl lines line k) (lnl lines line j) (lnl lines line i)] else []) := rfl
  rw [hwi] at h
  clear hwi
  revert h h3 h4 h3' h4'
  generalize lnl lines line i = a
  generalize lnl lines line j = b
  intro h h3 h4 h3' h4'
  refine (exs_weakS hs : Exs _ _ _ _ _ _ → Exs _ _ _ _ _ _) ?_
  refine exs_cons ?_
  first
  | refine ex_tup_new (xs := ["a", "b"]) ?_ (by rfl) (by rfl) (by decide) (by rfl) (by rfl)
  | refine ex_tup_new_swapped (xs := ["a", "b"]) ?_ (by rfl) (by decide) (by rfl) (by rfl)
  refine evns_cons (evn_val ?_)
  refine ev_sub ?_
  refine ev_var (v := .list (lines.map V.str)) (by rfl) ?_
  refine ev_sub ?_
  refine ev_var (v := intsV line) (by rfl) ?_
  refine ev_var (v := .int (i : Int)) (by rfl) ?_
  refine sub_list (by lia) h1 ?_
  refine sub_list h2 h3 ?_
  refine evns_cons (evn_val ?_)
  refine ev_sub ?_
  refine ev_var (v := .list (lines.map V.str)) (by rfl) ?_
  refine ev_sub ?_
  refine ev_var (v := intsV line) (by rfl) ?_
  refine ev_var (v := .int (j : Int)) (by rfl) ?_
  refine sub_list (by lia) h1' ?_
  refine sub_list h2' h3' ?_
  refine evns_nil ⟨rfl, ?_⟩
  refine exs_cons ?_
  refine ex_if_join (fun σ' => Sub (("wants", .own ((acc ++ if ellip (p2 front back b a) page then [p2 front back a b] else []).map V.str)) :: ("a", .val (.str a)) :: ("b", .val (.str b)) :: ("j", .val (.int (j : Int))) :: base0 front back page lines line ov kv wv cv tv dv) σ') ?_ ?_
  · refine ts_cmp ?_
    walk_at "mine"
    walk_at "mine"
    refine ⟨_, rfl, lb.ell.callee, ?_⟩
    have q : EllOk (p2 front back b a) page := by
      unfold p2; constructor
      · simp only [Str.length_append, ln_dots]; exact le4 (c4 _ _ _ _) (.v 0) (.n 4) (.v 1) (.n 4) (.v 2) (.n 100) (.v 3) (.n 100) (.a (.a (.a (.a (.a (.a (.v 0) (.n 3)) (.v 3)) (.n 3)) (.v 2)) (.n 3)) (.v 1)) (.n 900) hf hb h4 h4'
      · exact le1 (c1 _) (.v 0) (.n 408) (.v 0) (.n 900) hpg
    repeat (walk_at "str")
    refine ell_ok lb q ?_
    repeat (walk_at "mine")
    refine cmp_is rfl rfl ?_
    refine true_b ?_
    refine ⟨fun e => ?_, fun e => ?_⟩
    · have e : (ellip (p2 front back b a) page == true) = true := e
      have e : ellip (p2 front back b a) page = true := by simpa using e
      rw [e]
      refine exs_cons ?_
      refine ex_append (by rfl) ?_
      repeat (walk_at "str")
      refine ⟨by rw [List.length_map]; exact le1 (c1 _) (.v 0) (.n 900) (.v 0) (.n 16777216) hacc, ?_⟩
      refine exs_nil ?_
      refine sub_cons ?_ ?_
      · rw [List.map_append]; rfl
      · (repeat (refine sub_cons (by rfl) ?_)); exact sub_nil
    · have e : (ellip (p2 front back b a) page == true) = false := e
      have e : ellip (p2 front back b a) page = false := by simpa using e
      rw [e]
      refine exs_nil ?_
      refine sub_cons ?_ ?_
      · rw [if_neg Bool.false_ne_true, List.append_nil]; rfl
      · (repeat (refine sub_cons (by rfl) ?_)); exact sub_nil
  intro σ' hs'
  have hal : (acc ++ if ellip (p2 front back b a) page then [p2 front back a b] else []).length ≤ 901 := by
    rw [List.length_append]
    split
    · rw [List.length_singleton]; exact le1 (c1 _) (.v 0) (.n 900) (.a (.v 0) (.n 1)) (.n 901) hacc
    · rw [List.length_nil]; exact le1 (c1 _) (.v 0) (.n 900) (.a (.v 0) (.n 0)) (.n 901) hacc
  revert h hs' hal
  rw [← List.append_assoc]
  generalize (acc ++ if ellip (p2 front back b a) page then [p2 front back a b] else []) = acc'
  intro h hs' hal
  refine seq_weak hs' ?_
  refine exs_cons ?_
  refine ex_for ?_
  refine it_call ?_
  walk_at "mine"
  refine ⟨_, rfl, Callee.type _, ?_⟩
  refine evs_cons ?_
  walk_at "mine"
  refine ev_var (v := .int (j : Int)) (by rfl) ?_
  repeat (walk_at "mine")
  refine call_range2 (by lia) ?_
  rw [show ((List.range ((4 : Int) - ((j : Int) + 1)).toNat).map fun t : Nat => V.int ((j : Int) + 1 + t)) = (List.range' (j + 1) (3 - j)).map fun i : Nat => V.int i by
    rw [show ((4 : Int) - ((j : Int) + 1)).toNat = 3 - j by lia, List.range'_eq_map_range, List.map_map]
    refine List.map_congr_left fun t _ => ?_
    show V.int _ = V.int _
    congr 1]
  refine loop_acc (base := ("a", .val (.str a)) :: ("b", .val (.str b)) :: ("j", .val (.int (j : Int))) :: base0 front back page lines line ov kv wv cv tv dv) (W := fun k => if ellip (p3 front back a (lnl lines line k) b) page then [p3 front back (lnl lines line k) b a] else []) (B := 1) (N := 1000) (by rfl) (fun k => by split <;> simp) (3 - j) (j + 1) acc' _ (by lia) (fun k acc σ K' hk1 hk2 hk3 hs hK => ?_) ?_ ?_
  · exact kbody lb hf hb hpg hl hw h4 h4' (by lia) hk3 hs hK
  · (repeat (refine sub_cons (by rfl) ?_)); exact sub_nil
  · intro σ'' hs''
    refine (exs_nil ?_ : Exs _ _ _ _ [] _)
    refine h _ ?_
    refine Sub.trans ?_ hs''
    (repeat (refine sub_cons (by rfl) ?_)); exact sub_nil

set_option maxHeartbeats 2000000 in
theorem segI {front back page : Str} {lines : List Str} {line : List Int} {ov kv wv cv tv dv : V} {K : Fl → Sg → Prop} (lb : Lb g) (hf : front.length ≤ 4) (hb : back.length ≤ 4) (hpg : page.length ≤ 408) (hl : LnOk lines) (hw : PermOk line)
    (h : X g (d + 8) (lawE nm qn doc pm cd L) (("wants", .val (.list ((wantsS front back page (lnl lines line)).map V.str))) :: base0 front back page lines line ov kv wv cv tv dv) (lawD 20) K) :
    X g (d + 8) (lawE nm qn doc pm cd L) (base0 front back page lines line ov kv wv cv tv dv) (lawD 18) K := by
  have hszl : sizeLine = 2 ^ 24 := rfl
  refine x_assignN 18 rfl (by decide) ?_ (by rfl) (by rfl)
  refine evn_list ?_
  refine evs_nil ⟨by decide, ?_⟩
  refine x_for 19 rfl (by decide) ?_
  refine it_call ?_
  walk_at "mine"
  refine ⟨_, rfl, Callee.type _, ?_⟩
  repeat (walk_at "mine")
  refine call_range1 (by decide) ?_
  rw [show upto 4 = (List.range' 0 4).map fun i : Nat => V.int i from rfl]
  refine loop_acc (base := base0 front back page lines line ov kv wv cv tv dv) (W := wJ' front back page (lnl lines line)) (B := 12) (N := 100) (by rfl) (fun k => wJ'_len) 4 0 [] _ (by decide) (fun j acc σ K' hj1 hj2 hj3 hs hK => ?_) ?_ ?_
  · refine (exs_weakS hs : Exs _ _ _ _ _ _ → Exs _ _ _ _ _ _) ?_
    refine exs_cons ?_
    refine ex_for ?_
    refine it_call ?_
    walk_at "mine"
    refine ⟨_, rfl, Callee.type _, ?_⟩
    refine evs_cons ?_
    refine ev_var (v := .int (j : Int)) (by rfl) ?_
    refine evs_nil ?_
    refine call_range1 (by lia) ?_
    rw [show upto (j : Int) = (List.range' 0 j).map fun i : Nat => V.int i by rw [upto_eq, List.range_eq_range']]
    refine loop_acc (base := ("j", .val (.int (j : Int))) :: base0 front back page lines line ov kv wv cv tv dv) (W := wI front back page (lnl lines line) j) (B := 4) (N := 200) (by rfl) (fun k => wI_len) j 0 acc _ (by lia) (fun i acc σ K' hi1 hi2 hi3 hs hK => ?_) ?_ ?_
    · exact ibody lb hf hb hpg hl hw (by exact le2 (c2 _ _) (.a (.v 0) (.n 1)) (.a (.n 0) (.n 4)) (.a (.v 1) (.n 1)) (.a (.n 0) (.v 0)) (.a (.v 1) (.n 1)) (.n 4) hj2 hi2) (by omega) (by exact le1 (c1 _) (.v 0) (.n 200) (.v 0) (.n 900) hi3) hs hK
    · (repeat (refine sub_cons (by rfl) ?_)); exact sub_nil
    · intro σ'' hs''
      refine (exs_nil ?_ : Exs _ _ _ _ [] _)
      refine hK _ ?_
      refine Sub.trans ?_ hs''
      rw [show wJ' front back page (lnl lines line) j = wJ front back page (lnl lines line) j by unfold wJ'; rw [if_pos (by omega)]]
      (repeat (refine sub_cons (by rfl) ?_)); exact sub_nil
  · (repeat (refine sub_cons (by rfl) ?_)); exact sub_nil
  · intro σ'' hs''
    rw [wJ'_all, List.nil_append] at hs''
    revert h hs''
    generalize (wantsS front back page (lnl lines line)).map V.str = ws
    intro h hs''
    refine seq_x hs'' ?_
    refine x_freeze (x := "wants") (l := ws) lookup_cons_eq ?_
    refine x_weak ?_ h
    (repeat (refine sub_cons (by rfl) ?_)); exact sub_nil
end
end

section
noncomputable abbrev Tb := Int × Int × Int × Int × List (Str × Int)
noncomputable def tbV (t : Tb) : V := stV t.1 t.2.1 t.2.2.1 t.2.2.2.1 t.2.2.2.2
noncomputable def dctS (texts : List Str) (fs : List Int) : List (Str × Int) := fs.foldl (fun c f => addC c [(texts.getD f.toNat "", 1)]) []
noncomputable def sumS (ds : List Int) (fs : List Int) : Int := (fs.map fun f => ds.getD f.toNat 0).sum
noncomputable def tbS (ds : List Int) (texts : List Str) (fs : List Int) : Tb := ((fs.length : Int), (fs.length : Int), sumS ds fs, -sumS ds fs, dctS texts fs)
noncomputable def tbsS (ds : List Int) (texts : List Str) (fs : List Int) : List Tb := (List.range (fs.length + 1)).map fun i => tbS ds texts (fs.take i)
noncomputable def rowsAdd (rows : List Str) (r : Str) : List Str := if !rows.contains r then rows ++ [r] else rows
/-- what the comings leave: rows and firsts -/
noncomputable def jOut (st : List Str × List Int) (c : List Int) : Option Str → List Str × List Int
  | none => st
  | some r => (rowsAdd st.1 r, st.2 ++ [c.getD 0 0])
noncomputable def jStep (deeds : List Int → Option Str) (st : List Str × List Int) (c : List Int) : List Str × List Int := jOut st c (deeds c)
theorem addD_len : ∀ (s t : List (Str × Int)), (addD t s).length ≤ t.length + s.length
  | [], t => by simp [addD]
  | p :: r, t => by
    have h : ∀ q, (addD (dput t p.1 q) r).length ≤ t.length + (r.length + 1) := fun q => by
      have h1 := addD_len r (dput t p.1 q)
      have h2 := dput_len t p.1 q
      exact le2 (c4 _ _ _ _) (.v 0) (.a (.v 1) (.v 2)) (.v 1) (.a (.v 3) (.n 1)) (.v 0) (.a (.v 3) (.a (.v 2) (.n 1))) h1 h2
    exact h _
theorem dct_len (texts : List Str) (fs : List Int) : (dctS texts fs).length ≤ fs.length := by
  unfold dctS
  have key : ∀ (fs : List Int) (c : List (Str × Int)), (fs.foldl (fun c f => addC c [(texts.getD f.toNat "", 1)]) c).length ≤ c.length + fs.length := by
    intro fs
    induction fs with
    | nil => intro c; simp
    | cons f r ih =>
      intro c
      rw [List.foldl_cons, List.length_cons]
      have h1 := ih (addC c [(texts.getD f.toNat "", 1)])
      have h2 : (addC c [(texts.getD f.toNat "", 1)]).length ≤ c.length + 1 := by
        unfold addC
        have h3 := addD_len [(texts.getD f.toNat "", 1)] (copyD [] c)
        have h4 := copyD_len c []
        simp only [List.length_cons, List.length_nil] at h3 h4
        exact le2 (c3 _ _ _) (.v 0) (.a (.v 1) (.a (.n 0) (.n 1))) (.v 1) (.a (.n 0) (.v 2)) (.v 0) (.a (.v 2) (.n 1)) h3 h4
      exact le2 (c4 _ _ _ _) (.v 0) (.a (.v 1) (.v 2)) (.v 1) (.a (.v 3) (.n 1)) (.v 0) (.a (.v 3) (.a (.v 2) (.n 1))) h1 h2
  simpa using key fs []
theorem tbs_snoc (ds : List Int) (texts : List Str) (fs : List Int) (f : Int) : tbsS ds texts (fs ++ [f]) = tbsS ds texts fs ++ [tbS ds texts (fs ++ [f])] := by
  unfold tbsS
  rw [List.length_append, List.length_singleton, List.range_succ, List.map_append]
  congr 1
  · refine List.map_congr_left fun i hi => ?_
    have := List.mem_range.mp hi
    rw [List.take_append_of_le_length (by exact le1 (c2 _ _) (.a (.v 0) (.n 1)) (.a (.v 1) (.n 1)) (.v 0) (.v 1) this)]
  · simp only [List.map_cons, List.map_nil]
    rw [List.take_of_length_le (by simp)]
theorem tbs_last (ds : List Int) (texts : List Str) (fs : List Int) : ixV ((tbsS ds texts fs).map tbV) (-1) = some (tbV (tbS ds texts fs)) := by
  have hlen : ((tbsS ds texts fs).map tbV).length = fs.length + 1 := by simp [tbsS]
  unfold ixV seqIndex?
  rw [hlen]
  have h1 : ((-1 : Int) + ((fs.length + 1 : Nat) : Int)) = (fs.length : Nat) := by lia
  have h2 : (if (-1 : Int) < 0 then (-1 : Int) + ((fs.length + 1 : Nat) : Int) else -1) = (fs.length : Nat) := by rw [if_pos (by decide), h1]
  simp only [h2]
  rw [if_pos (by rw [Bool.and_eq_true, decide_eq_true_iff, decide_eq_true_iff]; lia)]
  show ((tbsS ds texts fs).map tbV)[((fs.length : Nat) : Int).toNat]? = _
  rw [Int.toNat_natCast, List.getElem?_map]
  unfold tbsS
  rw [List.getElem?_map, List.getElem?_range (by exact le0 (c1 _) (.a (.v 0) (.n 1)) (.a (.v 0) (.n 1)))]
  simp
theorem tb_next (ds : List Int) (texts : List Str) (fs : List Int) (f : Int) : tbS ds texts (fs ++ [f]) = (1 + (fs.length : Int), 1 + (fs.length : Int), ds.getD f.toNat 0 + sumS ds fs, -(ds.getD f.toNat 0) + -sumS ds fs, addC (dctS texts fs) [(texts.getD f.toNat "", 1)]) := by
  unfold tbS
  have h1 : sumS ds (fs ++ [f]) = ds.getD f.toNat 0 + sumS ds fs := by
    unfold sumS
    rw [List.map_append, List.sum_append]
    simp only [List.map_cons, List.map_nil, List.sum_cons, List.sum_nil]; lia
  have h2 : dctS texts (fs ++ [f]) = addC (dctS texts fs) [(texts.getD f.toNat "", 1)] := by unfold dctS; rw [List.foldl_append]; rfl
  rw [h1, h2, List.length_append, List.length_singleton]
  refine Prod.ext ?_ (Prod.ext ?_ (Prod.ext rfl (Prod.ext ?_ rfl)))
  · show ((fs.length + 1 : Nat) : Int) = 1 + (fs.length : Int); lia
  · show ((fs.length + 1 : Nat) : Int) = 1 + (fs.length : Int); omega
  · exact Int.neg_add
end

section
theorem oS_none (o : Option Str) : noGlob (oS o) = true ∧ vis (oS o) V.none = o.isNone := by cases o <;> exact ⟨rfl, rfl⟩
section
variable {g : Gd} {d : Nat} {nm qn : Str} {doc pm cd : Value} {L : Addr}
noncomputable def bJ (front back : Str) (lines ws texts : List Str) (ds : List Int) (sel : List (Int × Int)) (keys : List (List Int)) (w : List Int) (cs : List (List Int)) (linev : V) : Sg :=
  [("wants", .val (.list (ws.map V.str))), ("order", .val (.inst 73 (.list (sel.map selV)))), ("line", .val linev), ("keys", .val (.list (keys.map tupV))), ("wanted", .val (intsV w)), ("comings", .val (.list (cs.map intsV))), ("front", .val (.str front)), ("back", .val (.str back)), ("lines", .val (.list (lines.map V.str))), ("texts", .val (.list (texts.map V.str))), ("draws", .val (.list (ds.map V.int)))]
inductive JI (front back : Str) (lines ws texts : List Str) (ds : List Int) (sel : List (Int × Int)) (keys : List (List Int)) (w : List Int) (cs : List (List Int)) (linev : V) (items : List V) (σ : Sg) : Prop
  | mk (r : List (List Int)) (rows : List Str) (fs : List Int) : items = r.map intsV → Sub (("tables", .own ((tbsS ds texts fs).map tbV)) :: ("rows", .val (.list (rows.map V.str))) :: ("firsts", .own (fs.map V.int)) :: bJ front back lines ws texts ds sel keys w cs linev) σ → (∀ c ∈ r, c ∈ cs) → fs.length + r.length ≤ 24 → rows.length + r.length ≤ 24 → cs.foldl (jStep fun c => deedsS sel keys c w) ([], []) = r.foldl (jStep fun c => deedsS sel keys c w) (rows, fs) → JI front back lines ws texts ds sel keys w cs linev items σ
theorem segJ {front back : Str} {lines ws texts : List Str} {ds : List Int} {sel : List (Int × Int)} {keys : List (List Int)} {w : List Int} {cs : List (List Int)} {linev : V} {K : Fl → Sg → Prop} (lb : Lb g) (lc : Lc g) (hf : front.length ≤ 4) (hb : back.length ≤ 4) (hl : LnOk lines) (hd : ds.length = 6) (htx : texts.length = 4)
    (hs1 : ∀ p ∈ sel, 0 ≤ p.1 ∧ p.1 < 3) (hs2 : ∀ p ∈ sel, p.2.natAbs ≤ 1) (hk3 : ∀ x ∈ keys, x.length = 3) (hk4 : keys.length = 4) (hw : PermOk w) (hcs : ∀ c ∈ cs, PermOk c ∧ ∀ x ∈ w, x ∈ c) (hcl : cs.length ≤ 24) (hws : ∀ x ∈ ws, x.length ≤ 900)
    (hst : ∀ c ∈ cs, standsS ws (pageS front back lines c) = (deedsS sel keys c w).isNone)
    (h : ∀ rows fs, cs.foldl (jStep fun c => deedsS sel keys c w) ([], []) = (rows, fs) → fs.length ≤ 24 → rows.length ≤ 24 → X g (d + 8) (lawE nm qn doc pm cd L) [("tables", .val (.list ((tbsS ds texts fs).map tbV))), ("rows", .val (.list (rows.map V.str))), ("firsts", .val (.list (fs.map V.int))), ("line", .val linev), ("wanted", .val (intsV w)), ("texts", .val (.list (texts.map V.str))), ("draws", .val (.list (ds.map V.int)))] (lawD 22) K) :
    X g (d + 8) (lawE nm qn doc pm cd L) (bJ front back lines ws texts ds sel keys w cs linev) (lawD 20) K := by
  have hszl : sizeLine = 2 ^ 24 := rfl
  have hg1 := lb.deeds.1
  have hg2 := lb.told.1
  have hg3 := lb.stands.1
  have hg4 := lb.afs.1
  first
  | refine x_tup_new 20 (xs := ["tables", "rows", "firsts"]) rfl (by decide) ?_ (by rfl) (by rfl) (by decide) (by rfl) (by rfl)
  | refine x_tup_swap 20 (xs := ["tables", "rows", "firsts"]) rfl (by decide) ?_ (by rfl) (by decide) (by rfl) (by rfl)
  refine evns_cons (evn_list ?_)
  refine evs_cons ?_
  refine ev_tup ?_
  iterate 8 walk_at "mine"
  refine evs_cons ?_
  refine ev_dict0 ?_
  refine evs_nil ⟨by decide, ?_⟩
  refine evs_nil ⟨by decide, ?_⟩
  refine evns_cons (evn_val ?_)
  refine ev_list ?_
  refine evs_nil ⟨by decide, ?_⟩
  refine evns_cons (evn_list ?_)
  refine evs_nil ⟨by decide, ?_⟩
  refine evns_nil ⟨rfl, ?_⟩
  refine x_for 21 rfl (by decide) ?_
  refine it_of ?_
  refine ev_var (v := .list (cs.map intsV)) (by rfl) ?_
  refine itv_list ?_
  refine loop_inv (JI front back lines ws texts ds sel keys w cs linev) ?_ ?_ _ _ ⟨cs, [], [], rfl, ?_, fun _ h => h, by simpa using hcl, by simpa using hcl, rfl⟩
  · clear h
    rintro v r σ ⟨es, rows, fs, hi, hs, hr, hfl, hrl, hfold⟩
    cases es with
    | nil => cases hi
    | cons c es =>
      simp only [List.map_cons, List.cons.injEq] at hi
      obtain ⟨rfl, rfl⟩ := hi
      rw [List.length_cons] at hfl hrl
      have hcm := hr c (by simp)
      obtain ⟨hcp, hcw⟩ := hcs c hcm
      obtain ⟨hp1, hp2, hp3⟩ := page_len (front := front) (back := back) hf hb hl hcp
      refine as_name ?_ (by rfl)
      refine (exs_weakS (sub_push hs) : Exs _ _ _ _ _ _ → Exs _ _ _ _ _ _) ?_
      refine exs_cons ?_
      refine ex_assign ?_ (by rfl)
      walk_at "mine"
      walk_at "mine"
      refine ⟨_, rfl, lb.deeds.callee, ?_⟩
      refine evs_cons ?_
      refine ev_var (v := intsV c) (by rfl) ?_
      refine evs_cons ?_
      refine ev_var (v := intsV w) (by rfl) ?_
      refine evs_cons ?_
      refine ev_var (v := .list (keys.map tupV)) (by rfl) ?_
      refine evs_cons ?_
      refine ev_var (v := .inst 73 (.list (sel.map selV))) (by rfl) ?_
      refine evs_nil ?_
      refine deeds_ok lb lc hs1 hs2 hk3 (by exact le1 (c1 _) (.v 0) (.n 4) (.v 0) (.n 100) (Nat.le_of_eq hk4)) (by have := hcp.1; exact le1 (c1 _) (.v 0) (.n 4) (.v 0) (.n 100) (Nat.le_of_eq this)) (by have := hw.1; exact le1 (c1 _) (.v 0) (.n 4) (.v 0) (.n 100) (Nat.le_of_eq this)) (fun x hx => by have := hcp.2 x hx; lia) hcw ?_
      rw [List.foldl_cons] at hfold
      have hst := hst c hcm
      rw [show jStep (fun c => deedsS sel keys c w) (rows, fs) c = jOut (rows, fs) c (deedsS sel keys c w) from rfl] at hfold
      revert hfold hst
      generalize deedsS sel keys c w = o
      intro hfold hst
      obtain ⟨on1, on2⟩ := oS_none o
      refine exs_cons ?_
      refine ex_if ?_
      refine ts_not ?_
      refine ts_of ?_
      walk_at "mine"
      walk_at "mine"
      refine ⟨_, rfl, lb.told.callee, ?_⟩
      refine evs_cons ?_
      refine ev_list ?_
      refine evs_cons ?_
      walk_at "mine"
      walk_at "mine"
      refine ⟨_, rfl, lb.stands.callee, ?_⟩
      refine evs_cons ?_
      refine ev_var (v := .list (ws.map V.str)) (by rfl) ?_
      refine evs_cons ?_
      refine ev_bin ?_
      refine ev_bin ?_
      refine ev_var (v := .str front) (by rfl) ?_
      refine ev_meth ?_
      walk_at "mine"
      refine ⟨_, meth_str F.slot_str_join F.type_str_join F.plainAttrs_str, ?_⟩
      refine evs_cons ?_
      refine ev_comp (cl := ?_) ?_ (by rfl) ?_ ?_ ?_ ?_ ?_
      rotate_left
      · exact ⟨rfl, .inl rfl, .inl rfl, trivial⟩
      · show (["lines"] : List Str).Nodup
        decide
      · decide
      · rfl
      · decide
      refine it_of ?_
      refine ev_var (v := intsV c) (by rfl) ?_
      refine itv_list ?_
      intro C
      refine comp_lines hl hcp (fun x hx => ?_) ?_
      · refine asl_name ⟨sub_bind (by rfl), ?_⟩ (by rfl)
        refine ev_sub ?_
        refine ev_var (v := .list (lines.map V.str)) (by rfl) ?_
        refine ev_var (v := .int x) (by rfl) ?_
        exact sub_list (by lia) (hl.at hx).1 rfl
      refine evs_nil ?_
      refine call_join hp3 ?_
      refine bin_add_s (by exact le2 (c2 _ _) (.v 0) (.n 4) (.v 1) (.n 400) (.a (.v 0) (.v 1)) (.n 16777216) hf hp1) ?_
      refine ev_var (v := .str back) (by rfl) ?_
      refine bin_add_s (by rw [Str.length_append]; exact le3 (c3 _ _ _) (.v 0) (.n 4) (.v 1) (.n 4) (.v 2) (.n 400) (.a (.a (.v 0) (.v 2)) (.v 1)) (.n 16777216) hf hb hp1) ?_
      refine evs_nil ?_
      refine stands_ok (t := pageS front back lines c) lb (fun x hx => ⟨hws x hx, by exact le1 (c1 _) (.v 0) (.n 408) (.v 0) (.n 900) hp2⟩) ?_
      refine evs_nil ⟨by simp; exact le0 (c1 0) (.n 1) (.n 16777216), ?_⟩
      refine evs_cons ?_
      refine ev_list ?_
      refine evs_cons ?_
      refine ev_cmp ?_
      refine ev_var (v := oS o) (by rfl) ?_
      walk_at "mine"
      refine cmp_is rfl on1 ?_
      refine evs_nil ⟨by simp; exact le0 (c1 0) (.n 1) (.n 16777216), ?_⟩
      refine evs_nil ?_
      refine told_ok (l := [standsS ws (pageS front back lines c)]) (l' := [vis (oS o) V.none]) lb (by simp) ?_
      rw [on2, hst]
      refine true_b ?_
      refine ⟨fun e => by simp at e, fun _ => ?_⟩
      refine exs_nil ?_
      cases o with
      | none =>
        refine exs_cons ?_
        refine ex_if ?_
        refine ts_cmp ?_
        refine ev_var (v := .none) (by rfl) ?_
        walk_at "mine"
        refine cmp_isn rfl rfl ?_
        refine true_b ?_
        refine ⟨fun e => by simp [vis] at e, fun _ => ?_⟩
        refine exs_nil ?_
        refine (exs_nil ?_ : Exs _ _ _ _ [] _)
        refine ⟨_, Sub.refl _, es, rows, fs, rfl, ?_, fun x hx => hr x (.tail _ hx), by exact le1 (c2 _ _) (.a (.v 0) (.a (.v 1) (.n 1))) (.n 24) (.a (.v 0) (.v 1)) (.n 24) hfl, by exact le1 (c2 _ _) (.a (.v 0) (.a (.v 1) (.n 1))) (.n 24) (.a (.v 0) (.v 1)) (.n 24) hrl, hfold⟩
        (repeat (refine sub_cons (by rfl) ?_)); exact sub_nil
      | some dd =>
        have hc0 := hcp.2 (c.getD 0 0) (getD_mem (by have := hcp.1; exact le1 (c1 _) (.n 4) (.v 0) (.a (.n 0) (.n 1)) (.v 0) (Nat.le_of_eq this.symm)))
        refine exs_cons ?_
        refine ex_if ?_
        refine ts_cmp ?_
        refine ev_var (v := .str dd) (by rfl) ?_
        walk_at "mine"
        refine cmp_isn rfl rfl ?_
        refine true_b ?_
        refine ⟨fun _ => ?_, fun e => by simp [vis] at e⟩
        refine exs_cons ?_
        refine ex_assign ?_ (by rfl)
        refine ev_sub ?_
        refine ev_var (v := intsV c) (by rfl) ?_
        walk_at "mine"
        refine sub_list (v := .int (c.getD 0 0)) (by decide) (ixV_mapN V.int c 0 0 (by have := hcp.1; exact le1 (c1 _) (.n 4) (.v 0) (.a (.n 0) (.n 1)) (.v 0) (Nat.le_of_eq this.symm))) ?_
        rw [show jOut (rows, fs) c (some dd) = (rowsAdd rows dd, fs ++ [c.getD 0 0]) from rfl] at hfold
        revert hfold hc0
        generalize c.getD 0 0 = f
        intro hfold hc0
        have hdl := dct_len texts fs
        refine exs_cons ?_
        refine ex_append (by rfl) ?_
        walk_at "mine"
        walk_at "mine"
        refine ⟨_, rfl, lb.afs.callee, ?_⟩
        refine evs_cons ?_
        refine ev_own_sub (l := (tbsS ds texts fs).map tbV) (by rfl) ?_
        repeat (walk_at "mine")
        refine ⟨_, tbV (tbS ds texts fs), rfl, by decide, tbs_last ds texts fs, ?_⟩
        refine evs_cons ?_
        refine ev_tup ?_
        iterate 4 walk_at "mine"
        refine evs_cons ?_
        refine ev_sub ?_
        refine ev_var (v := .list (ds.map V.int)) (by rfl) ?_
        refine ev_var (v := .int f) (by rfl) ?_
        refine sub_list (v := .int (ds.getD f.toNat 0)) (by omega) (ixV_map V.int ds 0 f (by lia) (by lia)) ?_
        refine evs_cons ?_
        refine ev_un ?_
        refine ev_sub ?_
        refine ev_var (v := .list (ds.map V.int)) (by rfl) ?_
        refine ev_var (v := .int f) (by rfl) ?_
        refine sub_list (v := .int (ds.getD f.toNat 0)) (by omega) (ixV_map V.int ds 0 f (by omega) (by omega)) ?_
        refine un_neg ?_
        refine evs_cons ?_
        refine ev_dict1 ?_
        refine ev_sub ?_
        refine ev_var (v := .list (texts.map V.str)) (by rfl) ?_
        refine ev_var (v := .int f) (by rfl) ?_
        refine sub_list (v := .str (texts.getD f.toNat "")) (by omega) (ixV_map V.str texts "" f (by omega) (by lia)) ?_
        walk_at "mine"
        refine ⟨_, _, rfl, rfl, ?_⟩
        refine evs_nil ⟨by simp; exact le0 (c1 0) (.n 5) (.n 16777216), ?_⟩
        refine evs_nil ?_
        refine afs_ok lb (Nat.le_trans hdl (by exact le1 (c2 _ _) (.a (.v 0) (.a (.v 1) (.n 1))) (.n 24) (.v 0) (.n 300) hfl)) (by simp) ?_
        refine ⟨by rw [List.length_map]; unfold tbsS; rw [List.length_map, List.length_range]; exact le1 (c2 _ _) (.a (.v 0) (.a (.v 1) (.n 1))) (.n 24) (.a (.v 0) (.n 1)) (.n 16777216) hfl, ?_⟩
        refine exs_cons ?_
        refine ex_append (x := "firsts") (l := fs.map V.int) (by rfl) ?_
        refine ev_var (v := .int f) (by rfl) ?_
        refine ⟨by rw [List.length_map]; exact le1 (c2 _ _) (.a (.v 0) (.a (.v 1) (.n 1))) (.n 24) (.v 0) (.n 16777216) hfl, ?_⟩
        refine exs_cons ?_
        refine ex_assign ?_ (by rfl)
        refine ev_ite ?_
        refine ts_cmp ?_
        refine ev_var (v := .str dd) (by rfl) ?_
        refine ev_var (v := .list (rows.map V.str)) (by rfl) ?_
        refine cmp_nin_l ?_
        refine true_b ?_
        have fin : ∀ rows' : List Str, rows' = rowsAdd rows dd → rows'.length ≤ rows.length + 1 → ∃ (r' : List (List Int)) (rows'' : List Str) (fs' : List Int), es.map intsV = r'.map intsV ∧ ((tbsS ds texts (fs ++ [f])).map tbV) = (tbsS ds texts fs').map tbV ∧ rows'' = rows' ∧ fs' = fs ++ [f] ∧ (∀ c ∈ r', c ∈ cs) ∧ fs'.length + r'.length ≤ 24 ∧ rows''.length + r'.length ≤ 24 ∧
            cs.foldl (jStep fun c => deedsS sel keys c w) ([], []) = r'.foldl (jStep fun c => deedsS sel keys c w) (rows'', fs') := fun rows' e1 e2 =>
          ⟨es, rows', fs ++ [f], rfl, rfl, rfl, rfl, fun x hx => hr x (.tail _ hx), by rw [List.length_append, List.length_singleton]; exact le1 (c2 _ _) (.a (.v 0) (.a (.v 1) (.n 1))) (.n 24) (.a (.a (.v 0) (.n 1)) (.v 1)) (.n 24) hfl, by exact le2 (c3 _ _ _) (.a (.v 0) (.a (.v 1) (.n 1))) (.n 24) (.v 2) (.a (.v 0) (.n 1)) (.a (.v 2) (.v 1)) (.n 24) hrl e2, by rw [e1]; exact hfold⟩
        refine ⟨fun hc => ?_, fun hc => ?_⟩
        · have e1 : rows ++ [dd] = rowsAdd rows dd := by unfold rowsAdd; rw [if_pos hc]
          refine ev_bin ?_
          refine ev_var (v := .list (rows.map V.str)) (by rfl) ?_
          refine ev_list ?_
          refine evs_cons ?_
          refine ev_var (v := .str dd) (by rfl) ?_
          refine evs_nil ⟨by simp; exact le0 (c1 0) (.n 1) (.n 16777216), ?_⟩
          refine bin_add_l (by simp; exact le1 (c2 _ _) (.a (.v 1) (.a (.v 0) (.n 1))) (.n 24) (.a (.v 1) (.n 1)) (.n 16777216) hrl) ?_
          refine exs_nil ?_
          refine (exs_nil ?_ : Exs _ _ _ _ [] _)
          obtain ⟨r', rows'', fs', q1, q2, q3, q4, q5, q6, q7, q8⟩ := fin (rows ++ [dd]) e1 (by simp)
          refine ⟨_, Sub.refl _, r', rows'', fs', q1, ?_, q5, q6, q7, q8⟩
          subst q3 q4
          refine sub_cons ?_ (sub_cons ?_ (sub_cons ?_ ?_))
          · rw [tbs_snoc, tb_next, List.map_append]; rfl
          · rw [List.map_append]; rfl
          · rw [List.map_append]; rfl
          · (repeat (refine sub_cons (by rfl) ?_)); exact sub_nil
        · have e1 : rows = rowsAdd rows dd := by unfold rowsAdd; rw [hc]; rfl
          refine ev_var (v := .list (rows.map V.str)) (by rfl) ?_
          refine exs_nil ?_
          refine (exs_nil ?_ : Exs _ _ _ _ [] _)
          obtain ⟨r', rows'', fs', q1, q2, q3, q4, q5, q6, q7, q8⟩ := fin rows e1 (by simp)
          refine ⟨_, Sub.refl _, r', rows'', fs', q1, ?_, q5, q6, q7, q8⟩
          subst q3 q4
          refine sub_cons ?_ (sub_cons ?_ (sub_cons ?_ ?_))
          · rw [tbs_snoc, tb_next, List.map_append]; rfl
          · rfl
          · rw [List.map_append]; rfl
          · (repeat (refine sub_cons (by rfl) ?_)); exact sub_nil
  · rintro σ ⟨es, rows, fs, hi, hs, hr, hfl, hrl, hfold⟩
    cases es with
    | cons c es => cases hi
    | nil =>
      refine seq_x hs ?_
      refine x_freeze (x := "tables") (l := (tbsS ds texts fs).map tbV) (by rfl) ?_
      refine x_freeze (x := "firsts") (l := fs.map V.int) (by rfl) ?_
      refine x_weak ?_ (h rows fs hfold (by simpa using hfl) (by simpa using hrl))
      (repeat (refine sub_cons (by rfl) ?_)); exact sub_nil
  · (repeat (refine sub_cons (by rfl) ?_)); exact sub_nil
end
end

section
noncomputable def mxS : Int → List Int → Int
  | a, [] => a
  | a, x :: r => mxS (if x > a then x else a) r
theorem mx_prop : ∀ (l : List Int) (a : Int), mxS a l ∈ a :: l ∧ ∀ x ∈ a :: l, x ≤ mxS a l
  | [], a => by simp [mxS]
  | y :: r, a => by
    unfold mxS
    have hm : ∃ m, m = (if y > a then y else a) ∧ a ≤ m ∧ y ≤ m ∧ (m = a ∨ m = y) := by
      refine ⟨_, rfl, ?_⟩
      by_cases q : y > a
      · rw [if_pos q]; lia
      · rw [if_neg q]; lia
    obtain ⟨m, e, h1, h2, h3⟩ := hm
    rw [← e]
    have ⟨h4, h5⟩ := mx_prop r m
    have h6 := h5 m (by simp)
    refine ⟨?_, fun x hx => ?_⟩
    · rcases List.mem_cons.mp h4 with q | q
      · rw [q]; rcases h3 with q | q <;> rw [q] <;> simp
      · simp [q]
    · rcases List.mem_cons.mp hx with q | q
      · lia
      · rcases List.mem_cons.mp q with q | q
        · lia
        · exact h5 x (.tail _ q)
noncomputable def aheadS (line w : List Int) (i : Nat) : List Int := ((List.range i).filter fun j => decide (((line.idxOf (w.getD j 0) : Nat) : Int) > ((line.idxOf (w.getD i 0) : Nat) : Int))).map fun j : Nat => (j : Int)
noncomputable def dueL (line w : List Int) : Nat → Int
  | 0 => 1
  | i + 1 => dueL line w i * ((i : Int) - mxS (-1) (aheadS line w i))
noncomputable def cntD (texts : List Str) (fs : List Int) : List (Str × Int) := fs.foldl (fun acc k => dput acc (texts.getD k.toNat "") (fs.count k : Nat)) []
theorem ahead_mx (line w : List Int) (i : Nat) (hi : i < 4) : -1 ≤ mxS (-1) (aheadS line w i) ∧ mxS (-1) (aheadS line w i) ≤ 4 := by
  have h := (mx_prop (aheadS line w i) (-1))
  refine ⟨h.2 (-1) (by simp), ?_⟩
  rcases List.mem_cons.mp h.1 with q | q
  · rw [q]; decide
  · obtain ⟨j, hj, e⟩ := List.mem_map.mp q
    have := List.mem_range.mp (List.mem_filter.mp hj).1
    lia
section
variable {g : Gd} {d : Nat} {env : Env} {σ : Sg}
theorem compPD_fold {target ke ve : Expr} {kf : Int → Str} {vf : Int → Int} {K : List (Str × Int) → Prop} : ∀ (l : List Int) (acc : List (Str × Int)), acc.length + l.length ≤ 1000 →
    (∀ x ∈ l, AsL g d env σ target (.int x) fun σ' => Sub σ σ' ∧ Ev g d env σ' ke fun ku => Ev g d env σ' ve fun vu => ku = .str (kf x) ∧ vu = .int (vf x)) →
    K (l.foldl (fun acc x => dput acc (kf x) (vf x)) acc) → compPD g d env σ target ke ve K (l.map V.int) acc
  | [], acc, _, _, h => h
  | x :: r, acc, hs, hx, h => by
    rw [List.length_cons] at hs
    refine ⟨by exact le1 (c2 _ _) (.a (.v 0) (.a (.v 1) (.n 1))) (.n 1000) (.v 0) (.n 1000) hs, (hx x (by simp)).mono fun σ' ⟨a, b⟩ => ⟨a, b.mono fun ku b' => b'.mono fun vu ⟨e1, e2⟩ => ⟨kf x, vf x, e1, e2, ?_⟩⟩⟩
    have := dput_len acc (kf x) (vf x)
    exact compPD_fold r (dput acc (kf x) (vf x)) (by exact le2 (c3 _ _ _) (.a (.v 0) (.a (.v 1) (.n 1))) (.n 1000) (.v 2) (.a (.v 0) (.n 1)) (.a (.v 2) (.v 1)) (.n 1000) hs this) (fun y hy => hx y (.tail _ hy)) h
end
theorem log2_le30 {n : Nat} (h : n ≤ 30) : n.log2 < 1920 := by
  rcases Nat.eq_zero_or_pos n with q | q
  · subst q; decide
  · have := (Nat.log2_lt (n := n) (k := 5) (by exact fun hh => no10 (le2 (c1 _) (.a (.n 0) (.n 1)) (.v 0) (.v 0) (.n 0) (.n 1) (.n 0) q (Nat.le_of_eq hh)))).mpr (by exact le1 (c1 _) (.v 0) (.n 30) (.a (.v 0) (.n 1)) (.n 32) h)
    exact le1 (c1 _) (.a (.v 0) (.n 1)) (.n 5) (.a (.v 0) (.n 1)) (.n 1920) this
section
variable {g : Gd} {d : Nat} {nm qn : Str} {doc pm cd : Value} {L : Addr}
inductive KI (texts rows : List Str) (ds line w fs : List Int) (items : List V) (σ : Sg) : Prop
  | mk (i n : Nat) : items = (List.range' i n).map (fun i : Nat => V.int i) → i + n = 4 → Sub [("due", .val (.int (dueL line w i))), ("tables", .val (.list ((tbsS ds texts fs).map tbV))), ("rows", .val (.list (rows.map V.str))), ("firsts", .val (.list (fs.map V.int))), ("line", .val (intsV line)), ("wanted", .val (intsV w)), ("texts", .val (.list (texts.map V.str))), ("draws", .val (.list (ds.map V.int)))] σ → KI texts rows ds line w fs items σ
theorem segK {texts rows : List Str} {ds line w fs : List Int} {K : Fl → Sg → Prop} (lb : Lb g) (hd : ds.length = 6) (htx : texts.length = 4) (hln : PermOk line) (hw : PermOk w) (hwl : ∀ x ∈ w, x ∈ line) (hfl : fs.length ≤ 24) (hf4 : ∀ f ∈ fs, 0 ≤ f ∧ f < 4)
    (hdue : dueL line w 4 = (fs.length : Nat)) (hcnt : ∀ i, i ≤ fs.length → ((dctS texts (fs.take i)).map (·.2)).sum = (i : Int)) (hdeq : deq (dctS texts fs) (cntD texts fs) = true)
    (h : X g (d + 8) (lawE nm qn doc pm cd L) [("rows", .val (.list (rows.map V.str))), ("draws", .val (.list (ds.map V.int)))] (lawD 26) K) :
    X g (d + 8) (lawE nm qn doc pm cd L) [("tables", .val (.list ((tbsS ds texts fs).map tbV))), ("rows", .val (.list (rows.map V.str))), ("firsts", .val (.list (fs.map V.int))), ("line", .val (intsV line)), ("wanted", .val (intsV w)), ("texts", .val (.list (texts.map V.str))), ("draws", .val (.list (ds.map V.int)))] (lawD 22) K := by
  have hszl : sizeLine = 2 ^ 24 := rfl
  have hcc := lb.cc.1
  have hw1 := hw.1
  refine x_assign 22 rfl (by decide) ?_ (by rfl)
  walk_at "mine"
  refine x_for 23 rfl (by decide) ?_
  refine it_call ?_
  walk_at "mine"
  refine ⟨_, rfl, Callee.type _, ?_⟩
  repeat (walk_at "mine")
  refine call_range1 (by decide) ?_
  rw [show upto 4 = (List.range' 0 4).map fun i : Nat => V.int i from rfl]
  refine loop_inv (KI texts rows ds line w fs) ?_ ?_ _ _ ⟨0, 4, rfl, rfl, ?_⟩
  · clear h
    rintro v r σ ⟨i, n, hi, hk, hs⟩
    cases n with
    | zero => cases hi
    | succ n =>
      simp only [List.range'_succ, List.map_cons, List.cons.injEq] at hi
      obtain ⟨rfl, rfl⟩ := hi
      have hi4 : i < 4 := by exact le1 (c2 _ _) (.a (.v 0) (.a (.v 1) (.n 1))) (.n 4) (.a (.v 0) (.n 1)) (.n 4) (Nat.le_of_eq hk)
      refine as_name ?_ (by rfl)
      refine (exs_weakS (sub_push hs) : Exs _ _ _ _ _ _ → Exs _ _ _ _ _ _) ?_
      refine exs_cons ?_
      first
      | refine ex_assign_comp (cl := ?_) ?_ (by rfl) (by rfl) ?_ ?_ ?_ ?_ ?_ (by rfl)
      | (refine ex_assign ?_ (by rfl); refine ev_comp (cl := ?_) ?_ (by rfl) ?_ ?_ ?_ ?_ ?_)
      rotate_left
      · exact ⟨rfl, .inl rfl, .inl rfl, rfl, .inl rfl, .inl rfl, rfl, .inl rfl, .inl rfl, trivial⟩
      · show (["wanted", "line", "i"] : List Str).Nodup
        decide
      · decide
      · rfl
      · decide
      refine it_call ?_
      walk_at "mine"
      refine ⟨_, rfl, Callee.type _, ?_⟩
      refine evs_cons ?_
      refine ev_var (v := .int (i : Int)) (by rfl) ?_
      refine evs_nil ?_
      refine call_range1 (by lia) ?_
      intro C
      rw [upto_eq i]
      have hat : ∀ j, j < 4 → (w.getD j 0) ∈ line := fun j hj => hwl _ (getD_mem (by exact le2 (c2 _ _) (.n 4) (.v 0) (.a (.v 1) (.n 1)) (.n 4) (.a (.v 1) (.n 1)) (.v 0) (Nat.le_of_eq hw1.symm) hj))
      refine compP_fm (fun i : Nat => V.int i) (fun j => decide (((line.idxOf (w.getD j 0) : Nat) : Int) > ((line.idxOf (w.getD i 0) : Nat) : Int))) (fun i : Nat => V.int i) (List.range i) [] (by simp; exact le1 (c2 _ _) (.a (.v 0) (.a (.v 1) (.n 1))) (.n 4) (.v 0) (.n 16777216) (Nat.le_of_eq hk)) (fun j hj => ?_) ?_
      · have hj : j < i := List.mem_range.mp hj
        refine asl_name ⟨sub_bind (by rfl), ?_⟩ (by rfl)
        refine ts_cmp ?_
        refine ev_meth ?_
        refine ev_var (v := intsV line) (by rfl) ?_
        refine ⟨_, meth_list F.slot_list_index F.type_list_index, ?_⟩
        refine evs_cons ?_
        refine ev_sub ?_
        refine ev_var (v := intsV w) (by rfl) ?_
        refine ev_var (v := .int (j : Int)) (by rfl) ?_
        refine sub_list (v := .int (w.getD j 0)) (by lia) (ixV_mapN V.int w 0 j (by exact le3 (c4 _ _ _ _) (.n 4) (.v 0) (.a (.v 1) (.a (.v 2) (.n 1))) (.n 4) (.a (.v 3) (.n 1)) (.v 1) (.a (.v 3) (.n 1)) (.v 0) (Nat.le_of_eq hw1.symm) (Nat.le_of_eq hk) hj)) ?_
        refine evs_nil ?_
        refine call_index (hat j (by exact le2 (c3 _ _ _) (.a (.v 0) (.a (.v 1) (.n 1))) (.n 4) (.a (.v 2) (.n 1)) (.v 0) (.a (.v 2) (.n 1)) (.n 4) (Nat.le_of_eq hk) hj)) (by have := hln.1; exact le1 (c1 _) (.v 0) (.n 4) (.v 0) (.n 16777216) (Nat.le_of_eq this)) ?_
        refine ev_meth ?_
        refine ev_var (v := intsV line) (by rfl) ?_
        refine ⟨_, meth_list F.slot_list_index F.type_list_index, ?_⟩
        refine evs_cons ?_
        refine ev_sub ?_
        refine ev_var (v := intsV w) (by rfl) ?_
        refine ev_var (v := .int (i : Int)) (by rfl) ?_
        refine sub_list (v := .int (w.getD i 0)) (by lia) (ixV_mapN V.int w 0 i (by exact le2 (c3 _ _ _) (.n 4) (.v 0) (.a (.v 1) (.a (.v 2) (.n 1))) (.n 4) (.a (.v 1) (.n 1)) (.v 0) (Nat.le_of_eq hw1.symm) (Nat.le_of_eq hk))) ?_
        refine evs_nil ?_
        refine call_index (hat i (by omega)) (by have := hln.1; exact le1 (c1 _) (.v 0) (.n 4) (.v 0) (.n 16777216) (Nat.le_of_eq this)) ?_
        refine cmp_gt_i ?_
        refine true_b ?_
        exact ⟨fun e => ⟨e, ev_var (by rfl) rfl⟩, fun e => e⟩
      rw [List.nil_append]
      have hah : (((List.range i).filter fun j => decide (((line.idxOf (w.getD j 0) : Nat) : Int) > ((line.idxOf (w.getD i 0) : Nat) : Int))).map fun i : Nat => V.int i) = (aheadS line w i).map V.int := by unfold aheadS; rw [List.map_map]; rfl
      rw [hah]
      have hal : (aheadS line w i).length ≤ i := by
        unfold aheadS
        rw [List.length_map]
        exact Nat.le_trans (List.length_filter_le _ _) (by simp)
      refine exs_cons ?_
      refine ex_assign ?_ (by rfl)
      refine ev_bin ?_
      refine ev_var (v := .int (dueL line w i)) (by rfl) ?_
      refine ev_bin ?_
      refine ev_var (v := .int (i : Int)) (by rfl) ?_
      walk_at "mine"
      walk_at "mine"
      refine ⟨_, rfl, Callee.builtin _, ?_⟩
      refine evs_cons ?_
      refine ev_bin ?_
      refine ev_list ?_
      repeat (walk_at "mine")
      refine ⟨by decide, ?_⟩
      refine ev_var (v := .list ((aheadS line w i).map V.int)) (by rfl) ?_
      refine bin_add_l (by simp; exact le2 (c3 _ _ _) (.a (.v 0) (.a (.v 1) (.n 1))) (.n 4) (.v 2) (.v 0) (.a (.n 1) (.v 2)) (.n 16777216) (Nat.le_of_eq hk) hal) ?_
      refine evs_nil ?_
      refine call_max_l (l := -1 :: aheadS line w i) (by simp) fun M hM hMax => ?_
      have hmp := mx_prop (aheadS line w i) (-1)
      have hM' : M = mxS (-1) (aheadS line w i) := Int.le_antisymm (hmp.2 M hM) (hMax _ hmp.1)
      subst hM'
      have hb := ahead_mx line w i hi4
      refine bin_sub ?_
      refine bin_mul (mulok_b (by omega)) ?_
      refine exs_nil ?_
      refine ⟨_, Sub.refl _, i + 1, n, rfl, by exact Nat.le_antisymm (le1 (c2 _ _) (.a (.v 0) (.a (.v 1) (.n 1))) (.n 4) (.a (.a (.v 0) (.n 1)) (.v 1)) (.n 4) (Nat.le_of_eq hk)) (le1 (c2 _ _) (.n 4) (.a (.v 0) (.a (.v 1) (.n 1))) (.n 4) (.a (.a (.v 0) (.n 1)) (.v 1)) (Nat.le_of_eq hk.symm)), ?_⟩
      (repeat (refine sub_cons (by rfl) ?_)); exact sub_nil
  · rintro σ ⟨i, n, hi, hk, hs⟩
    cases n with
    | succ n => cases hi
    | zero =>
      have : i = 4 := by omega
      subst this
      rw [hdue] at hs
      refine seq_x hs ?_
      -- spent
      refine x_assign 24 rfl (by decide) ?_ (by rfl)
      walk_at "mine"
      walk_at "mine"
      refine ⟨_, rfl, Callee.builtin _, ?_⟩
      refine evs_cons ?_
      refine ev_comp (cl := ?_) ?_ (by rfl) ?_ ?_ ?_ ?_ ?_
      rotate_left
      · exact ⟨rfl, .inl rfl, .inl rfl, trivial⟩
      · show (["draws"] : List Str).Nodup
        decide
      · decide
      · rfl
      · decide
      refine it_of ?_
      refine ev_var (v := .list (fs.map V.int)) (by rfl) ?_
      refine itv_list ?_
      intro C
      refine compP_map V.int (fun f => V.int (ds.getD f.toNat 0)) fs (by exact le1 (c1 _) (.v 0) (.n 24) (.v 0) (.n 16777216) hfl) (fun f hf => ?_) ?_
      · have hf0 := hf4 f hf
        refine asl_name ⟨sub_bind (by rfl), ?_⟩ (by rfl)
        refine ev_sub ?_
        refine ev_var (v := .list (ds.map V.int)) (by rfl) ?_
        refine ev_var (v := .int f) (by rfl) ?_
        exact sub_list (v := .int (ds.getD f.toNat 0)) (by lia) (ixV_map V.int ds 0 f (by lia) (by lia)) rfl
      refine evs_nil ?_
      rw [show (fs.map fun f => V.int (ds.getD f.toNat 0)) = (fs.map fun f => ds.getD f.toNat 0).map V.int by rw [List.map_map]; rfl]
      refine call_sum ?_
      rw [show (fs.map fun f => ds.getD f.toNat 0).sum = sumS ds fs from rfl]
      refine x_weak (σ' := [("spent", .val (.int (sumS ds fs))), ("due", .val (.int (fs.length : Nat))), ("tables", .val (.list ((tbsS ds texts fs).map tbV))), ("rows", .val (.list (rows.map V.str))), ("firsts", .val (.list (fs.map V.int))), ("texts", .val (.list (texts.map V.str))), ("draws", .val (.list (ds.map V.int)))]) (by (repeat (refine sub_cons (by rfl) ?_)); exact sub_nil) ?_
      -- the big if
      refine x_if_not 25 rfl (by decide) ?_
      refine ts_or ?_
      refine ts_cmp ?_
      refine ev_comp (cl := []) ?_ (by rfl) trivial .nil (by decide) rfl (by decide)
      refine it_of ?_
      refine ev_var (v := .list ((tbsS ds texts fs).map tbV)) (by rfl) ?_
      refine itv_list ?_
      intro C
      refine compP_map tbV (fun t => V.str (toString ((t.2.2.2.2.map (·.2)).sum))) (tbsS ds texts fs) (by unfold tbsS; simp; exact le1 (c1 _) (.v 0) (.n 24) (.a (.v 0) (.n 1)) (.n 16777216) hfl) (fun t ht => ?_) ?_
      · obtain ⟨i, hi, rfl⟩ := List.mem_map.mp ht
        have hi : i < fs.length + 1 := List.mem_range.mp hi
        refine asl_name ⟨sub_nil, ?_⟩ (by rfl)
        walk_at "mine"
        walk_at "mine"
        refine ⟨_, rfl, Callee.type _, ?_⟩
        refine evs_cons ?_
        walk_at "mine"
        walk_at "mine"
        refine ⟨_, rfl, lb.cc.callee, ?_⟩
        refine evs_cons ?_
        refine ev_sub ?_
        refine ev_var (v := tbV (tbS ds texts (fs.take i))) (by rfl) ?_
        walk_at "mine"
        refine sub_tup (v := .dict (dctS texts (fs.take i))) (by decide) (by rfl) ?_
        refine evs_nil ?_
        refine cc_ok lb ?_
        refine evs_nil ?_
        have e := hcnt i (by exact le1 (c2 _ _) (.a (.v 0) (.n 1)) (.a (.v 1) (.n 1)) (.v 0) (.v 1) hi)
        exact call_str_i (log2_le30 (by rw [e]; lia)) rfl
      rw [show ((tbsS ds texts fs).map fun t => V.str (toString ((t.2.2.2.2.map (·.2)).sum))) = ((List.range (fs.length + 1)).map fun i : Nat => Str.ofString (toString (i : Int))).map V.str by
        unfold tbsS
        rw [List.map_map, List.map_map]
        refine List.map_congr_left fun i hi => ?_
        have e := hcnt i (by have := List.mem_range.mp hi; exact le1 (c2 _ _) (.a (.v 0) (.n 1)) (.a (.v 1) (.n 1)) (.v 0) (.v 1) this)
        show V.str (Str.ofString (toString _)) = V.str (Str.ofString (toString _))
        rw [show (List.map (·.2) (tbS ds texts (List.take i fs)).2.2.2.2).sum = (i : Int) from e]]
      refine ev_comp (cl := []) ?_ (by rfl) trivial .nil (by decide) rfl (by decide)
      refine it_call ?_
      walk_at "mine"
      refine ⟨_, rfl, Callee.type _, ?_⟩
      refine evs_cons ?_
      refine ev_bin ?_
      refine ev_var (v := .int (fs.length : Nat)) (by rfl) ?_
      repeat (walk_at "mine")
      refine call_range1 (by lia) ?_
      intro C
      rw [show upto ((fs.length : Nat) + 1 : Int) = (List.range (fs.length + 1)).map fun i : Nat => V.int i from upto_eq (fs.length + 1)]
      refine compP_map (fun i : Nat => V.int i) (fun i : Nat => V.str (toString (i : Int))) (List.range (fs.length + 1)) (by simp; exact le1 (c1 _) (.v 0) (.n 24) (.a (.v 0) (.n 1)) (.n 16777216) hfl) (fun i hi => ?_) ?_
      · have hi : i < fs.length + 1 := List.mem_range.mp hi
        refine asl_name ⟨sub_nil, ?_⟩ (by rfl)
        walk_at "mine"
        walk_at "mine"
        refine ⟨_, rfl, Callee.type _, ?_⟩
        refine evs_cons ?_
        refine ev_var (v := .int (i : Int)) (by rfl) ?_
        refine evs_nil ?_
        exact call_str_i (log2_le30 (by lia)) rfl
      rw [show ((List.range (fs.length + 1)).map fun i : Nat => V.str (toString (i : Int))) = ((List.range (fs.length + 1)).map fun i : Nat => Str.ofString (toString (i : Int))).map V.str by rw [List.map_map]; rfl]
      refine cmp_ne_l repStr ?_
      refine true_b ?_
      refine ⟨fun e => by simp at e, fun _ => ?_⟩
      refine ts_or ?_
      refine ts_cmp ?_
      refine ev_sub ?_
      refine ev_var (v := .list ((tbsS ds texts fs).map tbV)) (by rfl) ?_
      repeat (walk_at "mine")
      refine sub_list (v := tbV (tbS ds texts fs)) (by decide) (tbs_last ds texts fs) ?_
      refine ev_tup ?_
      refine evs_cons ?_
      walk_at "mine"
      walk_at "mine"
      refine ⟨_, rfl, Callee.builtin _, ?_⟩
      refine evs_cons ?_
      refine ev_var (v := .list (fs.map V.int)) (by rfl) ?_
      refine evs_nil ?_
      refine call_len_l (by simp; exact le1 (c1 _) (.v 0) (.n 24) (.v 0) (.n 16777216) hfl) ?_
      refine evs_cons ?_
      walk_at "mine"
      walk_at "mine"
      refine ⟨_, rfl, Callee.builtin _, ?_⟩
      refine evs_cons ?_
      refine ev_var (v := .list (fs.map V.int)) (by rfl) ?_
      refine evs_nil ?_
      refine call_len_l (by simp; exact le1 (c1 _) (.v 0) (.n 24) (.v 0) (.n 16777216) hfl) ?_
      refine evs_cons ?_
      refine ev_var (v := .int (sumS ds fs)) (by rfl) ?_
      refine evs_cons ?_
      refine ev_un ?_
      refine ev_var (v := .int (sumS ds fs)) (by rfl) ?_
      refine un_neg ?_
      refine evs_cons ?_
      refine ev_compD (cl := ?_) ?_ (by rfl) ?_ ?_ ?_ ?_ ?_
      rotate_left
      · exact ⟨rfl, .inl rfl, .inl rfl, rfl, .inl rfl, .inl rfl, trivial⟩
      · show (["texts", "firsts"] : List Str).Nodup
        decide
      · decide
      · rfl
      · decide
      refine it_of ?_
      refine ev_var (v := .list (fs.map V.int)) (by rfl) ?_
      refine itv_list ?_
      intro C
      refine compPD_fold (kf := fun k => texts.getD k.toNat "") (vf := fun k => (fs.count k : Nat)) fs [] (by simp; exact le1 (c1 _) (.v 0) (.n 24) (.v 0) (.n 1000) hfl) (fun x hx => ?_) ?_
      · have hf0 := hf4 x hx
        refine asl_name ⟨sub_bind (by rfl), ?_⟩ (by rfl)
        refine ev_sub ?_
        refine ev_var (v := .list (texts.map V.str)) (by rfl) ?_
        refine ev_var (v := .int x) (by rfl) ?_
        refine sub_list (v := .str (texts.getD x.toNat "")) (by omega) (ixV_map V.str texts "" x (by omega) (by lia)) ?_
        refine ev_meth ?_
        refine ev_var (v := .list (fs.map V.int)) (by rfl) ?_
        refine ⟨_, meth_list F.slot_list_count F.type_list_count, ?_⟩
        refine evs_cons ?_
        refine ev_var (v := .int x) (by rfl) ?_
        refine evs_nil ?_
        exact call_count ⟨rfl, rfl⟩
      refine evs_nil ⟨by simp; exact le0 (c1 0) (.n 5) (.n 16777216), ?_⟩
      refine cmp_ne_st (l := dctS texts fs) (l' := cntD texts fs) ?_
      rw [hdeq]
      rw [List.length_map]
      have e : (!((fs.length : Int) == ((fs.length : Nat) : Int) && (fs.length : Int) == ((fs.length : Nat) : Int) && sumS ds fs == sumS ds fs && -sumS ds fs == -sumS ds fs && true)) = false := by simp
      refine true_b ?_
      refine ⟨fun q => Bool.noConfusion ((Eq.symm q).trans e), fun _ => ?_⟩
      refine ts_or_nil ?_
      refine ⟨rfl, ?_⟩
      refine x_weak ?_ h
      (repeat (refine sub_cons (by rfl) ?_)); exact sub_nil
  · (repeat (refine sub_cons (by rfl) ?_)); exact sub_nil
end
end

section
noncomputable def bareS (rows : List Str) : List Str := [cutS (rows.getD 0 "") none (some (-1))] ++ rows ++ [cutS (rows.getD (rows.length - 1) "") (some 1) none, rows.getD 0 "", revS (rows.getD (rows.length - 1) ""), ""]
noncomputable def goodS (n : Nat) : List Bool := [false] ++ List.replicate n true ++ [false, true, false, true]
noncomputable def keptS (given : List Str) (good : List Bool) : List Str := (given.zip good).map fun p => if p.2 then p.1 else badT
theorem ixV_last {α : Type} (F : α → V) (l : List α) (a : α) (h : 0 < l.length) : ixV (l.map F) (-1) = some (F (l.getD (l.length - 1) a)) := by
  have hlen : (l.map F).length = l.length := by simp
  unfold ixV seqIndex?
  rw [hlen]
  have h2 : (if (-1 : Int) < 0 then (-1 : Int) + (l.length : Nat) else -1) = ((l.length - 1 : Nat) : Int) := by rw [if_pos (by decide)]; lia
  simp only [h2]
  rw [if_pos (by rw [Bool.and_eq_true, decide_eq_true_iff, decide_eq_true_iff]; lia)]
  show (l.map F)[((l.length - 1 : Nat) : Int).toNat]? = _
  rw [Int.toNat_natCast, List.getElem?_map, List.getD_eq_getElem?_getD, List.getElem?_eq_getElem (by lia)]
  rfl
theorem rep_bool (n : Nat) : (List.replicate n ([V.bool true] : List V)).flatten = (List.replicate n true).map V.bool := by
  induction n with
  | zero => rfl
  | succ n ih => rw [List.replicate_succ, List.replicate_succ, List.flatten_cons, ih]; rfl
theorem zip_str_bool : ∀ (a : List Str) (b : List Bool), zipV (a.map V.str) (b.map V.bool) = (a.zip b).map fun p => V.tup [.str p.1, .bool p.2]
  | [], _ => by simp [zipV]
  | _ :: _, [] => by simp [zipV]
  | x :: a, y :: b => by
    have := zip_str_bool a b
    unfold zipV at this ⊢
    simp only [List.map_cons, List.zip_cons_cons, this]
theorem hideS_len (nb : Int) : ∀ (l : List Str) (k : Nat), (hideS nb k l).length = l.length
  | [], _ => rfl
  | _ :: r, k => by simp [hideS, hideS_len nb r]
section
variable {g : Gd} {d : Nat} {env : Env} {σ : Sg} {K : V → Prop}
theorem slrev_len (x : Str) : (revS x).length = x.length := by
  show x.cps.toList.reverse.toArray.size = x.cps.size
  simp
end
section
variable {g : Gd} {d : Nat} {nm qn : Str} {doc pm cd : Value} {L : Addr}
theorem segL {rows : List Str} {ds : List Int} (lb : Lb g) (hd : ds.length = 6) (hr0 : 0 < rows.length) (hrl : rows.length ≤ 24) (hr : ∀ r ∈ rows, r.length ≤ 20)
    (hck : ∀ x ∈ hideS (ds.getD 5 0) 0 (bareS rows), CkOk x)
    (hkept : preS (hideS (ds.getD 5 0) 0 (bareS rows)) = keptS (hideS (ds.getD 5 0) 0 (bareS rows)) (goodS rows.length)) :
    X g (d + 8) (lawE nm qn doc pm cd L) [("rows", .val (.list (rows.map V.str))), ("draws", .val (.list (ds.map V.int)))] (lawD 26) (retK fun v => v = .bool true) := by
  have hszl : sizeLine = 2 ^ 24 := rfl
  have hh := lb.hide.1
  have hp := lb.pre.1
  have hR0 := hr _ (getD_mem (l := rows) (i := 0) (a := "") hr0)
  have hRl := hr _ (getD_mem (l := rows) (i := rows.length - 1) (a := "") (by omega))
  have hb1 : (bareS rows).length = rows.length + 5 := by unfold bareS; simp
  have hb2 : ∀ x ∈ bareS rows, x.length ≤ 80 := by
    intro x hx
    unfold bareS at hx
    simp only [List.mem_append, List.mem_cons, List.not_mem_nil, or_false] at hx
    have hc1 := cutS_len (rows.getD 0 "") none (some (-1))
    have hc2 := cutS_len (rows.getD (rows.length - 1) "") (some 1) none
    have hc3 := slrev_len (rows.getD (rows.length - 1) "")
    rcases hx with (rfl | hx) | rfl | rfl | rfl | rfl
    · exact le2 (c2 _ _) (.v 0) (.n 20) (.v 1) (.v 0) (.v 1) (.n 80) hR0 hc1
    · have := hr x hx; exact le1 (c1 _) (.v 0) (.n 20) (.v 0) (.n 80) this
    · exact le2 (c2 _ _) (.v 0) (.n 20) (.v 1) (.v 0) (.v 1) (.n 80) hRl hc2
    · exact le1 (c1 _) (.v 0) (.n 20) (.v 0) (.n 80) hR0
    · exact le2 (c2 _ _) (.v 0) (.n 20) (.v 1) (.v 0) (.v 1) (.n 80) hRl (Nat.le_of_eq hc3)
    · decide
  refine x_assign 26 rfl (by decide) ?_ (by rfl)
  refine ev_bin ?_
  refine ev_bin ?_
  refine ev_list ?_
  refine evs_cons ?_
  refine ev_slice ?_
  refine ev_sub ?_
  refine ev_var (v := .list (rows.map V.str)) (by rfl) ?_
  walk_at "mine"
  refine sub_list (v := .str (rows.getD 0 "")) (by decide) (ixV_mapN V.str rows "" 0 hr0) ?_
  refine evp_none ?_
  refine evp_some ?_
  repeat (walk_at "mine")
  refine ⟨_, rfl, ?_⟩
  walk_at "mine"
  refine sl_str (by exact le1 (c1 _) (.v 0) (.n 20) (.v 0) (.n 16777216) hR0) ?_
  refine evs_nil ⟨by simp; exact le0 (c1 0) (.n 1) (.n 16777216), ?_⟩
  refine ev_var (v := .list (rows.map V.str)) (by rfl) ?_
  refine bin_add_l (by simp; exact le1 (c1 _) (.v 0) (.n 24) (.a (.n 1) (.v 0)) (.n 16777216) hrl) ?_
  refine ev_list ?_
  refine evs_cons ?_
  refine ev_slice ?_
  refine ev_sub ?_
  refine ev_var (v := .list (rows.map V.str)) (by rfl) ?_
  repeat (walk_at "mine")
  refine sub_list (v := .str (rows.getD (rows.length - 1) "")) (by decide) (ixV_last V.str rows "" hr0) ?_
  repeat (walk_at "mine")
  refine ⟨_, rfl, ?_⟩
  walk_at "mine"
  walk_at "mine"
  refine sl_str (by exact le1 (c1 _) (.v 0) (.n 20) (.v 0) (.n 16777216) hRl) ?_
  refine evs_cons ?_
  refine ev_sub ?_
  refine ev_var (v := .list (rows.map V.str)) (by rfl) ?_
  walk_at "mine"
  refine sub_list (v := .str (rows.getD 0 "")) (by decide) (ixV_mapN V.str rows "" 0 hr0) ?_
  refine evs_cons ?_
  refine ev_slice ?_
  refine ev_sub ?_
  refine ev_var (v := .list (rows.map V.str)) (by rfl) ?_
  repeat (walk_at "mine")
  refine sub_list (v := .str (rows.getD (rows.length - 1) "")) (by decide) (ixV_last V.str rows "" hr0) ?_
  repeat (walk_at "mine")
  refine ⟨_, rfl, ?_⟩
  refine sl_rev (by exact le1 (c1 _) (.v 0) (.n 20) (.v 0) (.n 16777216) hRl) ?_
  repeat (walk_at "mine")
  refine ⟨by simp; exact le0 (c1 0) (.n 4) (.n 16777216), ?_⟩
  refine bin_add_l (by simp; exact le1 (c1 _) (.v 0) (.n 24) (.a (.a (.v 0) (.n 1)) (.n 4)) (.n 16777216) hrl) ?_
  refine x_weak (σ' := [("bare", .val (.list ((bareS rows).map V.str))), ("rows", .val (.list (rows.map V.str))), ("draws", .val (.list (ds.map V.int)))]) (sub_cons ?_ (sub_cons (by rfl) (sub_cons (by rfl) sub_nil))) ?_
  · unfold bareS; rw [List.map_append, List.map_append]; rfl
  -- good
  refine x_assign 27 rfl (by decide) ?_ (by rfl)
  refine ev_bin ?_
  refine ev_bin ?_
  repeat (walk_at "mine")
  refine ⟨by decide, ?_⟩
  refine ev_bin ?_
  repeat (walk_at "mine")
  refine ⟨by decide, ?_⟩
  walk_at "mine"
  walk_at "mine"
  refine ⟨_, rfl, Callee.builtin _, ?_⟩
  refine evs_cons ?_
  refine ev_var (v := .list (rows.map V.str)) (by rfl) ?_
  refine evs_nil ?_
  refine call_len_l (by simp; exact le1 (c1 _) (.v 0) (.n 24) (.v 0) (.n 16777216) hrl) ?_
  refine bin_mul_l (by simp; lia) (by simp; exact le1 (c1 _) (.v 0) (.n 24) (.v 0) (.n 16777216) hrl) ?_
  rw [List.length_map, Int.toNat_natCast, rep_bool]
  refine bin_add_l (by simp; exact le1 (c1 _) (.v 0) (.n 24) (.a (.n 1) (.v 0)) (.n 16777216) hrl) ?_
  repeat (walk_at "mine")
  refine ⟨by decide, ?_⟩
  refine bin_add_l (by simp; exact le1 (c1 _) (.v 0) (.n 24) (.a (.a (.v 0) (.n 1)) (.n 4)) (.n 16777216) hrl) ?_
  refine x_weak (σ' := [("good", .val (.list ((goodS rows.length).map V.bool))), ("bare", .val (.list ((bareS rows).map V.str))), ("draws", .val (.list (ds.map V.int)))]) (sub_cons ?_ (sub_cons (by rfl) (sub_cons (by rfl) sub_nil))) ?_
  · unfold goodS; rw [List.map_append, List.map_append]; rfl
  revert hck hkept hb1 hb2
  generalize bareS rows = bare
  generalize hgd : goodS rows.length = good
  have hgl : good.length = rows.length + 5 := by rw [← hgd]; unfold goodS; simp
  clear hgd
  intro hck hkept hb1 hb2
  -- given
  refine x_assign 28 rfl (by decide) ?_ (by rfl)
  walk_at "mine"
  walk_at "mine"
  refine ⟨_, rfl, lb.hide.callee, ?_⟩
  refine evs_cons ?_
  refine ev_var (v := .list (bare.map V.str)) (by rfl) ?_
  refine evs_cons ?_
  refine ev_sub ?_
  refine ev_var (v := .list (ds.map V.int)) (by rfl) ?_
  walk_at "mine"
  refine sub_list (v := .int (ds.getD 5 0)) (by decide) (ixV_mapN V.int ds 0 5 (by exact le1 (c1 _) (.n 6) (.v 0) (.a (.n 5) (.n 1)) (.v 0) (Nat.le_of_eq hd.symm))) ?_
  refine evs_nil ?_
  refine hide_ok lb (by exact le2 (c2 _ _) (.v 0) (.n 24) (.v 1) (.a (.v 0) (.n 5)) (.v 1) (.n 100) hrl (Nat.le_of_eq hb1)) hb2 ?_
  have hgn := hideS_len (ds.getD 5 0) bare 0
  revert hck hkept hgn
  generalize hgv : hideS (ds.getD 5 0) 0 bare = given
  intro hck hkept hgn
  -- kept
  refine x_assign 29 rfl (by decide) ?_ (by rfl)
  walk_at "mine"
  walk_at "mine"
  refine ⟨_, rfl, lb.pre.callee, ?_⟩
  refine evs_cons ?_
  refine ev_var (v := .list (given.map V.str)) (by rfl) ?_
  refine evs_nil ?_
  refine pre_ok lb (by exact le3 (c3 _ _ _) (.v 0) (.n 24) (.v 1) (.a (.v 0) (.n 5)) (.v 2) (.v 1) (.v 2) (.n 1000) hrl (Nat.le_of_eq hb1) (Nat.le_of_eq hgn)) hck ?_
  rw [hkept]
  -- return
  refine x_return 30 rfl (by decide) ?_
  refine ev_and ?_
  refine ev_cmp ?_
  refine ev_var (v := .list ((keptS given good).map V.str)) (by rfl) ?_
  refine ev_comp (cl := []) ?_ (by rfl) trivial .nil (by decide) rfl (by decide)
  refine it_call ?_
  walk_at "mine"
  refine ⟨_, rfl, Callee.type _, ?_⟩
  refine evs_cons ?_
  refine ev_var (v := .list (given.map V.str)) (by rfl) ?_
  refine evs_cons ?_
  refine ev_var (v := .list (good.map V.bool)) (by rfl) ?_
  refine evs_nil ?_
  refine call_zip ?_
  rw [zip_str_bool]
  intro C
  refine compP_map (fun p : Str × Bool => V.tup [.str p.1, .bool p.2]) (fun p => V.str (if p.2 then p.1 else badT)) (given.zip good) (by rw [List.length_zip]; lia) (fun p hp => ?_) ?_
  · refine asl_tupb (xs := ["field", "fine"]) ⟨sub_nil, ?_⟩ (by rfl) (by rfl) rfl
    refine ev_ite ?_
    refine ts_of ?_
    refine ev_var (v := .bool p.2) (by rfl) ?_
    refine true_b ?_
    refine ⟨fun e => ?_, fun e => ?_⟩
    · refine ev_var (v := .str p.1) (by rfl) ?_
      rw [e]; rfl
    · refine ev_str ?_
      rw [e]; rfl
  rw [show ((given.zip good).map fun p => V.str (if p.2 then p.1 else badT)) = (keptS given good).map V.str by unfold keptS; rw [List.map_map]; rfl]
  refine cmp_eq_l repStr ?_
  refine true_b ?_
  refine ⟨fun e => by simp at e, fun _ => ?_⟩
  refine ev_and ?_
  refine ev_cmp ?_
  refine ev_var (v := .list (given.map V.str)) (by rfl) ?_
  walk_at "mine"
  walk_at "mine"
  refine ⟨_, rfl, lb.hide.callee, ?_⟩
  refine evs_cons ?_
  refine ev_var (v := .list (bare.map V.str)) (by rfl) ?_
  refine evs_cons ?_
  refine ev_sub ?_
  refine ev_var (v := .list (ds.map V.int)) (by rfl) ?_
  walk_at "mine"
  refine sub_list (v := .int (ds.getD 5 0)) (by decide) (ixV_mapN V.int ds 0 5 (by exact le1 (c1 _) (.n 6) (.v 0) (.a (.n 5) (.n 1)) (.v 0) (Nat.le_of_eq hd.symm))) ?_
  refine evs_nil ?_
  refine hide_ok lb (by exact le2 (c2 _ _) (.v 0) (.n 24) (.v 1) (.a (.v 0) (.n 5)) (.v 1) (.n 100) hrl (Nat.le_of_eq hb1)) hb2 ?_
  rw [hgv]
  refine cmp_eq_l repStr ?_
  refine true_b ?_
  refine ⟨fun e => by simp at e, fun _ => ?_⟩
  refine ev_and1 ?_
  refine ev_cmp ?_
  walk_at "mine"
  walk_at "mine"
  refine ⟨_, rfl, lb.pre.callee, ?_⟩
  refine evs_cons ?_
  refine ev_list ?_
  refine evs_nil ⟨by decide, ?_⟩
  refine evs_nil ?_
  refine pre_ok (l := []) lb (by decide) (fun _ h => nomatch h) ?_
  refine ev_list ?_
  refine evs_nil ⟨by decide, ?_⟩
  exact cmp_eq_l (l := preS []) (l' := []) repStr rfl
end
end

section
/-- what the written heap holds -/
noncomputable def CodeK (K : Frag) (cd : Value) (qn : Str) : Prop := ∃ c o vs t, cd = .ref c ∧ K.lookup c = some o ∧ o.data = .fields vs ∧ vs[1]? = some (.str qn t)
noncomputable def FnK (K : Frag) (a : Addr) (st : Stmt) : Prop := ∃ nm qn doc pm cd o, K.lookup a = some o ∧ o.data = .func (fnD st nm qn doc pm cd) ∧ CodeK K cd qn
theorem CodeK.at {K : Frag} {h : Heap} {cd : Value} {qn : Str} (X : K.In h) (c : CodeK K cd qn) : h.CodeRec cd qn := by
  obtain ⟨c, o, vs, t, e, hl, hd, hv⟩ := c
  exact ⟨c, o, vs, t, e, X _ _ hl, hd, hv⟩
theorem FnK.at {g : Gd} {K : Frag} {a : Addr} {st : Stmt} (X : K.In g.hB) (F : FnK K a st) (ps : List Str) (hb : ∀ (nm qn : Str) (doc pm cd : Value) (xs : List Value), xs.length = ps.length → bindArgs (fnD st nm qn doc pm cd) ⟨xs, []⟩ = pure (ps.zip xs))
    (hp : (scopeS st).isCoroutine = false ∧ (scopeS st).isGenerator = false ∧ (scopeS st).kind = .function)
    (hpar : ∀ L x, x ∈ ps → (scopeS st).names.lookup x = some .local ∨ ((scopeS st).names.lookup x = some .cell ∧ ((cellsFrom (L + 1) (scopeS st).names []).lookup x).isSome = true))
    (hn : ps.Nodup) (hc : (((scopeS st).names.filter fun p => p.2 == .cell).map (·.1)).Nodup) : ∃ nm qn doc pm cd, FnAt g a (fnD st nm qn doc pm cd) (bodyS st) ps := by
  obtain ⟨nm, qn, doc, pm, cd, o, hl, hd, hcd⟩ := F
  exact ⟨nm, qn, doc, pm, cd, ⟨o, X _ _ hl, hd⟩, hcd.at X, rfl, rfl, rfl, rfl, hb nm qn doc pm cd, hp, hpar, hn, hc⟩
noncomputable def nameTab : List (Str × Addr) := [("_iter_escaped_chars", 21), ("_strip_quoted_realnames", 28), ("_check_parenthesis", 35), ("_pre_parse_validation", 42), ("_ellipsis_match", 49), ("TupleComp", 73), ("func_std_string", 84), ("add_func_stats", 91), ("add_callers", 98), ("count_calls", 105), ("_law_told", 110), ("_law_dots", 115), ("_law_functions", 122), ("_law_deeds", 127), ("_law_stands", 134), ("_law_hide", 141), ("law", 146)]
noncomputable def freeTab : List Str := ["len", "enumerate", "range", "zip", "max", "sum", "str", "sorted", "isinstance", "tuple"]
noncomputable def fnTab : List (Addr × Nat) := [(21, 1), (28, 2), (35, 3), (42, 4), (49, 7), (84, 10), (91, 11), (98, 12), (105, 13), (110, 15), (115, 16), (122, 17), (127, 18), (134, 19), (141, 20), (146, 21)]
structure KF (K : Frag) : Prop where
  sys : (K.lookup sysModules).isSome = true
  names : ∀ p ∈ nameTab, nsIn K mainGlobals p.1 = some (some (.ref p.2))
  mark : ∃ t, nsIn K mainGlobals "ELLIPSIS_MARKER" = some (some (.str "..." t))
  free : ∀ x ∈ freeTab, nsIn K mainGlobals x = some none
  fns : ∀ p ∈ fnTab, FnK K p.1 (stm p.2)
  f63 : FnK K 63 (stmM 0)
  f70 : FnK K 70 (stmM 1)
  mk' : makesIn K 73 = true
  ini : W.findIn K (.ref 73) "__init__" = some (some (.ref 63))
  inif : typeIn K (.ref 63) = some (.type "function")
  cmp : W.findIn K (.ref 73) "compare" = some (some (.ref 70))
  cmpf : typeIn K (.ref 70) = some (.type "function")
  ga : W.findIn K (.ref 73) "__getattribute__" = some (some (.builtin "object.__getattribute__"))
  gt : W.findIn K (.ref 73) "__getattr__" = some none
  sa : W.findIn K (.ref 73) "__setattr__" = some (some (.builtin "object.__setattr__"))
  po : plainOver K 73 = true
  tk : takerIn K 73 "comp_select_list" = some none
  hd : hasDictIn K 73 = true
  csl : W.findIn K (.ref 73) "comp_select_list" = some none
theorem fn_at {g : Gd} {K : Frag} (k : KF K) (X : K.In g.hB) (a : Addr) (i : Nat) (hm : (a, i) ∈ fnTab) (ps : List Str) (hb : ∀ (nm qn : Str) (doc pm cd : Value) (xs : List Value), xs.length = ps.length → bindArgs (fnD (stm i) nm qn doc pm cd) ⟨xs, []⟩ = pure (ps.zip xs))
    (hp : (scopeS (stm i)).isCoroutine = false ∧ (scopeS (stm i)).isGenerator = false ∧ (scopeS (stm i)).kind = .function)
    (hpar : ∀ L x, x ∈ ps → (scopeS (stm i)).names.lookup x = some .local ∨ ((scopeS (stm i)).names.lookup x = some .cell ∧ ((cellsFrom (L + 1) (scopeS (stm i)).names []).lookup x).isSome = true))
    (hn : ps.Nodup) (hc : (((scopeS (stm i)).names.filter fun p => p.2 == .cell).map (·.1)).Nodup) : ∃ nm qn doc pm cd, FnAt g a (fnD (stm i) nm qn doc pm cd) (bodyS (stm i)) ps :=
  (k.fns (a, i) hm).at X ps hb hp hpar hn hc
theorem bind_1 {fd : Value → FuncData} {f : FuncData} {x : Str} (h : ∀ v, bindArgs f ⟨[v], []⟩ = pure [(x, v)]) (xs : List Value) (hl : xs.length = ([x] : List Str).length) : bindArgs f ⟨xs, []⟩ = pure (([x] : List Str).zip xs) := by
  obtain ⟨v, rfl⟩ := List.length_eq_one_iff.mp hl
  exact h v
theorem len_s {α : Type} {xs : List α} {n : Nat} (h : xs.length = n + 1) : ∃ v r, xs = v :: r ∧ r.length = n := by
  cases xs with
  | nil => cases h
  | cons v r => exact ⟨v, r, rfl, Nat.succ.inj h⟩
theorem bind_2 {f : FuncData} {x y : Str} (h : ∀ v u, bindArgs f ⟨[v, u], []⟩ = pure [(x, v), (y, u)]) (xs : List Value) (hl : xs.length = ([x, y] : List Str).length) : bindArgs f ⟨xs, []⟩ = pure (([x, y] : List Str).zip xs) := by
  obtain ⟨v, r, rfl, hl1⟩ := len_s hl
  obtain ⟨u, rfl⟩ := List.length_eq_one_iff.mp hl1
  exact h v u
theorem bind_3 {f : FuncData} {x y z : Str} (h : ∀ v u t, bindArgs f ⟨[v, u, t], []⟩ = pure [(x, v), (y, u), (z, t)]) (xs : List Value) (hl : xs.length = ([x, y, z] : List Str).length) : bindArgs f ⟨xs, []⟩ = pure (([x, y, z] : List Str).zip xs) := by
  obtain ⟨v, r, rfl, hl1⟩ := len_s hl
  obtain ⟨u, r2, rfl, hl2⟩ := len_s hl1
  obtain ⟨t, rfl⟩ := List.length_eq_one_iff.mp hl2
  exact h v u t
theorem bind_4 {f : FuncData} {x y z q : Str} (h : ∀ v u t s, bindArgs f ⟨[v, u, t, s], []⟩ = pure [(x, v), (y, u), (z, t), (q, s)]) (xs : List Value) (hl : xs.length = ([x, y, z, q] : List Str).length) : bindArgs f ⟨xs, []⟩ = pure (([x, y, z, q] : List Str).zip xs) := by
  obtain ⟨v, r, rfl, hl1⟩ := len_s hl
  obtain ⟨u, r2, rfl, hl2⟩ := len_s hl1
  obtain ⟨t, r3, rfl, hl3⟩ := len_s hl2
  obtain ⟨s, rfl⟩ := List.length_eq_one_iff.mp hl3
  exact h v u t s
theorem fnk {K : Frag} {a c : Addr} {st : Stmt} {o o' : Obj} {nm qn : Str} {doc pm : Value} {vs : Array Value} {t : Tok} (h1 : K.lookup a = some o) (h2 : o.data = .func (fnD st nm qn doc pm (.ref c))) (h3 : K.lookup c = some o') (h4 : o'.data = .fields vs) (h5 : vs[1]? = some (.str qn t)) : FnK K a st :=
  ⟨nm, qn, doc, pm, .ref c, o, h1, h2, c, o', vs, t, rfl, h3, h4, h5⟩
theorem allc {α : Type} {P : α → Prop} {x : α} {l : List α} (h : P x) (r : ∀ p ∈ l, P p) : ∀ p ∈ x :: l, P p := List.forall_mem_cons.mpr ⟨h, r⟩
theorem alln {α : Type} {P : α → Prop} : ∀ p ∈ ([] : List α), P p := fun p hp => nomatch hp
end

section
section
variable {g : Gd} {K : Frag}
theorem par_1 {P : Nat → Str → Prop} {x : Str} (h : ∀ L, P L x) : ∀ L y, y ∈ ([x] : List Str) → P L y := fun L y hy => by
  simp only [List.mem_cons, List.not_mem_nil, or_false] at hy
  rw [hy]; exact h L
theorem par_2 {P : Nat → Str → Prop} {x z : Str} (h : ∀ L, P L x) (h' : ∀ L, P L z) : ∀ L y, y ∈ ([x, z] : List Str) → P L y := fun L y hy => by
  simp only [List.mem_cons, List.not_mem_nil, or_false] at hy
  rcases hy with rfl | rfl
  · exact h L
  · exact h' L
theorem par_3 {P : Nat → Str → Prop} {x z u : Str} (h : ∀ L, P L x) (h' : ∀ L, P L z) (h2 : ∀ L, P L u) : ∀ L y, y ∈ ([x, z, u] : List Str) → P L y := fun L y hy => by
  simp only [List.mem_cons, List.not_mem_nil, or_false] at hy
  rcases hy with rfl | rfl | rfl
  · exact h L
  · exact h' L
  · exact h2 L
theorem par_4 {P : Nat → Str → Prop} {x z u v : Str} (h : ∀ L, P L x) (h' : ∀ L, P L z) (h2 : ∀ L, P L u) (h3 : ∀ L, P L v) : ∀ L y, y ∈ ([x, z, u, v] : List Str) → P L y := fun L y hy => by
  simp only [List.mem_cons, List.not_mem_nil, or_false] at hy
  rcases hy with rfl | rfl | rfl | rfl
  · exact h L
  · exact h' L
  · exact h2 L
  · exact h3 L
theorem lb_of (k : KF K) (X : K.In g.hB) : Lb g := by
  have nm : ∀ n a, (n, a) ∈ nameTab → g.mg n = some (.ref a) := fun n a h => mg_of X g.hmg (k.names (n, a) h)
  exact {
    it := nm _ _ (by decide)
    itg := by
      obtain ⟨nm, qn, doc, pm, cd, o, hl, hd, hcd⟩ := k.fns (21, 1) (by decide)
      exact ⟨nm, qn, doc, pm, cd, ⟨o, X _ _ hl, hd⟩, hcd.at X⟩
    strip := ⟨nm _ _ (by decide), fn_at k X 28 2 (by decide) ["addr"] (fun nm qn doc pm cd => bind_1 (fd := fun _ => fnD (stm 2) nm qn doc pm cd) fun v => rfl) ⟨rfl, rfl, rfl⟩ (par_1 (fun L => .inl rfl)) (by decide) (by decide)⟩
    check := ⟨nm _ _ (by decide), fn_at k X 35 3 (by decide) ["addr"] (fun nm qn doc pm cd => bind_1 (fd := fun _ => fnD (stm 2) nm qn doc pm cd) fun v => rfl) ⟨rfl, rfl, rfl⟩ (par_1 (fun L => .inl rfl)) (by decide) (by decide)⟩
    pre := ⟨nm _ _ (by decide), fn_at k X 42 4 (by decide) ["email_header_fields"] (fun nm qn doc pm cd => bind_1 (fd := fun _ => fnD (stm 2) nm qn doc pm cd) fun v => rfl) ⟨rfl, rfl, rfl⟩ (par_1 (fun L => .inl rfl)) (by decide) (by decide)⟩
    ell := ⟨nm _ _ (by decide), fn_at k X 49 7 (by decide) ["want", "got"] (fun nm qn doc pm cd => bind_2 fun v u => rfl) ⟨rfl, rfl, rfl⟩ (par_2 (fun L => .inl rfl) (fun L => .inl rfl)) (by decide) (by decide)⟩
    mark := let ⟨t, h⟩ := k.mark; ⟨t, mg_of X g.hmg h⟩
    fss := ⟨nm _ _ (by decide), fn_at k X 84 10 (by decide) ["func_name"] (fun nm qn doc pm cd => bind_1 (fd := fun _ => fnD (stm 2) nm qn doc pm cd) fun v => rfl) ⟨rfl, rfl, rfl⟩ (par_1 (fun L => .inl rfl)) (by decide) (by decide)⟩
    afs := ⟨nm _ _ (by decide), fn_at k X 91 11 (by decide) ["target", "source"] (fun nm qn doc pm cd => bind_2 fun v u => rfl) ⟨rfl, rfl, rfl⟩ (par_2 (fun L => .inl rfl) (fun L => .inl rfl)) (by decide) (by decide)⟩
    ac := ⟨nm _ _ (by decide), fn_at k X 98 12 (by decide) ["target", "source"] (fun nm qn doc pm cd => bind_2 fun v u => rfl) ⟨rfl, rfl, rfl⟩ (par_2 (fun L => .inl rfl) (fun L => .inl rfl)) (by decide) (by decide)⟩
    cc := ⟨nm _ _ (by decide), fn_at k X 105 13 (by decide) ["callers"] (fun nm qn doc pm cd => bind_1 (fd := fun _ => fnD (stm 2) nm qn doc pm cd) fun v => rfl) ⟨rfl, rfl, rfl⟩ (par_1 (fun L => .inl rfl)) (by decide) (by decide)⟩
    told := ⟨nm _ _ (by decide), fn_at k X 110 15 (by decide) ["told", "due"] (fun nm qn doc pm cd => bind_2 fun v u => rfl) ⟨rfl, rfl, rfl⟩ (par_2 (fun L => .inl rfl) (fun L => .inl rfl)) (by decide) (by decide)⟩
    dots := ⟨nm _ _ (by decide), fn_at k X 115 16 (by decide) ["a", "b"] (fun nm qn doc pm cd => bind_2 fun v u => rfl) ⟨rfl, rfl, rfl⟩ (par_2 (fun L => .inl rfl) (fun L => .inl rfl)) (by decide) (by decide)⟩
    fns := ⟨nm _ _ (by decide), fn_at k X 122 17 (by decide) ["names", "forms"] (fun nm qn doc pm cd => bind_2 fun v u => rfl) ⟨rfl, rfl, rfl⟩ (par_2 (fun L => .inl rfl) (fun L => .inl rfl)) (by decide) (by decide)⟩
    deeds := ⟨nm _ _ (by decide), fn_at k X 127 18 (by decide) ["coming", "wanted", "keys", "order"] (fun nm qn doc pm cd => bind_4 fun v u t s => rfl) ⟨rfl, rfl, rfl⟩ (par_4 (fun L => .inl rfl) (fun L => .inl rfl) (fun L => .inr ⟨rfl, rfl⟩) (fun L => .inr ⟨rfl, rfl⟩)) (by decide) (by decide)⟩
    stands := ⟨nm _ _ (by decide), fn_at k X 134 19 (by decide) ["wants", "page"] (fun nm qn doc pm cd => bind_2 fun v u => rfl) ⟨rfl, rfl, rfl⟩ (par_2 (fun L => .inl rfl) (fun L => .inl rfl)) (by decide) (by decide)⟩
    hide := ⟨nm _ _ (by decide), fn_at k X 141 20 (by decide) ["rows", "number"] (fun nm qn doc pm cd => bind_2 fun v u => rfl) ⟨rfl, rfl, rfl⟩ (par_2 (fun L => .inl rfl) (fun L => .inl rfl)) (by decide) (by decide)⟩
    tc := nm _ _ (by decide)
    bi := fun x hx => mg_none_of X g.hmg (k.free x hx) }

theorem lc_of (k : KF K) (X : K.In g.hB) : Lc g where
  k := ⟨K, { inn := X, mk' := k.mk', ini := k.ini, inif := k.inif, cmp := k.cmp, cmpf := k.cmpf, ga := k.ga, gt := k.gt, sa := k.sa, po := k.po, tk := k.tk, hd := k.hd, csl := k.csl }⟩
  ini := k.f63.at X _ (fun nm qn doc pm cd => bind_2 fun v u => rfl) ⟨rfl, rfl, rfl⟩ (par_2 (fun L => .inl rfl) (fun L => .inl rfl)) (by decide) (by decide)
  cmp := k.f70.at X _ (fun nm qn doc pm cd => bind_3 fun v u t => rfl) ⟨rfl, rfl, rfl⟩ (par_3 (fun L => .inl rfl) (fun L => .inl rfl) (fun L => .inl rfl)) (by decide) (by decide)
theorem law_at (k : KF K) (X : K.In g.hB) : ∃ nm qn doc pm cd, FnAt g 146 (fnD (stm 21) nm qn doc pm cd) (bodyS (stm 21)) ["script"] :=
  fn_at k X 146 21 (by decide) ["script"] (fun nm qn doc pm cd => bind_1 (fd := fun _ => fnD (stm 2) nm qn doc pm cd) fun v => rfl) ⟨rfl, rfl, rfl⟩ (par_1 fun L => .inl rfl) (by decide) (by decide)
end
end

section
/-- the part of the heap that the proof reads -/
noncomputable def hO1 (P : Params) : Obj := { cls := Value.type "dict", data := Data.dict #[{ hash := PyData.keyHash P (Str.ofString "builtins"), key := Value.str (Str.ofString "builtins") 162, val := Value.ref 4 }, { hash := PyData.keyHash P (Str.ofString "__main__"), key := Value.str (Str.ofString "__main__") 163, val := Value.ref 5 }] 2 }
noncomputable def hO2 (P : Params) : Obj := { cls := Value.none, data := Data.dict #[] }
noncomputable def hO3 (P : Params) : Obj := { cls := Value.type "dict", data := Data.dict #[{ hash := PyData.keyHash P (Str.ofString "__name__"), key := Value.str (Str.ofString "__name__") 165, val := Value.str (Str.ofString "law_xb0020_01") 336 }, { hash := PyData.keyHash P (Str.ofString "__doc__"), key := Value.str (Str.ofString "__doc__") 166, val := Value.none }, { hash := PyData.keyHash P (Str.ofString "__package__"), key := Value.str (Str.ofString "__package__") 167, val := Value.none }, { hash := PyData.keyHash P (Str.ofString "__loader__"), key := Value.str (Str.ofString "__loader__") 168, val := Value.builtin "__main__.__loader__#opaque" }, { hash := PyData.keyHash P (Str.ofString "__spec__"), key := Value.str (Str.ofString "__spec__") 169, val := Value.none }, { hash := PyData.keyHash P (Str.ofString "__annotations__"), key := Value.str (Str.ofString "__annotations__") 170, val := Value.ref 6 }, { hash := PyData.keyHash P (Str.ofString "__builtins__"), key := Value.str (Str.ofString "__builtins__") 171, val := Value.ref 4 }, { hash := PyData.keyHash P (Str.ofString "__file__"), key := Value.str (Str.ofString "__file__") 173, val := Value.str (Str.ofString "/claim/cut.py") 172 }, { hash := PyData.keyHash P (Str.ofString "__cached__"), key := Value.str (Str.ofString "__cached__") 174, val := Value.none }, { hash := PyData.keyHash P (Str.ofString "_iter_escaped_chars"), key := Value.str (Str.ofString "_iter_escaped_chars") 198, val := Value.ref 21 }, { hash := PyData.keyHash P (Str.ofString "_strip_quoted_realnames"), key := Value.str (Str.ofString "_strip_quoted_realnames") 210, val := Value.ref 28 }, { hash := PyData.keyHash P (Str.ofString "_check_parenthesis"), key := Value.str (Str.ofString "_check_parenthesis") 220, val := Value.ref 35 }, { hash := PyData.keyHash P (Str.ofString "_pre_parse_validation"), key := Value.str (Str.ofString "_pre_parse_validation") 229, val := Value.ref 42 }, { hash := PyData.keyHash P (Str.ofString "ELLIPSIS_MARKER"), key := Value.str (Str.ofString "ELLIPSIS_MARKER") 233, val := Value.str (Str.ofString "...") 232 }, { hash := PyData.keyHash P (Str.ofString "_ellipsis_match"), key := Value.str (Str.ofString "_ellipsis_match") 245, val := Value.ref 49 }, { hash := PyData.keyHash P (Str.ofString "TupleComp"), key := Value.str (Str.ofString "TupleComp") 289, val := Value.ref 73 }, { hash := PyData.keyHash P (Str.ofString "func_std_string"), key := Value.str (Str.ofString "func_std_string") 297, val := Value.ref 84 }, { hash := PyData.keyHash P (Str.ofString "add_func_stats"), key := Value.str (Str.ofString "add_func_stats") 315, val := Value.ref 91 }, { hash := PyData.keyHash P (Str.ofString "add_callers"), key := Value.str (Str.ofString "add_callers") 326, val := Value.ref 98 }, { hash := PyData.keyHash P (Str.ofString "count_calls"), key := Value.str (Str.ofString "count_calls") 335, val := Value.ref 105 }, { hash := PyData.keyHash P (Str.ofString "_law_told"), key := Value.str (Str.ofString "_law_told") 343, val := Value.ref 110 }, { hash := PyData.keyHash P (Str.ofString "_law_dots"), key := Value.str (Str.ofString "_law_dots") 349, val := Value.ref 115 }, { hash := PyData.keyHash P (Str.ofString "_law_functions"), key := Value.str (Str.ofString "_law_functions") 362, val := Value.ref 122 }, { hash := PyData.keyHash P (Str.ofString "_law_deeds"), key := Value.str (Str.ofString "_law_deeds") 368, val := Value.ref 127 }, { hash := PyData.keyHash P (Str.ofString "_law_stands"), key := Value.str (Str.ofString "_law_stands") 378, val := Value.ref 134 }, { hash := PyData.keyHash P (Str.ofString "_law_hide"), key := Value.str (Str.ofString "_law_hide") 392, val := Value.ref 141 }, { hash := PyData.keyHash P (Str.ofString "law"), key := Value.str (Str.ofString "law") 398, val := Value.ref 146 }] 27 }
noncomputable def hO20 (P : Params) : Obj := { cls := Value.type "code", data := Data.fields #[Value.str (Str.ofString "_iter_escaped_chars") 189, Value.str (Str.ofString "_iter_escaped_chars") 190, Value.str (Str.ofString "/claim/cut.py") 191, Value.int 2 0, Value.int 1 0, Value.int 0 0, Value.int 0 0, Value.int 35 0, Value.ref 15, Value.bool true, Value.int 181 0, Value.ref 16, Value.none, Value.ref 17, Value.ref 18, Value.ref 19, Value.int 196 0, Value.int 2 0, Value.str (Str.ofString "/claim/cut.py") 197] }
noncomputable def hO21 (P : Params) : Obj := { cls := Value.type "function", data := Data.func (fnD (stm 1) (Str.ofString "_iter_escaped_chars") (Str.ofString "_iter_escaped_chars") (Value.none) (Value.str (Str.ofString "cpy313.email.utils") 187) (Value.ref 20)) }
noncomputable def hO27 (P : Params) : Obj := { cls := Value.type "code", data := Data.fields #[Value.str (Str.ofString "_strip_quoted_realnames") 199, Value.str (Str.ofString "_strip_quoted_realnames") 200, Value.str (Str.ofString "/claim/cut.py") 201, Value.int 15 0, Value.int 1 0, Value.int 0 0, Value.int 0 0, Value.int 3 0, Value.ref 22, Value.bool true, Value.int 181 0, Value.ref 23, Value.none, Value.ref 24, Value.ref 25, Value.ref 26, Value.int 208 0, Value.int 15 0, Value.str (Str.ofString "/claim/cut.py") 209] }
noncomputable def hO28 (P : Params) : Obj := { cls := Value.type "function", data := Data.func (fnD (stm 2) (Str.ofString "_strip_quoted_realnames") (Str.ofString "_strip_quoted_realnames") (Value.none) (Value.str (Str.ofString "cpy313.email.utils") 187) (Value.ref 27)) }
noncomputable def hO34 (P : Params) : Obj := { cls := Value.type "code", data := Data.fields #[Value.str (Str.ofString "_check_parenthesis") 211, Value.str (Str.ofString "_check_parenthesis") 212, Value.str (Str.ofString "/claim/cut.py") 213, Value.int 33 0, Value.int 1 0, Value.int 0 0, Value.int 0 0, Value.int 3 0, Value.ref 29, Value.bool true, Value.int 181 0, Value.ref 30, Value.none, Value.ref 31, Value.ref 32, Value.ref 33, Value.int 218 0, Value.int 33 0, Value.str (Str.ofString "/claim/cut.py") 219] }
noncomputable def hO35 (P : Params) : Obj := { cls := Value.type "function", data := Data.func (fnD (stm 3) (Str.ofString "_check_parenthesis") (Str.ofString "_check_parenthesis") (Value.none) (Value.str (Str.ofString "cpy313.email.utils") 187) (Value.ref 34)) }
noncomputable def hO41 (P : Params) : Obj := { cls := Value.type "code", data := Data.fields #[Value.str (Str.ofString "_pre_parse_validation") 221, Value.str (Str.ofString "_pre_parse_validation") 222, Value.str (Str.ofString "/claim/cut.py") 223, Value.int 44 0, Value.int 1 0, Value.int 0 0, Value.int 0 0, Value.int 3 0, Value.ref 36, Value.bool true, Value.int 181 0, Value.ref 37, Value.none, Value.ref 38, Value.ref 39, Value.ref 40, Value.int 227 0, Value.int 44 0, Value.str (Str.ofString "/claim/cut.py") 228] }
noncomputable def hO42 (P : Params) : Obj := { cls := Value.type "function", data := Data.func (fnD (stm 4) (Str.ofString "_pre_parse_validation") (Str.ofString "_pre_parse_validation") (Value.none) (Value.str (Str.ofString "cpy313.email.utils") 187) (Value.ref 41)) }
noncomputable def hO48 (P : Params) : Obj := { cls := Value.type "code", data := Data.fields #[Value.str (Str.ofString "_ellipsis_match") 234, Value.str (Str.ofString "_ellipsis_match") 235, Value.str (Str.ofString "/claim/cut.py") 236, Value.int 53 0, Value.int 2 0, Value.int 0 0, Value.int 0 0, Value.int 3 0, Value.ref 43, Value.bool true, Value.int 181 0, Value.ref 44, Value.none, Value.ref 45, Value.ref 46, Value.ref 47, Value.int 243 0, Value.int 53 0, Value.str (Str.ofString "/claim/cut.py") 244] }
noncomputable def hO49 (P : Params) : Obj := { cls := Value.type "function", data := Data.func (fnD (stm 7) (Str.ofString "_ellipsis_match") (Str.ofString "_ellipsis_match") (Value.none) (Value.str (Str.ofString "cpy313.doctest") 230) (Value.ref 48)) }
noncomputable def hO62 (P : Params) : Obj := { cls := Value.type "code", data := Data.fields #[Value.str (Str.ofString "__init__") 260, Value.str (Str.ofString "TupleComp.__init__") 261, Value.str (Str.ofString "/claim/cut.py") 262, Value.int 84 0, Value.int 2 0, Value.int 0 0, Value.int 0 0, Value.int 3 0, Value.ref 57, Value.bool true, Value.int 181 0, Value.ref 58, Value.none, Value.ref 59, Value.ref 60, Value.ref 61, Value.int 265 0, Value.int 84 0, Value.str (Str.ofString "/claim/cut.py") 266] }
noncomputable def hO63 (P : Params) : Obj := { cls := Value.type "function", data := Data.func (fnD (stmM 0) (Str.ofString "__init__") (Str.ofString "TupleComp.__init__") (Value.none) (Value.str (Str.ofString "cpy313.pstats") 246) (Value.ref 62)) }
noncomputable def hO69 (P : Params) : Obj := { cls := Value.type "code", data := Data.fields #[Value.str (Str.ofString "compare") 268, Value.str (Str.ofString "TupleComp.compare") 269, Value.str (Str.ofString "/claim/cut.py") 270, Value.int 87 0, Value.int 3 0, Value.int 0 0, Value.int 0 0, Value.int 3 0, Value.ref 64, Value.bool true, Value.int 181 0, Value.ref 65, Value.none, Value.ref 66, Value.ref 67, Value.ref 68, Value.int 278 0, Value.int 87 0, Value.str (Str.ofString "/claim/cut.py") 279] }
noncomputable def hO70 (P : Params) : Obj := { cls := Value.type "function", data := Data.func (fnD (stmM 1) (Str.ofString "compare") (Str.ofString "TupleComp.compare") (Value.none) (Value.str (Str.ofString "cpy313.pstats") 246) (Value.ref 69)) }
noncomputable def hO72 (P : Params) : Obj := { cls := Value.type "dict", data := Data.dict #[{ hash := PyData.keyHash P (Str.ofString "__module__"), key := Value.str (Str.ofString "__module__") 255, val := Value.str (Str.ofString "cpy313.pstats") 246 }, { hash := PyData.keyHash P (Str.ofString "__firstlineno__"), key := Value.str (Str.ofString "__firstlineno__") 259, val := Value.int 82 258 }, { hash := PyData.keyHash P (Str.ofString "__init__"), key := Value.str (Str.ofString "__init__") 267, val := Value.ref 63 }, { hash := PyData.keyHash P (Str.ofString "compare"), key := Value.str (Str.ofString "compare") 280, val := Value.ref 70 }, { hash := PyData.keyHash P (Str.ofString "__static_attributes__"), key := Value.str (Str.ofString "__static_attributes__") 282, val := Value.ref 71 }, { hash := PyData.keyHash P (Str.ofString "__dict__"), key := Value.str (Str.ofString "__dict__") 284, val := Value.ref 74 }, { hash := PyData.keyHash P (Str.ofString "__weakref__"), key := Value.str (Str.ofString "__weakref__") 286, val := Value.ref 75 }, { hash := PyData.keyHash P (Str.ofString "__doc__"), key := Value.str (Str.ofString "__doc__") 287, val := Value.none }] 4 }
noncomputable def hO73 (P : Params) : Obj := { cls := Value.type "type", data := Data.cls { name := Str.ofString "TupleComp", bases := [Value.type "object"], mro := [Value.ref 73, Value.type "object"], ns := 72, qualname := Str.ofString "TupleComp" }, slots := #[none, none, some (Value.str (Str.ofString "TupleComp") 248), some (Value.str (Str.ofString "TupleComp") 256), some (Value.builtin "object.__new__"), some (Value.bool true)] }
noncomputable def hO83 (P : Params) : Obj := { cls := Value.type "code", data := Data.fields #[Value.str (Str.ofString "func_std_string") 290, Value.str (Str.ofString "func_std_string") 291, Value.str (Str.ofString "/claim/cut.py") 292, Value.int 96 0, Value.int 1 0, Value.int 0 0, Value.int 0 0, Value.int 3 0, Value.ref 78, Value.bool true, Value.int 181 0, Value.ref 79, Value.none, Value.ref 80, Value.ref 81, Value.ref 82, Value.int 295 0, Value.int 96 0, Value.str (Str.ofString "/claim/cut.py") 296] }
noncomputable def hO84 (P : Params) : Obj := { cls := Value.type "function", data := Data.func (fnD (stm 10) (Str.ofString "func_std_string") (Str.ofString "func_std_string") (Value.none) (Value.str (Str.ofString "cpy313.pstats") 246) (Value.ref 83)) }
noncomputable def hO90 (P : Params) : Obj := { cls := Value.type "code", data := Data.fields #[Value.str (Str.ofString "add_func_stats") 298, Value.str (Str.ofString "add_func_stats") 299, Value.str (Str.ofString "/claim/cut.py") 300, Value.int 105 0, Value.int 2 0, Value.int 0 0, Value.int 0 0, Value.int 3 0, Value.ref 85, Value.bool true, Value.int 181 0, Value.ref 86, Value.none, Value.ref 87, Value.ref 88, Value.ref 89, Value.int 313 0, Value.int 105 0, Value.str (Str.ofString "/claim/cut.py") 314] }
noncomputable def hO91 (P : Params) : Obj := { cls := Value.type "function", data := Data.func (fnD (stm 11) (Str.ofString "add_func_stats") (Str.ofString "add_func_stats") (Value.none) (Value.str (Str.ofString "cpy313.pstats") 246) (Value.ref 90)) }
noncomputable def hO97 (P : Params) : Obj := { cls := Value.type "code", data := Data.fields #[Value.str (Str.ofString "add_callers") 316, Value.str (Str.ofString "add_callers") 317, Value.str (Str.ofString "/claim/cut.py") 318, Value.int 109 0, Value.int 2 0, Value.int 0 0, Value.int 0 0, Value.int 3 0, Value.ref 92, Value.bool true, Value.int 181 0, Value.ref 93, Value.none, Value.ref 94, Value.ref 95, Value.ref 96, Value.int 324 0, Value.int 109 0, Value.str (Str.ofString "/claim/cut.py") 325] }
noncomputable def hO98 (P : Params) : Obj := { cls := Value.type "function", data := Data.func (fnD (stm 12) (Str.ofString "add_callers") (Str.ofString "add_callers") (Value.none) (Value.str (Str.ofString "cpy313.pstats") 246) (Value.ref 97)) }
noncomputable def hO104 (P : Params) : Obj := { cls := Value.type "code", data := Data.fields #[Value.str (Str.ofString "count_calls") 327, Value.str (Str.ofString "count_calls") 328, Value.str (Str.ofString "/claim/cut.py") 329, Value.int 122 0, Value.int 1 0, Value.int 0 0, Value.int 0 0, Value.int 3 0, Value.ref 99, Value.bool true, Value.int 181 0, Value.ref 100, Value.none, Value.ref 101, Value.ref 102, Value.ref 103, Value.int 333 0, Value.int 122 0, Value.str (Str.ofString "/claim/cut.py") 334] }
noncomputable def hO105 (P : Params) : Obj := { cls := Value.type "function", data := Data.func (fnD (stm 13) (Str.ofString "count_calls") (Str.ofString "count_calls") (Value.none) (Value.str (Str.ofString "cpy313.pstats") 246) (Value.ref 104)) }
noncomputable def hO109 (P : Params) : Obj := { cls := Value.type "code", data := Data.fields #[Value.str (Str.ofString "_law_told") 338, Value.str (Str.ofString "_law_told") 339, Value.str (Str.ofString "/claim/cut.py") 340, Value.int 128 0, Value.int 2 0, Value.int 0 0, Value.int 0 0, Value.int 3 0, Value.ref 106, Value.bool true, Value.int 181 0, Value.ref 107, Value.none, Value.none, Value.none, Value.ref 108, Value.int 341 0, Value.int 128 0, Value.str (Str.ofString "/claim/cut.py") 342] }
noncomputable def hO110 (P : Params) : Obj := { cls := Value.type "function", data := Data.func (fnD (stm 15) (Str.ofString "_law_told") (Str.ofString "_law_told") (Value.none) (Value.str (Str.ofString "law_xb0020_01") 336) (Value.ref 109)) }
noncomputable def hO114 (P : Params) : Obj := { cls := Value.type "code", data := Data.fields #[Value.str (Str.ofString "_law_dots") 344, Value.str (Str.ofString "_law_dots") 345, Value.str (Str.ofString "/claim/cut.py") 346, Value.int 130 0, Value.int 2 0, Value.int 0 0, Value.int 0 0, Value.int 3 0, Value.ref 111, Value.bool true, Value.int 181 0, Value.ref 112, Value.none, Value.none, Value.none, Value.ref 113, Value.int 347 0, Value.int 130 0, Value.str (Str.ofString "/claim/cut.py") 348] }
noncomputable def hO115 (P : Params) : Obj := { cls := Value.type "function", data := Data.func (fnD (stm 16) (Str.ofString "_law_dots") (Str.ofString "_law_dots") (Value.none) (Value.str (Str.ofString "law_xb0020_01") 336) (Value.ref 114)) }
noncomputable def hO121 (P : Params) : Obj := { cls := Value.type "code", data := Data.fields #[Value.str (Str.ofString "_law_functions") 350, Value.str (Str.ofString "_law_functions") 351, Value.str (Str.ofString "/claim/cut.py") 352, Value.int 133 0, Value.int 2 0, Value.int 0 0, Value.int 0 0, Value.int 3 0, Value.ref 116, Value.bool true, Value.int 181 0, Value.ref 117, Value.none, Value.ref 118, Value.ref 119, Value.ref 120, Value.int 360 0, Value.int 133 0, Value.str (Str.ofString "/claim/cut.py") 361] }
noncomputable def hO122 (P : Params) : Obj := { cls := Value.type "function", data := Data.func (fnD (stm 17) (Str.ofString "_law_functions") (Str.ofString "_law_functions") (Value.none) (Value.str (Str.ofString "law_xb0020_01") 336) (Value.ref 121)) }
noncomputable def hO126 (P : Params) : Obj := { cls := Value.type "code", data := Data.fields #[Value.str (Str.ofString "_law_deeds") 363, Value.str (Str.ofString "_law_deeds") 364, Value.str (Str.ofString "/claim/cut.py") 365, Value.int 140 0, Value.int 4 0, Value.int 0 0, Value.int 0 0, Value.int 3 0, Value.ref 123, Value.bool true, Value.int 181 0, Value.ref 124, Value.none, Value.none, Value.none, Value.ref 125, Value.int 366 0, Value.int 140 0, Value.str (Str.ofString "/claim/cut.py") 367] }
noncomputable def hO127 (P : Params) : Obj := { cls := Value.type "function", data := Data.func (fnD (stm 18) (Str.ofString "_law_deeds") (Str.ofString "_law_deeds") (Value.none) (Value.str (Str.ofString "law_xb0020_01") 336) (Value.ref 126)) }
noncomputable def hO133 (P : Params) : Obj := { cls := Value.type "code", data := Data.fields #[Value.str (Str.ofString "_law_stands") 369, Value.str (Str.ofString "_law_stands") 370, Value.str (Str.ofString "/claim/cut.py") 371, Value.int 150 0, Value.int 2 0, Value.int 0 0, Value.int 0 0, Value.int 3 0, Value.ref 128, Value.bool true, Value.int 181 0, Value.ref 129, Value.none, Value.ref 130, Value.ref 131, Value.ref 132, Value.int 376 0, Value.int 150 0, Value.str (Str.ofString "/claim/cut.py") 377] }
noncomputable def hO134 (P : Params) : Obj := { cls := Value.type "function", data := Data.func (fnD (stm 19) (Str.ofString "_law_stands") (Str.ofString "_law_stands") (Value.none) (Value.str (Str.ofString "law_xb0020_01") 336) (Value.ref 133)) }
noncomputable def hO140 (P : Params) : Obj := { cls := Value.type "code", data := Data.fields #[Value.str (Str.ofString "_law_hide") 379, Value.str (Str.ofString "_law_hide") 380, Value.str (Str.ofString "/claim/cut.py") 381, Value.int 156 0, Value.int 2 0, Value.int 0 0, Value.int 0 0, Value.int 3 0, Value.ref 135, Value.bool true, Value.int 181 0, Value.ref 136, Value.none, Value.ref 137, Value.ref 138, Value.ref 139, Value.int 390 0, Value.int 156 0, Value.str (Str.ofString "/claim/cut.py") 391] }
noncomputable def hO141 (P : Params) : Obj := { cls := Value.type "function", data := Data.func (fnD (stm 20) (Str.ofString "_law_hide") (Str.ofString "_law_hide") (Value.none) (Value.str (Str.ofString "law_xb0020_01") 336) (Value.ref 140)) }
noncomputable def hO145 (P : Params) : Obj := { cls := Value.type "code", data := Data.fields #[Value.str (Str.ofString "law") 393, Value.str (Str.ofString "law") 394, Value.str (Str.ofString "/claim/cut.py") 395, Value.int 163 0, Value.int 1 0, Value.int 0 0, Value.int 0 0, Value.int 3 0, Value.ref 142, Value.bool true, Value.int 181 0, Value.ref 143, Value.none, Value.none, Value.none, Value.ref 144, Value.int 396 0, Value.int 163 0, Value.str (Str.ofString "/claim/cut.py") 397] }
noncomputable def hO146 (P : Params) : Obj := { cls := Value.type "function", data := Data.func (fnD (stm 21) (Str.ofString "law") (Str.ofString "law") (Value.none) (Value.str (Str.ofString "law_xb0020_01") 336) (Value.ref 145)) }
noncomputable def heapL (P : Params) : Frag := [(1, hO1 P), (2, hO2 P), (3, hO3 P), (20, hO20 P), (21, hO21 P), (27, hO27 P), (28, hO28 P), (34, hO34 P), (35, hO35 P), (41, hO41 P), (42, hO42 P), (48, hO48 P), (49, hO49 P), (62, hO62 P), (63, hO63 P), (69, hO69 P), (70, hO70 P), (72, hO72 P), (73, hO73 P), (83, hO83 P), (84, hO84 P), (90, hO90 P), (91, hO91 P), (97, hO97 P), (98, hO98 P), (104, hO104 P), (105, hO105 P), (109, hO109 P), (110, hO110 P), (114, hO114 P), (115, hO115 P), (121, hO121 P), (122, hO122 P), (126, hO126 P), (127, hO127 P), (133, hO133 P), (134, hO134 P), (140, hO140 P), (141, hO141 P), (145, hO145 P), (146, hO146 P)]
noncomputable def addrL : List Addr := [1, 2, 3, 20, 21, 27, 28, 34, 35, 41, 42, 48, 49, 62, 63, 69, 70, 72, 73, 83, 84, 90, 91, 97, 98, 104, 105, 109, 110, 114, 115, 121, 122, 126, 127, 133, 134, 140, 141, 145, 146]
theorem kf_L (P : Params) : KF (heapL P) where
  sys := rfl
  names := allc rfl (allc rfl (allc rfl (allc rfl (allc rfl (allc rfl (allc rfl (allc rfl (allc rfl (allc rfl (allc rfl (allc rfl (allc rfl (allc rfl (allc rfl (allc rfl (allc rfl (alln)))))))))))))))))
  mark := ⟨_, rfl⟩
  free := allc rfl (allc rfl (allc rfl (allc rfl (allc rfl (allc rfl (allc rfl (allc rfl (allc rfl (allc rfl (alln))))))))))
  fns := allc (fnk (o := hO21 P) (o' := hO20 P) rfl rfl rfl rfl rfl) (allc (fnk (o := hO28 P) (o' := hO27 P) rfl rfl rfl rfl rfl) (allc (fnk (o := hO35 P) (o' := hO34 P) rfl rfl rfl rfl rfl) (allc (fnk (o := hO42 P) (o' := hO41 P) rfl rfl rfl rfl rfl) (allc (fnk (o := hO49 P) (o' := hO48 P) rfl rfl rfl rfl rfl) (allc (fnk (o := hO84 P) (o' := hO83 P) rfl rfl rfl rfl rfl) (allc (fnk (o := hO91 P) (o' := hO90 P) rfl rfl rfl rfl rfl) (allc (fnk (o := hO98 P) (o' := hO97 P) rfl rfl rfl rfl rfl) (allc (fnk (o := hO105 P) (o' := hO104 P) rfl rfl rfl rfl rfl) (allc (fnk (o := hO110 P) (o' := hO109 P) rfl rfl rfl rfl rfl) (allc (fnk (o := hO115 P) (o' := hO114 P) rfl rfl rfl rfl rfl) (allc (fnk (o := hO122 P) (o' := hO121 P) rfl rfl rfl rfl rfl) (allc (fnk (o := hO127 P) (o' := hO126 P) rfl rfl rfl rfl rfl) (allc (fnk (o := hO134 P) (o' := hO133 P) rfl rfl rfl rfl rfl) (allc (fnk (o := hO141 P) (o' := hO140 P) rfl rfl rfl rfl rfl) (allc (fnk (o := hO146 P) (o' := hO145 P) rfl rfl rfl rfl rfl) (alln))))))))))))))))
  f63 := fnk (o := hO63 P) (o' := hO62 P) rfl rfl rfl rfl rfl
  f70 := fnk (o := hO70 P) (o' := hO69 P) rfl rfl rfl rfl rfl
  mk' := rfl
  ini := rfl
  inif := rfl
  cmp := rfl
  cmpf := rfl
  ga := rfl
  gt := rfl
  sa := rfl
  po := rfl
  tk := rfl
  hd := rfl
  csl := rfl
end

section
open StrLaws
theorem sub_iff (t w : Str) (j : Nat) : subAt t w j = true ↔ (t.cps.toList.drop j).take w.length = w.cps.toList := by
  rw [subAt_eq]; exact beq_iff_eq
theorem len_L (s : Str) : s.cps.toList.length = s.length := by show _ = s.cps.size; simp
theorem app_L (a b : Str) : (a ++ b).cps.toList = a.cps.toList ++ b.cps.toList := by rw [Str.cps_append]; simp
theorem sub_at {t w : Str} {A B : List Nat} (h : t.cps.toList = A ++ w.cps.toList ++ B) : subAt t w A.length = true := by
  rw [sub_iff, h, List.append_assoc, List.drop_left, ← len_L, List.take_left]
theorem sub_get {t w : Str} {j p : Nat} (h : subAt t w j = true) (hp : p < w.length) : t.cps.toList[j + p]? = w.cps.toList[p]? := by
  have h := (sub_iff t w j).mp h
  have e := congrArg (fun l : List Nat => l[p]?) h
  simp only [List.getElem?_take, List.getElem?_drop, hp, if_true] at e
  exact e
/-- a piece that holds a sign which nothing ahead holds stands at one place -/
theorem first_at {t w : Str} {A B : List Nat} {c s : Nat} (h : t.cps.toList = A ++ w.cps.toList ++ B) (hc : c ∈ w.cps.toList) (hs : s ≤ A.length) (hA : c ∉ A.drop s) : ∀ j, s ≤ j → j < A.length → subAt t w j = false := by
  intro j h1 h2
  cases q : subAt t w j with
  | false => rfl
  | true =>
    exfalso
    have hp : w.cps.toList.idxOf c < w.cps.toList.length := List.idxOf_lt_length_of_mem hc
    have e := sub_get q (p := w.cps.toList.idxOf c) (by rw [← len_L]; exact hp)
    rw [List.getElem?_eq_getElem hp, List.getElem_idxOf hp] at e
    -- the sign at j + p < |A| + p
    rw [h, List.append_assoc] at e
    by_cases q2 : j + w.cps.toList.idxOf c < A.length
    · rw [List.getElem?_append_left q2] at e
      refine hA ?_
      refine List.mem_iff_getElem?.mpr ⟨j + w.cps.toList.idxOf c - s, ?_⟩
      rw [List.getElem?_drop, show s + (j + w.cps.toList.idxOf c - s) = j + w.cps.toList.idxOf c by lia]
      exact e
    · rw [List.getElem?_append_right (by exact le1 (c3 _ _ _) (.v 0) (.a (.v 1) (.v 2)) (.v 0) (.a (.v 1) (.v 2)) (Nat.le_of_not_lt q2)), List.getElem?_append_left (by omega)] at e
      have hlt : j + w.cps.toList.idxOf c - A.length < w.cps.toList.idxOf c := by omega
      have hlt2 : j + w.cps.toList.idxOf c - A.length < w.cps.toList.length := by exact le2 (c3 _ _ _) (.a (.v 0) (.n 1)) (.v 1) (.a (.v 2) (.n 1)) (.v 0) (.a (.v 2) (.n 1)) (.v 1) hp hlt
      rw [List.getElem?_eq_getElem hlt2] at e
      have hne := List.not_of_lt_findIdx (p := (· == c)) (xs := w.cps.toList) hlt
      have e' : w.cps.toList[j + w.cps.toList.idxOf c - A.length] = c := by simpa using e
      rw [e'] at hne
      simp at hne
/-- no place at all -/
theorem none_at {t w : Str} {A B : List Nat} {c : Nat} (h : t.cps.toList = A ++ B) (hc : c ∈ w.cps.toList) (hB : c ∉ B) : ∀ j, A.length ≤ j → subAt t w j = false := by
  intro j h1
  cases q : subAt t w j with
  | false => rfl
  | true =>
    exfalso
    have hp : w.cps.toList.idxOf c < w.cps.toList.length := List.idxOf_lt_length_of_mem hc
    have e := sub_get q (p := w.cps.toList.idxOf c) (by rw [← len_L]; exact hp)
    rw [List.getElem?_eq_getElem hp, List.getElem_idxOf hp, h, List.getElem?_append_right (by exact le1 (c3 _ _ _) (.v 0) (.v 1) (.v 0) (.a (.v 1) (.v 2)) h1)] at e
    exact hB (List.mem_iff_getElem?.mpr ⟨_, e⟩)
theorem find_at {t w : Str} {A B : List Nat} {c s e : Nat} (h : t.cps.toList = A ++ w.cps.toList ++ B) (hc : c ∈ w.cps.toList) (hs : s ≤ A.length) (hA : c ∉ A.drop s) (he1 : A.length + w.length ≤ e) (he2 : e ≤ t.length) : findIn t w s e = (A.length : Nat) :=
  findIn_some hs he1 he2 (sub_at h) (first_at h hc hs hA)
theorem find_no {t w : Str} {A B : List Nat} {c e : Nat} (h : t.cps.toList = A ++ B) (hc : c ∈ w.cps.toList) (hB : c ∉ B) (he2 : e ≤ t.length) : findIn t w (A.length : Nat) e = -1 :=
  findIn_none he2 fun j h1 _ => none_at h hc hB j h1
theorem find_small {t w : Str} {s e : Nat} (he : e ≤ t.length) (h : e < s + w.length) : findIn t w s e = -1 := findIn_none he fun j h1 h2 => by lia
theorem find_empty {t : Str} {s e : Nat} (he : e ≤ t.length) (h : s ≤ e) : findIn t "" s e = s := by
  have h0 : (Str.ofString "").length = 0 := rfl
  refine findIn_some (Nat.le_refl _) (by exact le2 (c3 _ _ _) (.v 0) (.v 1) (.v 2) (.n 0) (.a (.v 0) (.v 2)) (.v 1) h (Nat.le_of_eq h0)) he ?_ fun j h1 h2 => by lia
  rw [sub_iff, h0]; rfl
noncomputable def dotless (s : Str) : Prop := 46 ∉ s.cps.toList
theorem dots_L : (Str.ofString "...").cps.toList = [46, 46, 46] := rfl
theorem no_dots {s : Str} (h : dotless s) : Txt.contains s "..." = false := by
  cases q : Txt.contains s "..." with
  | false => rfl
  | true =>
    exfalso
    obtain ⟨i, h1, h2⟩ := (found_iff s "...").mp q
    have e := sub_get h2 (p := 0) (by decide)
    rw [dots_L] at e
    exact h (List.mem_iff_getElem?.mpr ⟨_, e⟩)
theorem has_dots {t : Str} {A B : List Nat} (h : t.cps.toList = A ++ [46, 46, 46] ++ B) : Txt.contains t "..." = true := by
  refine (found_iff t "...").mpr ⟨A.length, ?_, sub_at (w := "...") (by rw [dots_L]; exact h)⟩
  have hl := len_L t
  rw [h] at hl
  have : (Str.ofString "...").length = 3 := rfl
  simp only [List.length_append, List.length_cons, List.length_nil] at hl; exact le2 (c4 _ _ _ _) (.v 0) (.n 3) (.a (.a (.v 1) (.a (.a (.a (.n 0) (.n 1)) (.n 1)) (.n 1))) (.v 2)) (.v 3) (.a (.v 1) (.v 0)) (.v 3) (Nat.le_of_eq this) (Nat.le_of_eq hl)
/-- the text that pieces make -/
noncomputable def pat : List Str → Str
  | [] => ""
  | [p] => p
  | p :: r => p ++ "..." ++ pat r
theorem pat_cons (p q : Str) (r : List Str) : pat (p :: q :: r) = p ++ "..." ++ pat (q :: r) := rfl
/-- the cuts are the pieces' ends -/
theorem parts_pat {x : Str} {f : Nat} : ∀ (ps : List Str) (cuts : List Nat) (A : List Nat), ps ≠ [] → (∀ p ∈ ps, dotless p) → x.cps.toList = A ++ (pat ps).cps.toList → ChainG x "..." x.length A.length cuts f → (∀ k, f ≤ k → ¬ At x "..." x.length k) → partsFrom x 3 A.length cuts = ps
  | [], _, _, h, _, _, _, _ => absurd rfl h
  | [p], cuts, A, _, hp, hx, hC, hE => by
    have hd := hp p (by simp)
    have no : ∀ k, A.length ≤ k → ¬ At x "..." x.length k := fun k hk hA => by
      have := none_at (t := x) (w := "...") (A := A) (B := p.cps.toList) (c := 46) hx (by rw [dots_L]; simp) hd k hk
      rw [hA.2] at this; cases this
    cases cuts with
    | nil =>
      show [strSub x A.length x.length] = [p]
      congr 1
      refine Str.ext' (Array.toList_inj.mp ?_)
      rw [strSub_toList, hx, List.drop_left]
      show List.take _ p.cps.toList = _
      refine List.take_of_length_le ?_
      rw [← len_L x, hx, List.length_append]; show p.cps.toList.length ≤ A.length + p.cps.toList.length - A.length; lia
    | cons c r => exact absurd hC.2.1 (no c hC.1)
  | p :: q :: r, cuts, A, _, hp, hx, hC, hE => by
    have hd := hp p (by simp)
    rw [pat_cons, app_L, app_L, dots_L] at hx
    have hx1 : x.cps.toList = (A ++ p.cps.toList) ++ (Str.ofString "...").cps.toList ++ (pat (q :: r)).cps.toList := by rw [hx, dots_L]; simp
    have hat : At x "..." x.length (A ++ p.cps.toList).length := by
      refine ⟨?_, sub_at hx1⟩
      rw [← len_L x, hx1, ← len_L]
      simp only [List.length_append]; exact le0 (c4 _ _ _ _) (.a (.a (.v 0) (.v 1)) (.v 2)) (.a (.a (.a (.v 0) (.v 1)) (.v 2)) (.v 3))
    have hno : ∀ k, A.length ≤ k → k < (A ++ p.cps.toList).length → ¬ At x "..." x.length k := fun k h1 h2 hA => by
      have := first_at (t := x) (w := "...") (A := A ++ p.cps.toList) (B := (pat (q :: r)).cps.toList) (c := 46) (s := A.length) hx1 (by rw [dots_L]; simp) (by simp) (by rw [List.drop_left]; exact hd) k h1 h2
      rw [hA.2] at this; cases this
    cases cuts with
    | nil =>
      have hf : f = A.length := hC
      exact absurd hat (hE _ (by rw [hf]; simp))
    | cons c rest =>
      obtain ⟨h1, h2, h3, h4⟩ := hC
      have hc : c = (A ++ p.cps.toList).length := by
        rcases Nat.lt_trichotomy c (A ++ p.cps.toList).length with q' | q' | q'
        · exact absurd h2 (hno c h1 q')
        · exact q'
        · exact absurd hat (h3 _ (by simp) q')
      have e3 : c + (Str.ofString "...").length = (A ++ p.cps.toList ++ [46, 46, 46]).length := by rw [hc]; simp; rfl
      rw [e3] at h4
      have ih := parts_pat (q :: r) rest (A ++ p.cps.toList ++ [46, 46, 46]) (by simp) (fun y hy => hp y (.tail _ hy)) (by rw [hx]; simp) h4 hE
      show strSub x A.length c :: partsFrom x 3 (c + 3) rest = _
      have e4 : c + 3 = (A ++ p.cps.toList ++ [46, 46, 46]).length := by rw [hc]; simp; exact Nat.le_antisymm (le0 (c2 _ _) (.a (.a (.v 0) (.v 1)) (.n 3)) (.a (.v 0) (.a (.v 1) (.n 3)))) (le0 (c2 _ _) (.a (.v 0) (.a (.v 1) (.n 3))) (.a (.a (.v 0) (.v 1)) (.n 3)))
      rw [e4, ih]
      congr 1
      refine Str.ext' (Array.toList_inj.mp ?_)
      rw [strSub_toList, hx1, List.append_assoc, List.append_assoc, List.drop_left, hc]
      rw [show (A ++ p.cps.toList).length - A.length = p.cps.toList.length by simp, List.take_left]
theorem split_pat (ps : List Str) (h2 : 2 ≤ ps.length) (hp : ∀ p ∈ ps, dotless p) : Txt.contains (pat ps) "..." = true ∧ Txt.split (pat ps) "..." = ps := by
  have hcon : Txt.contains (pat ps) "..." = true := by
    match ps, h2 with
    | p :: q :: r, _ => exact has_dots (A := p.cps.toList) (B := (pat (q :: r)).cps.toList) (by rw [pat_cons, app_L, app_L, dots_L])
  refine ⟨hcon, ?_⟩
  obtain ⟨f, hG, hE⟩ := occ_tight (pat ps) "..." (by decide)
  have key := parts_pat (x := pat ps) ps _ [] (by intro e; rw [e] at h2; simp at h2) hp rfl hG hE
  have hsub := split_two hcon
  unfold Txt.split at hsub ⊢
  split
  · rename_i hc; rw [if_pos hc] at hsub; simp at hsub
  · rename_i hc
    rw [if_neg hc] at hsub
    split
    · rename_i hc2; rw [if_pos hc2] at hsub; simp at hsub
    · rw [partsBetween_eq]; exact key
theorem ellip_pat (ps : List Str) (t : Str) (h2 : 2 ≤ ps.length) (hp : ∀ p ∈ ps, dotless p) : ellip (pat ps) t = ellCore ps t := by
  obtain ⟨h1, h3⟩ := split_pat ps h2 hp
  unfold ellip
  rw [h1, h3]; rfl
theorem ellip_plain {w t : Str} (h : dotless w) : ellip w t = (w == t) := by
  unfold ellip
  rw [no_dots h]; rfl
end

section
open StrLaws
noncomputable def lnA (lines : List Str) (x : Int) : Str := lines.getD x.toNat ""
structure LineAll (lines : List Str) : Prop extends LnOk lines where
  has : ∀ x : Int, 0 ≤ x ∧ x < 4 → (97 + x.toNat) ∈ (lnA lines x).cps.toList
  nodot : ∀ x : Int, 0 ≤ x ∧ x < 4 → dotless (lnA lines x)
  two : ∀ x : Int, 0 ≤ x ∧ x < 4 → 2 ≤ (lnA lines x).length
  apart : ∀ x y : Int, 0 ≤ x ∧ x < 4 → 0 ≤ y ∧ y < 4 → x ≠ y → (97 + x.toNat) ∉ (lnA lines y).cps.toList
noncomputable def Edge (front back : Str) : Prop := (front = "top\n" ∧ back = "tip\n") ∨ (front = "" ∧ back = "")
theorem Edge.len {front back : Str} (h : Edge front back) : front.length ≤ 4 ∧ back.length ≤ 4 := by
  rcases h with ⟨rfl, rfl⟩ | ⟨rfl, rfl⟩ <;> decide
theorem Edge.free {front back : Str} (h : Edge front back) : (∀ k, k < 4 → (97 + k) ∉ front.cps.toList ∧ (97 + k) ∉ back.cps.toList) ∧ dotless front ∧ dotless back := by
  rcases h with ⟨rfl, rfl⟩ | ⟨rfl, rfl⟩
  · exact ⟨by decide, by unfold dotless; decide, by unfold dotless; decide⟩
  · exact ⟨by decide, by unfold dotless; decide, by unfold dotless; decide⟩
noncomputable def subL : List Int → List Int → Bool
  | [], _ => true
  | _ :: _, [] => false
  | x :: r, y :: c => if x == y then subL r c else subL (x :: r) c
theorem subL_at (x : Int) (r c2 : List Int) : ∀ c1 : List Int, x ∉ c1 → subL (x :: r) (c1 ++ x :: c2) = subL r c2
  | [], _ => by simp [subL]
  | y :: c1, h => by
    have h1 : x ≠ y := fun e => h (by simp [e])
    have h2 : x ∉ c1 := fun e => h (.tail _ e)
    rw [List.cons_append]
    show (if x == y then _ else subL (x :: r) (c1 ++ x :: c2)) = _
    rw [if_neg (by simpa using h1)]
    exact subL_at x r c2 c1 h2
theorem subL_no (x : Int) (r : List Int) : ∀ c : List Int, x ∉ c → subL (x :: r) c = false
  | [], _ => rfl
  | y :: c, h => by
    have h1 : x ≠ y := fun e => h (by simp [e])
    show (if x == y then _ else subL (x :: r) c) = _
    rw [if_neg (by simpa using h1)]
    exact subL_no x r c fun e => h (.tail _ e)
noncomputable def blk (lines : List Str) (c : List Int) : List Nat := (c.map fun x => (lnA lines x).cps.toList).flatten
theorem blk_app (lines : List Str) (a b : List Int) : blk lines (a ++ b) = blk lines a ++ blk lines b := by simp [blk]
theorem blk_cons (lines : List Str) (x : Int) (b : List Int) : blk lines (x :: b) = (lnA lines x).cps.toList ++ blk lines b := by simp [blk]
noncomputable def In4 (l : List Int) : Prop := ∀ x ∈ l, 0 ≤ x ∧ x < 4
theorem blk_free {lines : List Str} (hl : LineAll lines) {x : Int} (hx : 0 ≤ x ∧ x < 4) : ∀ c : List Int, In4 c → x ∉ c → (97 + x.toNat) ∉ blk lines c
  | [], _, _ => by simp [blk]
  | y :: c, h4, hn => by
    rw [blk_cons, List.mem_append]
    rintro (q | q)
    · exact hl.apart x y hx (h4 y (by simp)) (fun e => hn (by simp [e])) q
    · exact blk_free hl hx c (fun z hz => h4 z (.tail _ hz)) (fun e => hn (.tail _ e)) q
theorem finds_sub {lines : List Str} {t back : Str} (hl : LineAll lines) (hb : ∀ k, k < 4 → (97 + k) ∉ back.cps.toList) : ∀ (ws c : List Int) (pre : List Nat), In4 ws → In4 c → t.cps.toList = pre ++ blk lines c ++ back.cps.toList →
    finds t ((t.length : Int) - back.length) (ws.map (lnA lines)) (pre.length : Nat) = subL ws c
  | [], c, pre, _, _, _ => by cases c <;> rfl
  | x :: r, c, pre, hw, h4, ht => by
    have hx := hw x (by simp)
    have hxl : x.toNat < 4 := by lia
    have hlt : t.length = pre.length + (blk lines c).length + back.length := by rw [← len_L t, ht, ← len_L back]; simp only [List.length_append]
    have he : (t.length : Int) - back.length = ((pre.length + (blk lines c).length : Nat) : Int) := by lia
    show (if findIn t (lnA lines x) (pre.length : Nat) ((t.length : Int) - back.length) < 0 then false else finds t ((t.length : Int) - back.length) (r.map (lnA lines)) (findIn t (lnA lines x) (pre.length : Nat) ((t.length : Int) - back.length) + (lnA lines x).length)) = _
    by_cases hm : x ∈ c
    · obtain ⟨c1, c2, rfl, hn⟩ := List.eq_append_cons_of_mem hm
      have h41 : In4 c1 := fun y hy => h4 y (by simp [hy])
      have h42 : In4 c2 := fun y hy => h4 y (by simp [hy])
      have hbl : (blk lines (c1 ++ x :: c2)).length = (blk lines c1).length + ((lnA lines x).length + (blk lines c2).length) := by
        rw [blk_app, blk_cons, ← len_L (lnA lines x)]; simp only [List.length_append]
      have ht2 : t.cps.toList = (pre ++ blk lines c1) ++ (lnA lines x).cps.toList ++ (blk lines c2 ++ back.cps.toList) := by
        rw [ht, blk_app, blk_cons]; simp only [List.append_assoc]
      have hf : findIn t (lnA lines x) (pre.length : Nat) ((pre.length + (blk lines (c1 ++ x :: c2)).length : Nat) : Int) = ((pre ++ blk lines c1).length : Nat) :=
        find_at ht2 (hl.has x hx) (by simp) (by rw [List.drop_left]; exact blk_free hl hx c1 h41 hn) (by rw [hbl, List.length_append]; exact le0 (c4 _ _ _ _) (.a (.a (.v 0) (.v 1)) (.v 2)) (.a (.v 0) (.a (.v 1) (.a (.v 2) (.v 3))))) (by exact le1 (c4 _ _ _ _) (.a (.a (.v 1) (.v 2)) (.v 3)) (.v 0) (.a (.v 1) (.v 2)) (.v 0) (Nat.le_of_eq hlt.symm))
      rw [subL_at x r c2 c1 hn]
      have ih := finds_sub hl hb r c2 (pre ++ blk lines c1 ++ (lnA lines x).cps.toList) (fun y hy => hw y (.tail _ hy)) h42 (by rw [ht2]; simp only [List.append_assoc])
      rw [he, hf, if_neg (by lia), ← ih, he]
      congr 1
      rw [List.length_append (as := pre ++ blk lines c1), len_L]; lia
    · have hf : findIn t (lnA lines x) (pre.length : Nat) ((pre.length + (blk lines c).length : Nat) : Int) = -1 :=
        find_no (B := blk lines c ++ back.cps.toList) (by rw [ht, List.append_assoc]) (hl.has x hx) (by
          rw [List.mem_append]
          rintro (q | q)
          · exact blk_free hl hx c h4 hm q
          · exact hb _ hxl q) (by exact le1 (c4 _ _ _ _) (.a (.a (.v 1) (.v 2)) (.v 3)) (.v 0) (.a (.v 1) (.v 2)) (.v 0) (Nat.le_of_eq hlt.symm))
      rw [he, hf, if_pos (by decide), subL_no x r c hm]
theorem finds_snoc {t : Str} {e : Nat} (he : e ≤ t.length) : ∀ (l : List Str) (s : Nat), s ≤ e → finds t e (l ++ ([""] : List Str)) s = finds t e l s
  | [], s, hs => by
    show (if findIn t "" s e < 0 then false else _) = true
    rw [find_empty he hs, if_neg (by lia)]; rfl
  | w :: r, s, hs => by
    rw [List.cons_append]
    show (if findIn t w s e < 0 then false else finds t e (r ++ ([""] : List Str)) (findIn t w s e + w.length)) = (if findIn t w s e < 0 then false else finds t e r (findIn t w s e + w.length))
    rcases findIn_cases t w (s := s) he with ⟨h, _⟩ | ⟨k, h, h1, h2, _⟩
    · rw [h]; rfl
    · rw [h, if_neg (by lia), if_neg (by omega)]
      have := finds_snoc he r (k + w.length) h2
      rw [show ((k : Int) + w.length) = ((k + w.length : Nat) : Int) by lia]
      exact this
theorem page_L (front back : Str) (lines : List Str) (c : List Int) : (pageS front back lines c).cps.toList = front.cps.toList ++ blk lines c ++ back.cps.toList := by
  unfold pageS
  rw [app_L, app_L]
  congr 2
  show (Builtin.Str.glued "" _).cps.toList = _
  rw [glued_eq_join]
  have key : ∀ l : List Str, (Str.join "" l).cps.toList = (l.map fun s => s.cps.toList).flatten := by
    intro l
    induction l with
    | nil => rfl
    | cons x r ih =>
      cases r with
      | nil => simp [Str.join]
      | cons y r =>
        show (x ++ "" ++ Str.join "" (y :: r)).cps.toList = _
        rw [app_L, app_L, ih]
        show x.cps.toList ++ [] ++ _ = _
        simp
  rw [key, List.map_map]; rfl
theorem sw_true {t w : Str} {B : List Nat} (h : t.cps.toList = w.cps.toList ++ B) : Txt.startswith t w = true := by
  unfold Txt.startswith
  rw [Bool.and_eq_true, decide_eq_true_iff]
  refine ⟨?_, sub_at (A := []) (B := B) h⟩
  rw [← len_L t, h, ← len_L w, List.length_append]; exact le0 (c2 _ _) (.a (.n 0) (.v 0)) (.a (.v 0) (.v 1))
theorem ew_true {t w : Str} {A : List Nat} (h : t.cps.toList = A ++ w.cps.toList) : Txt.endswith t w = true := by
  unfold Txt.endswith
  have hl : t.length = A.length + w.length := by rw [← len_L t, h, ← len_L w, List.length_append]
  rw [Bool.and_eq_true, decide_eq_true_iff]
  refine ⟨by exact le1 (c3 _ _ _) (.a (.v 1) (.v 2)) (.v 0) (.a (.n 0) (.v 2)) (.v 0) (Nat.le_of_eq hl.symm), ?_⟩
  rw [show t.length - w.length = A.length by lia]
  exact sub_at (B := []) (by rw [h]; simp)
theorem ellCore_cons (w0 : Str) (r0 : List Str) (t : Str) : ellCore (w0 :: r0) t = if (w0.length : Int) != 0 then (if Txt.startswith t w0 then ell2 w0.length r0 t else false) else ell2 0 (w0 :: r0) t := rfl
theorem ell2_snoc (s : Int) (l : List Str) (wl t : Str) : ell2 s (l ++ [wl]) t = if (wl.length : Int) != 0 then (if Txt.endswith t wl then ell3 s ((t.length : Int) - wl.length) l t else false) else ell3 s t.length (l ++ [wl]) t := by
  unfold ell2
  rw [List.getLast?_append]
  show (if (wl.length : Int) != 0 then (if Txt.endswith t wl then ell3 s ((t.length : Int) - wl.length) (l ++ [wl]).dropLast t else false) else ell3 s t.length (l ++ [wl]) t) = _
  rw [List.dropLast_concat]
/-- a pattern of lines on a page: they stand there in turn -/
theorem ellip_page {front back : Str} {lines : List Str} (hE : Edge front back) (hl : LineAll lines) (ws c : List Int) (hw : In4 ws) (hc : In4 c) : ellip (pat (front :: (ws.map (lnA lines) ++ [back]))) (pageS front back lines c) = subL ws c := by
  obtain ⟨hfree, hd1, hd2⟩ := hE.free
  have hL := page_L front back lines c
  have hlen : (pageS front back lines c).length = front.length + (blk lines c).length + back.length := by rw [← len_L, hL, ← len_L, ← len_L]; simp only [List.length_append]
  have hfin := finds_sub (t := pageS front back lines c) hl (fun k hk => (hfree k hk).2) ws c front.cps.toList hw hc hL
  rw [ellip_pat _ _ (by simp) (by
    intro p hp
    rcases List.mem_cons.mp hp with rfl | hp
    · exact hd1
    · rcases List.mem_append.mp hp with hp | hp
      · obtain ⟨x, hx, rfl⟩ := List.mem_map.mp hp
        exact hl.nodot x (hw x hx)
      · rw [List.mem_singleton.mp hp]; exact hd2)]
  revert hfin hL hlen
  generalize pageS front back lines c = t
  intro hL hlen hfin
  rw [len_L] at hfin
  rcases hE with ⟨rfl, rfl⟩ | ⟨rfl, rfl⟩
  · rw [ellCore_cons, if_pos (by decide), sw_true (w := "top\n") (B := blk lines c ++ (Str.ofString "tip\n").cps.toList) (by rw [hL, List.append_assoc]), if_pos rfl, ell2_snoc, if_pos (by decide),
      ew_true (w := "tip\n") (A := (Str.ofString "top\n").cps.toList ++ blk lines c) hL, if_pos rfl]
    unfold ell3
    rw [if_neg (by lia)]
    exact hfin
  · rw [ellCore_cons, if_neg (by decide), ← List.cons_append, ell2_snoc, if_neg (by decide)]
    unfold ell3
    rw [if_neg (by lia)]
    have h1 := finds_snoc (t := t) (Nat.le_refl t.length) ("" :: ws.map (lnA lines)) 0 (Nat.zero_le _)
    have h2 : finds t (t.length : Nat) ("" :: ws.map (lnA lines)) ((0 : Nat) : Int) = finds t (t.length : Nat) (ws.map (lnA lines)) ((0 : Nat) : Int) := by
      show (if findIn t "" ((0 : Nat) : Int) (t.length : Nat) < 0 then false else finds t (t.length : Nat) (ws.map (lnA lines)) (findIn t "" ((0 : Nat) : Int) (t.length : Nat) + (0 : Nat))) = _
      rw [find_empty (Nat.le_refl _) (Nat.zero_le _), if_neg (by decide)]; rfl
    have h3 : (t.length : Int) - (Str.ofString "").length = (t.length : Nat) := by show (t.length : Int) - ((0 : Nat) : Int) = _; lia
    rw [h3] at hfin
    exact h1.trans (h2.trans hfin)
end

section
open StrLaws
theorem str_ext {a b : Str} (h : a.cps.toList = b.cps.toList) : a = b := Str.ext' (Array.toList_inj.mp h)
theorem empty_L : (Str.ofString "").cps.toList = [] := rfl
theorem ddots_L : (Str.ofString "......").cps.toList = [46, 46, 46, 46, 46, 46] := rfl
theorem cut1_L (a : Str) (h : 2 ≤ a.length) : (cutS a (some 1) none).cps.toList = a.cps.toList.drop 1 := by
  have hl := len_L a
  show ((a.cps.toList.drop (clipAt a.cps.toList.length 1)).take (a.cps.toList.length - clipAt a.cps.toList.length 1)).toArray.toList = _
  have hc : clipAt a.cps.toList.length 1 = 1 := by
    unfold clipAt
    simp only [hl]
    lia
  rw [hc, List.toList_toArray]
  exact List.take_of_length_le (by simp)
theorem sw_false {t w : Str} (h : subAt t w 0 = false) : Txt.startswith t w = false := by unfold Txt.startswith; rw [h, Bool.and_false]
theorem ew_false {t w : Str} (h : subAt t w (t.length - w.length) = false) : Txt.endswith t w = false := by unfold Txt.endswith; rw [h, Bool.and_false]
theorem dotless_empty : dotless "" := by unfold dotless; decide
theorem all_cons {P : Str → Prop} {x : Str} {l : List Str} (h : P x) (r : ∀ p ∈ l, P p) : ∀ p ∈ x :: l, P p := fun p hp => by
  rcases List.mem_cons.mp hp with rfl | hp
  · exact h
  · exact r p hp
theorem all_nil {P : Str → Prop} : ∀ p ∈ ([] : List Str), P p := fun p hp => nomatch hp
theorem finds_cons (t : Str) (e : Int) (w : Str) (r : List Str) (s : Int) : finds t e (w :: r) s = if findIn t w s e < 0 then false else finds t e r (findIn t w s e + w.length) := rfl
theorem ell2_one (s : Int) (wl t : Str) : ell2 s [wl] t = if (wl.length : Int) != 0 then (if Txt.endswith t wl then ell3 s ((t.length : Int) - wl.length) [] t else false) else ell3 s t.length [wl] t := ell2_snoc s [] wl t
theorem dots_true {a b : Str} {ca cb : Nat} (ha : ca ∈ a.cps.toList) (hab : ca ∉ b.cps.toList) (hb : cb ∈ b.cps.toList) (hba : cb ∉ a.cps.toList) (da : dotless a) (db : dotless b) (la : 2 ≤ a.length) (lb : 2 ≤ b.length) : dotsS a b = true := by
  have h0 : (Str.ofString "").length = 0 := rfl
  have hc1 := cut1_L a la
  have hc2 : (cutS a (some 1) none).length = a.length - 1 := by rw [← len_L, hc1, List.length_drop, len_L]
  have hc3 : dotless (cutS a (some 1) none) := fun h => da (List.mem_of_mem_drop (by rw [hc1] at h; exact h))
  have hab_l : (a ++ b).length = a.length + b.length := Str.length_append a b
  have hba_l : (b ++ a).length = b.length + a.length := Str.length_append b a
  have naz : ((a.length : Int) != 0) = true := by simp; exact fun hh => no10 (le2 (c1 _) (.n 2) (.v 0) (.v 0) (.n 0) (.n 1) (.n 0) la (Nat.le_of_eq hh))
  have nbz : ((b.length : Int) != 0) = true := by simp; exact fun hh => no10 (le2 (c1 _) (.n 2) (.v 0) (.v 0) (.n 0) (.n 1) (.n 0) lb (Nat.le_of_eq hh))
  have ez : (((Str.ofString "").length : Int) != 0) = false := rfl
  have q1 : ellip (a ++ "..." ++ a) a = false := by
    rw [show a ++ "..." ++ a = pat [a, a] from rfl, ellip_pat _ _ (by simp) (all_cons da (all_cons da all_nil)), ellCore_cons, naz, if_pos rfl, sw_true (B := []) (by simp), if_pos rfl, ell2_one, naz, if_pos rfl, ew_true (A := []) (by simp), if_pos rfl]
    unfold ell3
    rw [if_pos (by lia)]
  have q2 : ellip ("..." ++ a ++ "..." ++ cutS a (some 1) none ++ "...") a = false := by
    rw [show "..." ++ a ++ "..." ++ cutS a (some 1) none ++ "..." = pat ["", a, cutS a (some 1) none, ""] by
      apply str_ext; simp only [pat, app_L, dots_L, empty_L, List.append_assoc, List.nil_append, List.append_nil]]
    rw [ellip_pat _ _ (by simp) (all_cons dotless_empty (all_cons da (all_cons hc3 (all_cons dotless_empty all_nil)))), ellCore_cons, ez, if_neg Bool.false_ne_true]
    rw [show (["", a, cutS a (some 1) none, ""] : List Str) = [("" : Str), a, cutS a (some 1) none] ++ [("" : Str)] from rfl, ell2_snoc, ez, if_neg Bool.false_ne_true]
    unfold ell3
    rw [if_neg (by lia)]
    have f1 := find_empty (t := a) (s := 0) (Nat.le_refl a.length) (Nat.zero_le _)
    have f2 := find_at (t := a) (w := a) (A := []) (B := []) (c := ca) (s := 0) (e := a.length) (by simp) ha (by simp) (by simp) (by simp) (Nat.le_refl _)
    have f3 := find_small (t := a) (w := cutS a (some 1) none) (s := a.length) (Nat.le_refl a.length) (by lia)
    show finds a (a.length : Nat) ("" :: a :: cutS a (some 1) none :: [""]) ((0 : Nat) : Int) = false
    rw [finds_cons, f1, if_neg (by lia), h0, finds_cons]
    show (if findIn a a ((0 : Nat) : Int) (a.length : Nat) < 0 then false else finds a (a.length : Nat) (cutS a (some 1) none :: [""]) (findIn a a ((0 : Nat) : Int) (a.length : Nat) + a.length)) = false
    rw [f2, if_neg (by simp), finds_cons]
    show (if findIn a (cutS a (some 1) none) (((0 : Nat) : Int) + a.length) (a.length : Nat) < 0 then false else _) = false
    rw [show (((0 : Nat) : Int) + a.length) = (a.length : Nat) by lia, f3, if_pos (by decide)]
  have q3 : ellip ("..." ++ a ++ "..." ++ b ++ "...") (a ++ b ++ a) = true := by
    rw [show "..." ++ a ++ "..." ++ b ++ "..." = pat ["", a, b, ""] by
      apply str_ext; simp only [pat, app_L, dots_L, empty_L, List.append_assoc, List.nil_append, List.append_nil]]
    have hl3 : (a ++ b ++ a).length = a.length + b.length + a.length := by rw [Str.length_append, Str.length_append]
    rw [ellip_pat _ _ (by simp) (all_cons dotless_empty (all_cons da (all_cons db (all_cons dotless_empty all_nil)))), ellCore_cons, ez, if_neg Bool.false_ne_true]
    rw [show (["", a, b, ""] : List Str) = [("" : Str), a, b] ++ [("" : Str)] from rfl, ell2_snoc, ez, if_neg Bool.false_ne_true]
    unfold ell3
    rw [if_neg (by omega)]
    have f1 := find_empty (t := a ++ b ++ a) (s := 0) (Nat.le_refl (a ++ b ++ a).length) (Nat.zero_le _)
    have f2 := find_at (t := a ++ b ++ a) (w := a) (A := []) (B := b.cps.toList ++ a.cps.toList) (c := ca) (s := 0) (e := (a ++ b ++ a).length) (by rw [app_L, app_L]; simp) ha (by simp) (by simp) (by rw [hl3]; simp only [List.length_nil]; exact le1 (c3 _ _ _) (.v 2) (.a (.v 1) (.v 0)) (.a (.n 0) (.v 0)) (.a (.a (.v 0) (.v 1)) (.v 0)) (Nat.le_of_eq hba_l)) (Nat.le_refl _)
    have f3 := find_at (t := a ++ b ++ a) (w := b) (A := a.cps.toList) (B := a.cps.toList) (c := cb) (s := a.length) (e := (a ++ b ++ a).length) (by rw [app_L, app_L]) hb (by rw [len_L]; exact le0 (c1 _) (.v 0) (.v 0)) (by rw [List.drop_of_length_le (by rw [len_L]; exact le0 (c1 _) (.v 0) (.v 0))]; simp) (by rw [hl3, len_L]; exact le0 (c2 _ _) (.a (.v 0) (.v 1)) (.a (.a (.v 0) (.v 1)) (.v 0))) (Nat.le_refl _)
    rw [len_L] at f3
    have f4 := find_empty (t := a ++ b ++ a) (s := a.length + b.length) (Nat.le_refl (a ++ b ++ a).length) (by lia)
    show finds (a ++ b ++ a) ((a ++ b ++ a).length : Nat) ("" :: a :: b :: [""]) ((0 : Nat) : Int) = true
    rw [finds_cons, f1, if_neg (by omega), h0, finds_cons]
    show (if findIn (a ++ b ++ a) a ((0 : Nat) : Int) ((a ++ b ++ a).length : Nat) < 0 then false else finds (a ++ b ++ a) ((a ++ b ++ a).length : Nat) (b :: [""]) (findIn (a ++ b ++ a) a ((0 : Nat) : Int) ((a ++ b ++ a).length : Nat) + a.length)) = true
    rw [f2, if_neg (by simp), finds_cons]
    show (if findIn (a ++ b ++ a) b (((0 : Nat) : Int) + a.length) ((a ++ b ++ a).length : Nat) < 0 then false else finds (a ++ b ++ a) ((a ++ b ++ a).length : Nat) [""] (findIn (a ++ b ++ a) b (((0 : Nat) : Int) + a.length) ((a ++ b ++ a).length : Nat) + b.length)) = true
    rw [show (((0 : Nat) : Int) + a.length) = (a.length : Nat) by omega, f3, if_neg (by lia), finds_cons]
    rw [show ((a.length : Nat) : Int) + (b.length : Nat) = ((a.length + b.length : Nat) : Int) by lia, f4, if_neg (by lia)]
    rfl
  have q4 : ellip (a ++ "..." ++ b ++ "..." ++ b) (a ++ b) = false := by
    rw [show a ++ "..." ++ b ++ "..." ++ b = pat [a, b, b] by apply str_ext; simp only [pat, app_L, dots_L, List.append_assoc]]
    rw [ellip_pat _ _ (by simp) (all_cons da (all_cons db (all_cons db all_nil))), ellCore_cons, naz, if_pos rfl, sw_true (B := b.cps.toList) (app_L a b), if_pos rfl]
    rw [show ([b, b] : List Str) = [b] ++ [b] from rfl, ell2_snoc, nbz, if_pos rfl, ew_true (A := a.cps.toList) (app_L a b), if_pos rfl]
    unfold ell3
    rw [if_neg (by lia)]
    have f1 := find_small (t := a ++ b) (w := b) (s := a.length) (e := a.length) (by exact le1 (c3 _ _ _) (.a (.v 2) (.v 0)) (.v 1) (.v 2) (.v 1) (Nat.le_of_eq hab_l.symm)) (by exact le1 (c2 _ _) (.n 2) (.v 0) (.a (.v 1) (.n 1)) (.a (.v 1) (.v 0)) lb)
    rw [finds_cons, show ((a ++ b).length : Int) - b.length = (a.length : Nat) by lia, f1, if_pos (by decide)]
  have q5 : ellip ("..." ++ cutS a (some 1) none) a = true := by
    rw [show "..." ++ cutS a (some 1) none = pat ["", cutS a (some 1) none] by apply str_ext; simp only [pat, app_L, dots_L, empty_L, List.nil_append]]
    have nz : (((cutS a (some 1) none).length : Int) != 0) = true := by simp; lia
    rw [ellip_pat _ _ (by simp) (all_cons dotless_empty (all_cons hc3 all_nil)), ellCore_cons, ez, if_neg Bool.false_ne_true]
    rw [show (["", cutS a (some 1) none] : List Str) = [("" : Str)] ++ [cutS a (some 1) none] from rfl, ell2_snoc, nz, if_pos rfl, ew_true (A := a.cps.toList.take 1) (by rw [hc1, List.take_append_drop]), if_pos rfl]
    unfold ell3
    rw [if_neg (by lia)]
    have f1 := find_empty (t := a) (s := 0) (e := 1) (by exact le1 (c1 _) (.n 2) (.v 0) (.n 1) (.v 0) la) (by exact le0 (c1 0) (.n 0) (.n 1))
    show finds a _ [""] ((0 : Nat) : Int) = true
    rw [finds_cons, show (a.length : Int) - (cutS a (some 1) none).length = (1 : Nat) by lia, f1, if_neg (by omega)]
    rfl
  have q6 : ellip (a ++ "......" ++ b) (a ++ b) = true := by
    rw [show a ++ "......" ++ b = pat [a, "", b] by apply str_ext; simp only [pat, app_L, dots_L, ddots_L, empty_L, List.append_assoc, List.nil_append, List.cons_append]]
    rw [ellip_pat _ _ (by simp) (all_cons da (all_cons dotless_empty (all_cons db all_nil))), ellCore_cons, naz, if_pos rfl, sw_true (B := b.cps.toList) (app_L a b), if_pos rfl]
    rw [show (["", b] : List Str) = [("" : Str)] ++ [b] from rfl, ell2_snoc, nbz, if_pos rfl, ew_true (A := a.cps.toList) (app_L a b), if_pos rfl]
    unfold ell3
    rw [if_neg (by omega)]
    have f1 := find_empty (t := a ++ b) (s := a.length) (e := a.length) (by exact le1 (c3 _ _ _) (.a (.v 2) (.v 0)) (.v 1) (.v 2) (.v 1) (Nat.le_of_eq hab_l.symm)) (by exact le0 (c1 _) (.v 0) (.v 0))
    rw [finds_cons, show ((a ++ b).length : Int) - b.length = (a.length : Nat) by omega, f1, if_neg (by lia)]
    rfl
  have q7 : ellip (a ++ "...") (b ++ a) = false := by
    rw [show a ++ "..." = pat [a, ""] by apply str_ext; simp only [pat, app_L, dots_L, empty_L, List.append_nil]]
    have f1 := first_at (t := b ++ a) (w := a) (A := b.cps.toList) (B := []) (c := ca) (s := 0) (by rw [app_L]; simp) ha (by simp) (by simpa using hab) 0 (by exact le0 (c1 0) (.n 0) (.n 0)) (by rw [len_L]; exact le1 (c1 _) (.n 2) (.v 0) (.a (.n 0) (.n 1)) (.v 0) lb)
    rw [ellip_pat _ _ (by simp) (all_cons da (all_cons dotless_empty all_nil)), ellCore_cons, naz, if_pos rfl, sw_false f1, if_neg Bool.false_ne_true]
  have q8 : ellip ("..." ++ a) (a ++ b) = false := by
    rw [show "..." ++ a = pat ["", a] by apply str_ext; simp only [pat, app_L, dots_L, empty_L, List.nil_append]]
    have f1 : subAt (a ++ b) a ((a ++ b).length - a.length) = false := by
      rw [show (a ++ b).length - a.length = b.length by lia]
      cases q : subAt (a ++ b) a b.length with
      | false => rfl
      | true =>
        exfalso
        -- b's own sign would stand in a
        have e := sub_get q (p := a.length - 1) (by lia)
        have hi : a.cps.toList.idxOf ca < a.cps.toList.length := List.idxOf_lt_length_of_mem ha
        have e2 := sub_get q (p := a.cps.toList.idxOf ca) (by rw [← len_L]; exact hi)
        rw [List.getElem?_eq_getElem hi, List.getElem_idxOf hi, app_L] at e2
        by_cases q2 : b.length + a.cps.toList.idxOf ca < a.cps.toList.length
        · -- the sign stands in a at a second place: look at b's sign
          have hj : b.cps.toList.idxOf cb < b.cps.toList.length := List.idxOf_lt_length_of_mem hb
          have hjl := len_L b
          have hal := len_L a
          -- the place of cb in a ++ b is |a| + j; it lies in the occurrence
          have e3 := sub_get q (p := a.length - b.length + b.cps.toList.idxOf cb) (by lia)
          rw [show b.length + (a.length - b.length + b.cps.toList.idxOf cb) = a.cps.toList.length + b.cps.toList.idxOf cb by lia, app_L, List.getElem?_append_right (by exact le0 (c2 _ _) (.v 0) (.a (.v 0) (.v 1))), show a.cps.toList.length + b.cps.toList.idxOf cb - a.cps.toList.length = b.cps.toList.idxOf cb by lia,
            List.getElem?_eq_getElem hj, List.getElem_idxOf hj] at e3
          exact hba (List.mem_iff_getElem?.mpr ⟨_, e3.symm⟩)
        · rw [List.getElem?_append_right (by exact le1 (c3 _ _ _) (.v 0) (.a (.v 1) (.v 2)) (.v 0) (.a (.v 1) (.v 2)) (Nat.le_of_not_lt q2))] at e2
          exact hab (List.mem_iff_getElem?.mpr ⟨_, e2⟩)
    rw [ellip_pat _ _ (by simp) (all_cons dotless_empty (all_cons da all_nil)), ellCore_cons, ez, if_neg Bool.false_ne_true]
    rw [show (["", a] : List Str) = [("" : Str)] ++ [a] from rfl, ell2_snoc, naz, if_pos rfl, ew_false f1, if_neg Bool.false_ne_true]
  have dab : dotless (a ++ b) := by
    unfold dotless; rw [app_L, List.mem_append]; rintro (h | h)
    · exact da h
    · exact db h
  have q9 : ellip a (a ++ b) = false := by
    rw [ellip_plain da]
    refine beq_eq_false_iff_ne.mpr fun e => ?_
    have := congrArg Str.length e
    exact no10 (le3 (c3 _ _ _) (.n 2) (.v 0) (.a (.v 2) (.v 0)) (.v 1) (.v 1) (.v 2) (.n 1) (.n 0) lb (Nat.le_of_eq hab_l.symm) (Nat.le_of_eq this.symm))
  have q10 : ellip (a ++ b) a = false := by
    rw [ellip_plain dab]
    refine beq_eq_false_iff_ne.mpr fun e => ?_
    have := congrArg Str.length e
    exact no10 (le3 (c3 _ _ _) (.n 2) (.v 0) (.a (.v 2) (.v 0)) (.v 1) (.v 1) (.v 2) (.n 1) (.n 0) lb (Nat.le_of_eq hab_l.symm) (Nat.le_of_eq this))
  have q11 : ellip a a = true := by rw [ellip_plain da]; exact beq_self_eq_true a
  unfold dotsS askedS
  simp only [List.map_cons, List.map_nil, q1, q2, q3, q4, q5, q6, q7, q8, q9, q10, q11]
  rfl
end

section
noncomputable def nmH (k h : Nat) : Str := letS k ++ hiddenL.getD h ""
noncomputable def txtOf (k h f : Nat) : Str := (txL k (nmH k h)).getD f ""
noncomputable def tolOf (k h f : Nat) : Fn3 := (fnL k (nmH k h)).getD f ("", 0, "")
noncomputable def lineC (k : Nat) (l : List Nat) : Bool := l.contains (97 + k) && (List.range 4).all (fun j => j == k || !l.contains (97 + j)) && !l.contains 46 && decide (2 ≤ l.length) && decide (l.length ≤ 100)
noncomputable def chkT (k h f : Nat) : Bool := decide ((nmH k h).length ≤ 80) && decide ((txtOf k h f).length ≤ 90) && decide ((tolOf k h f).1.length ≤ 1000) && decide ((tolOf k h f).2.2.length ≤ 1000) && decide (0 ≤ (tolOf k h f).2.1) && decide ((tolOf k h f).2.1 < 1000) && fss3 (tolOf k h f) == txtOf k h f && lineC k (txtOf k h f ++ "\n").cps.toList
theorem chkT_all : ∀ k, k < 4 → ∀ h, h < 8 → ∀ f, f < 7 → chkT k h f = true := by decide +kernel
end

section
noncomputable def bad3 (s : List Int) (x y : List Int) : Bool := !(cmpGo (selS s) x y == -1 && cmpGo (selS s) y x == 1)
noncomputable def rkOk (keys : List (List Int)) (s : List Int) : Bool := let line := lineS keys s
  (comesS 4).contains line && (List.range 4).all fun x => (List.range 4).all fun y => bad3 s (keys.getD x []) (keys.getD y []) == !decide (line.idxOf (x : Int) < line.idxOf (y : Int))
theorem rk_0 : ∀ c0 c1 c2 b3 c3 s0 s1 s2 : Bool, rkOk (keysB false c0 false c1 false c2 b3 c3) (sidesB s0 s1 s2) = true := by decide +kernel
theorem rk_1 : ∀ c0 c1 c2 b3 c3 s0 s1 s2 : Bool, rkOk (keysB true c0 false c1 false c2 b3 c3) (sidesB s0 s1 s2) = true := by decide +kernel
theorem rk_2 : ∀ c0 c1 c2 b3 c3 s0 s1 s2 : Bool, rkOk (keysB false c0 true c1 false c2 b3 c3) (sidesB s0 s1 s2) = true := by decide +kernel
theorem rk_3 : ∀ c0 c1 c2 b3 c3 s0 s1 s2 : Bool, rkOk (keysB true c0 true c1 false c2 b3 c3) (sidesB s0 s1 s2) = true := by decide +kernel
theorem rk_4 : ∀ c0 c1 c2 b3 c3 s0 s1 s2 : Bool, rkOk (keysB false c0 false c1 true c2 b3 c3) (sidesB s0 s1 s2) = true := by decide +kernel
theorem rk_5 : ∀ c0 c1 c2 b3 c3 s0 s1 s2 : Bool, rkOk (keysB true c0 false c1 true c2 b3 c3) (sidesB s0 s1 s2) = true := by decide +kernel
theorem rk_6 : ∀ c0 c1 c2 b3 c3 s0 s1 s2 : Bool, rkOk (keysB false c0 true c1 true c2 b3 c3) (sidesB s0 s1 s2) = true := by decide +kernel
theorem rk_7 : ∀ c0 c1 c2 b3 c3 s0 s1 s2 : Bool, rkOk (keysB true c0 true c1 true c2 b3 c3) (sidesB s0 s1 s2) = true := by decide +kernel
theorem rk_all : ∀ b0 c0 b1 c1 b2 c2 b3 c3 s0 s1 s2 : Bool, rkOk (keysB b0 c0 b1 c1 b2 c2 b3 c3) (sidesB s0 s1 s2) = true
  | false, c0, false, c1, false, c2, b3, c3, s0, s1, s2 => rk_0 c0 c1 c2 b3 c3 s0 s1 s2
  | true, c0, false, c1, false, c2, b3, c3, s0, s1, s2 => rk_1 c0 c1 c2 b3 c3 s0 s1 s2
  | false, c0, true, c1, false, c2, b3, c3, s0, s1, s2 => rk_2 c0 c1 c2 b3 c3 s0 s1 s2
  | true, c0, true, c1, false, c2, b3, c3, s0, s1, s2 => rk_3 c0 c1 c2 b3 c3 s0 s1 s2
  | false, c0, false, c1, true, c2, b3, c3, s0, s1, s2 => rk_4 c0 c1 c2 b3 c3 s0 s1 s2
  | true, c0, false, c1, true, c2, b3, c3, s0, s1, s2 => rk_5 c0 c1 c2 b3 c3 s0 s1 s2
  | false, c0, true, c1, true, c2, b3, c3, s0, s1, s2 => rk_6 c0 c1 c2 b3 c3 s0 s1 s2
  | true, c0, true, c1, true, c2, b3, c3, s0, s1, s2 => rk_7 c0 c1 c2 b3 c3 s0 s1 s2
end

section
open StrLaws
noncomputable def escN : List Nat → Nat → Bool → List (Nat × Nat)
  | [], i, true => [(i - 1, 0)]
  | [], _, false => []
  | _ :: r, i, true => (i, 0) :: escN r (i + 1) false
  | c :: r, i, false => if c == 92 then escN r (i + 1) true else (i, c) :: escN r (i + 1) false
noncomputable def kd (s : Str) : Nat := match s.cps.toList with
  | [c] => if c = 92 then 0 else c
  | _ => 0
theorem kd_one (c : Nat) (h : c ≠ 92) : kd ⟨#[c]⟩ = c := by show (if c = 92 then 0 else c) = c; rw [if_neg h]
theorem esc_map : ∀ (l : List Nat) (i : Nat) (b : Bool), (escs l i b).map (fun e => (e.1.toNat, kd e.2)) = escN l i b
  | [], i, true => by
    show [(((i : Int) - 1).toNat, kd ⟨#[92]⟩)] = [(i - 1, 0)]
    rw [show ((i : Int) - 1).toNat = i - 1 by lia]; rfl
  | [], i, false => rfl
  | c :: r, i, true => by
    show (((i : Int)).toNat, 0) :: (escs r (i + 1) false).map _ = (i, 0) :: escN r (i + 1) false
    rw [esc_map r (i + 1) false, Int.toNat_natCast]
  | c :: r, i, false => by
    show (if c = 92 then escs r (i + 1) true else ((i : Int), ⟨#[c]⟩) :: escs r (i + 1) false).map _ = if c == 92 then escN r (i + 1) true else (i, c) :: escN r (i + 1) false
    by_cases h : c = 92
    · rw [if_pos h, if_pos (by simpa using h)]; exact esc_map r (i + 1) true
    · rw [if_neg h, if_neg (by simpa using h)]
      show (((i : Int)).toNat, kd ⟨#[c]⟩) :: (escs r (i + 1) false).map _ = _
      rw [esc_map r (i + 1) false, Int.toNat_natCast, kd_one c h]
/-- what stands in the list: a sign by itself has its place -/
theorem esc_pos : ∀ (l : List Nat) (i : Nat) (b : Bool), ∀ e ∈ escs l i b, (kd e.2 ≠ 0 → e.1 = (e.1.toNat : Nat)) ∧ ∀ c, c ≠ 92 → c ≠ 0 → (e.2 = ⟨#[c]⟩ ↔ kd e.2 = c)
  | [], i, true, e, h => by
    rw [List.mem_singleton.mp h]
    refine ⟨fun q => absurd rfl q, fun c h1 h2 => ⟨fun q => ?_, fun q => absurd q.symm h2⟩⟩
    have : (#[92] : Array Nat) = #[c] := congrArg Str.cps q
    simp at this; exact absurd this.symm h1
  | c :: r, i, true, e, h => by
    rcases List.mem_cons.mp h with rfl | h
    · refine ⟨fun q => absurd rfl q, fun c' h1 h2 => ⟨fun q => ?_, fun q => absurd q.symm h2⟩⟩
      have : (#[92, c] : Array Nat) = #[c'] := congrArg Str.cps q
      simp at this
    · exact esc_pos r (i + 1) false e h
  | c :: r, i, false, e, h => by
    have h : e ∈ (if c = 92 then escs r (i + 1) true else ((i : Int), ⟨#[c]⟩) :: escs r (i + 1) false) := h
    by_cases q : c = 92
    · rw [if_pos q] at h; exact esc_pos r (i + 1) true e h
    · rw [if_neg q] at h
      rcases List.mem_cons.mp h with rfl | h
      · refine ⟨fun _ => by simp, fun c' h1 h2 => ?_⟩
        show (⟨#[c]⟩ : Str) = ⟨#[c']⟩ ↔ kd ⟨#[c]⟩ = c'
        rw [kd_one c q]
        refine ⟨fun e => ?_, fun e => by rw [e]⟩
        have : (#[c] : Array Nat) = #[c'] := congrArg Str.cps e
        simpa using this
      · exact esc_pos r (i + 1) false e h
noncomputable def ckN : List (Nat × Nat) → Nat → Bool
  | [], n => n == 0
  | e :: r, n => if e.2 == 40 then ckN r (n + 1) else if e.2 == 41 then (match n with | 0 => false | m + 1 => ckN r m) else ckN r n
theorem ck_eq : ∀ (es : List (Int × Str)), (∀ e ∈ es, ∀ c, c ≠ 92 → c ≠ 0 → (e.2 = ⟨#[c]⟩ ↔ kd e.2 = c)) → ∀ n : Nat, ckGo es n = ckN (es.map fun e => (e.1.toNat, kd e.2)) n
  | [], _, n => by
    show ((n : Int) == 0) = (n == 0)
    cases n <;> rfl
  | e :: r, h, n => by
    have h1 : (e.2 == ("(" : Str)) = (kd e.2 == 40) := by
      have := h e (by simp) 40 (by decide) (by decide)
      rw [Bool.eq_iff_iff, beq_iff_eq, beq_iff_eq]; exact this
    have h2 : (e.2 == (")" : Str)) = (kd e.2 == 41) := by
      have := h e (by simp) 41 (by decide) (by decide)
      rw [Bool.eq_iff_iff, beq_iff_eq, beq_iff_eq]; exact this
    have ih := ck_eq r fun y hy => h y (.tail _ hy)
    show (if e.2 == ("(" : Str) then ckGo r ((n : Int) + 1) else if e.2 == (")" : Str) then (if (n : Int) - 1 < 0 then false else ckGo r ((n : Int) - 1)) else ckGo r n) = (if kd e.2 == 40 then ckN _ (n + 1) else if kd e.2 == 41 then (match n with | 0 => false | m + 1 => ckN _ m) else ckN _ n)
    rw [h1, h2]
    split
    · exact ih (n + 1)
    · split
      · cases n with
        | zero => rfl
        | succ m =>
          rw [if_neg (by lia), show ((m + 1 : Nat) : Int) - 1 = (m : Nat) by lia]
          exact ih m
      · exact ih n
noncomputable def stepN (l : List Nat) (s : Nat × Option Nat × List Nat) (e : Nat × Nat) : Nat × Option Nat × List Nat :=
  if e.2 == 34 then match s.2.1 with
    | none => (s.1, some e.1, s.2.2)
    | some o => (e.1 + 1, none, if s.1 != o then s.2.2 ++ (l.drop s.1).take (o - s.1) else s.2.2)
  else s
noncomputable def stripN (l : List Nat) : List Nat := if !l.contains 34 then l else
  let s := (escN l 0 false).foldl (stepN l) (0, none, [])
  if s.1 < l.length then s.2.2 ++ l.drop s.1 else s.2.2
noncomputable def checkN (l : List Nat) : Bool := ckN (escN (stripN l) 0 false) 0
theorem clip_nat (n k : Nat) : clipAt n (k : Int) = min k n := by
  unfold clipAt
  rw [if_neg (by lia)]
  rcases Nat.le_total k n with h | h
  · rw [Int.min_eq_left (Int.ofNat_le.mpr h), Int.max_eq_right (Int.natCast_nonneg k), Int.toNat_natCast, Nat.min_eq_left h]
  · rw [Int.min_eq_right (Int.ofNat_le.mpr h), Int.max_eq_right (Int.natCast_nonneg n), Int.toNat_natCast, Nat.min_eq_right h]
theorem cut2_L (x : Str) (s o : Nat) : (cutS x (some (s : Int)) (some (o : Int))).cps.toList = (x.cps.toList.drop s).take (o - s) := by
  show ((x.cps.toList.drop (clipAt x.cps.toList.length s)).take (clipAt x.cps.toList.length o - clipAt x.cps.toList.length s)).toArray.toList = _
  rw [clip_nat, clip_nat, List.toList_toArray]
  generalize x.cps.toList = l
  by_cases h : s ≤ l.length
  · rw [Nat.min_eq_left h]
    by_cases h2 : o ≤ l.length
    · rw [Nat.min_eq_left h2]
    · have h1 : min o l.length = l.length := Nat.min_eq_right (by exact le1 (c2 _ _) (.a (.v 0) (.n 1)) (.v 1) (.v 0) (.v 1) (Nat.lt_of_not_le h2))
      rw [h1, List.take_of_length_le (by simp), List.take_of_length_le (by simp; lia)]
  · have h1 : min s l.length = l.length := Nat.min_eq_right (by exact le1 (c2 _ _) (.a (.v 0) (.n 1)) (.v 1) (.v 0) (.v 1) (Nat.lt_of_not_le h))
    rw [h1, List.drop_of_length_le (Nat.le_refl _), List.drop_of_length_le (by exact le1 (c2 _ _) (.a (.v 0) (.n 1)) (.v 1) (.v 0) (.v 1) (Nat.lt_of_not_le h))]; simp
theorem cutF_L (x : Str) (s : Nat) : (cutS x (some (s : Int)) none).cps.toList = x.cps.toList.drop s := by
  show ((x.cps.toList.drop (clipAt x.cps.toList.length s)).take (x.cps.toList.length - clipAt x.cps.toList.length s)).toArray.toList = _
  rw [clip_nat, List.toList_toArray]
  generalize x.cps.toList = l
  by_cases h : s ≤ l.length
  · rw [Nat.min_eq_left h, List.take_of_length_le (by simp)]
  · have h1 : min s l.length = l.length := Nat.min_eq_right (by exact le1 (c2 _ _) (.a (.v 0) (.n 1)) (.v 1) (.v 0) (.v 1) (Nat.lt_of_not_le h))
    rw [h1, List.drop_of_length_le (Nat.le_refl _), List.drop_of_length_le (by exact le1 (c2 _ _) (.a (.v 0) (.n 1)) (.v 1) (.v 0) (.v 1) (Nat.lt_of_not_le h))]; simp
theorem cutT_L (x : Str) (o : Nat) : (cutS x none (some (o : Int))).cps.toList = x.cps.toList.take o := by
  show ((x.cps.toList.drop 0).take (clipAt x.cps.toList.length o - 0)).toArray.toList = _
  rw [clip_nat, List.toList_toArray, List.drop_zero, Nat.sub_zero]
  generalize x.cps.toList = l
  by_cases h : o ≤ l.length
  · rw [Nat.min_eq_left h]
  · have h1 : min o l.length = l.length := Nat.min_eq_right (by exact le1 (c2 _ _) (.a (.v 0) (.n 1)) (.v 1) (.v 0) (.v 1) (Nat.lt_of_not_le h))
    rw [h1, List.take_of_length_le (Nat.le_refl _), List.take_of_length_le (by exact le1 (c2 _ _) (.a (.v 0) (.n 1)) (.v 1) (.v 0) (.v 1) (Nat.lt_of_not_le h))]
noncomputable def flat (l : List Str) : List Nat := (l.map fun s => s.cps.toList).flatten
theorem flat_snoc (l : List Str) (x : Str) : flat (l ++ [x]) = flat l ++ x.cps.toList := by simp [flat]
theorem join_L (l : List Str) : (Txt.join "" l).cps.toList = flat l := by
  show (Builtin.Str.glued "" _).cps.toList = _
  rw [glued_eq_join]
  unfold flat
  induction l with
  | nil => rfl
  | cons x r ih =>
    cases r with
    | nil => simp [Str.join]
    | cons y r =>
      show (x ++ "" ++ Str.join "" (y :: r)).cps.toList = _
      rw [app_L, app_L, ih]
      show x.cps.toList ++ [] ++ _ = _
      simp
theorem fold_eq (x : Str) : ∀ (es : List (Int × Str)), (∀ e ∈ es, (kd e.2 ≠ 0 → e.1 = (e.1.toNat : Nat)) ∧ ∀ c, c ≠ 92 → c ≠ 0 → (e.2 = ⟨#[c]⟩ ↔ kd e.2 = c)) → ∀ (s : Nat) (o : Option Nat) (acc : List Str),
    ∃ (s' : Nat) (o' : Option Nat) (acc' : List Str), es.foldl (stStep x) ((s : Int), o.map (fun k : Nat => (k : Int)), acc) = ((s' : Int), o'.map (fun k : Nat => (k : Int)), acc') ∧ (es.map fun e => (e.1.toNat, kd e.2)).foldl (stepN x.cps.toList) (s, o, flat acc) = (s', o', flat acc')
  | [], _, s, o, acc => ⟨s, o, acc, rfl, rfl⟩
  | e :: r, h, s, o, acc => by
    obtain ⟨hp, hk⟩ := h e (by simp)
    have h1 : (e.2 == ("\"" : Str)) = (kd e.2 == 34) := by
      have := hk 34 (by decide) (by decide)
      rw [Bool.eq_iff_iff, beq_iff_eq, beq_iff_eq]; exact this
    have ih := fold_eq x r fun y hy => h y (.tail _ hy)
    rw [List.foldl_cons, List.map_cons, List.foldl_cons]
    by_cases q : kd e.2 = 34
    · have hq : (kd e.2 == 34) = true := by simpa using q
      have hp := hp (by rw [q]; decide)
      generalize e.1.toNat = p at hp
      cases o with
      | none =>
        rw [show stStep x ((s : Int), Option.map (fun k : Nat => (k : Int)) none, acc) e = ((s : Int), Option.map (fun k : Nat => (k : Int)) (some p), acc) by unfold stStep; rw [h1, hq, if_pos rfl, hp]; rfl,
          show stepN x.cps.toList (s, none, flat acc) (p, kd e.2) = (s, some p, flat acc) by unfold stepN; rw [hq, if_pos rfl]]
        exact ih s (some p) acc
      | some o =>
        rw [show stStep x ((s : Int), Option.map (fun k : Nat => (k : Int)) (some o), acc) e = (((p + 1 : Nat) : Int), Option.map (fun k : Nat => (k : Int)) none, if (s : Int) != (o : Int) then acc ++ [cutS x (some (s : Int)) (some (o : Int))] else acc) by
            unfold stStep; rw [h1, hq, if_pos rfl, hp]; rfl,
          show stepN x.cps.toList (s, some o, flat acc) (p, kd e.2) = (p + 1, none, flat (if (s : Int) != (o : Int) then acc ++ [cutS x (some (s : Int)) (some (o : Int))] else acc)) by
            unfold stepN
            rw [hq, if_pos rfl]
            by_cases z : s = o
            · subst z
              rw [show ((s : Int) != (s : Int)) = false by simp, if_neg Bool.false_ne_true]
              show (p + 1, none, if (s != s) = true then _ else flat acc) = _
              rw [show (s != s) = false by simp, if_neg Bool.false_ne_true]
            · have z1 : ((s : Int) != (o : Int)) = true := by simp; lia
              have z2 : (s != o) = true := by simpa using z
              rw [z1, if_pos rfl, flat_snoc, cut2_L]
              show (p + 1, none, if (s != o) = true then _ else flat acc) = _
              rw [z2, if_pos rfl]]
        exact ih (p + 1) none _
    · have hq : (kd e.2 == 34) = false := by simpa using q
      rw [show stStep x ((s : Int), Option.map (fun k : Nat => (k : Int)) o, acc) e = ((s : Int), Option.map (fun k : Nat => (k : Int)) o, acc) by unfold stStep; rw [h1, hq, if_neg Bool.false_ne_true],
        show stepN x.cps.toList (s, o, flat acc) (e.1.toNat, kd e.2) = (s, o, flat acc) by unfold stepN; rw [hq, if_neg Bool.false_ne_true]]
      exact ih s o acc
theorem strip_N (x : Str) : (stripS x).cps.toList = stripN x.cps.toList := by
  have hc : Txt.contains x "\"" = x.cps.toList.contains 34 := by
    have := found_one x 34
    show (!(Builtin.Str.occurrences x ⟨#[34]⟩ 0 x.length 1).isEmpty) = _
    rw [this]
    rw [Bool.eq_iff_iff, decide_eq_true_iff, List.contains_iff_mem]
  unfold stripS stripN
  rw [hc]
  split
  · rfl
  · rw [join_L]
    unfold stripL
    obtain ⟨s, o, acc, e1, e2⟩ := fold_eq x (escs x.cps.toList 0 false) (esc_pos x.cps.toList 0 false) 0 none []
    rw [esc_map] at e2
    have e1 : (escs x.cps.toList 0 false).foldl (stStep x) (0, none, []) = ((s : Int), o.map (fun k : Nat => (k : Int)), acc) := e1
    have e2 : (escN x.cps.toList 0 false).foldl (stepN x.cps.toList) (0, none, []) = (s, o, flat acc) := e2
    rw [e1, e2]
    show flat (if (s : Int) < x.length then acc ++ [cutS x (some (s : Int)) none] else acc) = if s < x.cps.toList.length then flat acc ++ x.cps.toList.drop s else flat acc
    have hl := len_L x
    by_cases z : s < x.length
    · rw [if_pos (by lia), if_pos (by exact le2 (c3 _ _ _) (.v 1) (.v 0) (.a (.v 2) (.n 1)) (.v 1) (.a (.v 2) (.n 1)) (.v 0) (Nat.le_of_eq hl.symm) z), flat_snoc, cutF_L]
    · rw [if_neg (by omega), if_neg (by exact fun hh => no10 (le3 (c3 _ _ _) (.v 0) (.v 1) (.v 1) (.v 2) (.a (.v 2) (.n 1)) (.v 0) (.n 1) (.n 0) (Nat.le_of_eq hl) (Nat.le_of_not_lt z) hh))]
theorem check_N (x : Str) : checkS x = checkN x.cps.toList := by
  unfold checkS checkN
  have h := ck_eq (escs (stripS x).cps.toList 0 false) (fun e he => (esc_pos _ 0 false e he).2) 0
  rw [esc_map, strip_N] at h
  rw [strip_N]
  exact h
/-- no bound is met -/
theorem ckok_small {x : Str} (h : x.length ≤ 900) : CkOk x := by
  refine ⟨by exact le1 (c1 _) (.v 0) (.n 900) (.v 0) (.n 1000) h, ?_⟩
  have key : ∀ (es : List (Int × Str)) (st : StS), (∀ p ∈ st.2.2, p.length ≤ x.length) → (es.foldl (stStep x) st).2.2.length ≤ st.2.2.length + es.length ∧ ∀ p ∈ (es.foldl (stStep x) st).2.2, p.length ≤ x.length := by
    intro es
    induction es with
    | nil => intro st hs; exact ⟨by simp, hs⟩
    | cons e r ih =>
      intro st hs
      have h1 : (stStep x st e).2.2.length ≤ st.2.2.length + 1 ∧ ∀ p ∈ (stStep x st e).2.2, p.length ≤ x.length := by
        unfold stStep
        split
        · split
          · exact ⟨Nat.le_succ _, hs⟩
          · dsimp only
            split
            · refine ⟨by simp, fun p hp => ?_⟩
              rcases List.mem_append.mp hp with hp | hp
              · exact hs p hp
              · rw [List.mem_singleton.mp hp]; exact cutS_len _ _ _
            · exact ⟨Nat.le_succ _, hs⟩
        · exact ⟨Nat.le_succ _, hs⟩
      have := ih (stStep x st e) h1.2
      rw [List.foldl_cons, List.length_cons]
      exact ⟨by have := this.1; have := h1.1; omega, this.2⟩
  have hk := key (escs x.cps.toList 0 false) (0, none, []) (by simp)
  have hel := escs_len x.cps.toList 0 false
  rw [len_L] at hel
  unfold stripL stFin
  split
  · refine joinok_small (by rw [List.length_append]; have := hk.1; simp at this ⊢; exact le3 (c3 _ _ _) (.v 0) (.n 900) (.v 1) (.a (.v 0) (.n 1)) (.v 2) (.v 1) (.v 2) (.n 999) h hel this) fun p hp => ?_
    rcases List.mem_append.mp hp with hp | hp
    · have := hk.2 p hp; exact le2 (c2 _ _) (.v 0) (.n 900) (.v 1) (.v 0) (.v 1) (.n 1000) h this
    · rw [List.mem_singleton.mp hp]; have := cutS_len x (some ((escs x.cps.toList 0 false).foldl (stStep x) (0, none, [])).1) none; exact le2 (c2 _ _) (.v 0) (.n 900) (.v 1) (.v 0) (.v 1) (.n 1000) h this
  · exact joinok_small (by have := hk.1; simp at this ⊢; exact le3 (c3 _ _ _) (.v 0) (.n 900) (.v 1) (.a (.v 0) (.n 1)) (.v 2) (.v 1) (.v 2) (.n 1000) h hel this) fun p hp => by have := hk.2 p hp; exact le2 (c2 _ _) (.v 0) (.n 900) (.v 1) (.v 0) (.v 1) (.n 1000) h this
end

section
noncomputable def dyckL : List Str := ["()()()()", "()()(())", "()(())()", "()(()())", "()((()))", "(())()()", "(())(())", "(()())()", "(()()())", "(()(()))", "((()))()", "((())())", "((()()))", "(((())))"]
noncomputable def pieceN (p : Nat) : List Nat × List Nat := match p with
  | 0 => ([], [])
  | 1 => ([34], [])
  | 2 => ([34, 40, 34], [34, 41, 34])
  | 3 => ([34, 92, 34, 41, 34], [92])
  | 4 => ([34, 41, 34], [34])
  | 5 => ([92, 40], [34])
  | 6 => ([92, 92], [34, 40, 34])
  | 7 => ([92, 41], [92])
  | _ => ([92, 34], [92, 92])
noncomputable def hideN (p gap : Nat) (row : List Nat) : List Nat := row.take gap ++ (pieceN p).1 ++ row.drop gap ++ (pieceN p).2
noncomputable def hideOk (p gap : Nat) (r : List Nat) : Bool := checkN (hideN p gap r) && !checkN (hideN p gap (r.take 7)) && !checkN (hideN p gap (r.drop 1)) && !checkN (hideN p gap r.reverse)
noncomputable def dyckN : List (List Nat) := [[40, 41, 40, 41, 40, 41, 40, 41], [40, 41, 40, 41, 40, 40, 41, 41], [40, 41, 40, 40, 41, 41, 40, 41], [40, 41, 40, 40, 41, 40, 41, 41], [40, 41, 40, 40, 40, 41, 41, 41], [40, 40, 41, 41, 40, 41, 40, 41], [40, 40, 41, 41, 40, 40, 41, 41], [40, 40, 41, 40, 41, 41, 40, 41],
  [40, 40, 41, 40, 41, 40, 41, 41], [40, 40, 41, 40, 40, 41, 41, 41], [40, 40, 40, 41, 41, 41, 40, 41], [40, 40, 40, 41, 41, 40, 41, 41], [40, 40, 40, 41, 40, 41, 41, 41], [40, 40, 40, 40, 41, 41, 41, 41]]
theorem dyck_eq : dyckL.map (fun s => s.cps.toList) = dyckN := by decide +kernel
theorem piece_eq : ∀ p, p < 9 → ((hideP.getD p ("", "")).1.cps.toList, (hideP.getD p ("", "")).2.cps.toList) = pieceN p := by decide +kernel
theorem hide_1 : ∀ p, p < 3 → ∀ gap, gap < 9 → checkN (hideN (0 + p) gap []) = true ∧ dyckN.all (hideOk (0 + p) gap) = true := by decide +kernel
theorem hide_2 : ∀ p, p < 3 → ∀ gap, gap < 9 → checkN (hideN (3 + p) gap []) = true ∧ dyckN.all (hideOk (3 + p) gap) = true := by decide +kernel
theorem hide_3 : ∀ p, p < 3 → ∀ gap, gap < 9 → checkN (hideN (6 + p) gap []) = true ∧ dyckN.all (hideOk (6 + p) gap) = true := by decide +kernel
theorem hide_all (p : Nat) (hp : p < 9) (gap : Nat) (hg : gap < 9) : checkN (hideN p gap []) = true ∧ dyckN.all (hideOk p gap) = true := by
  rcases Nat.lt_or_ge p 3 with q | q
  · have h := hide_1 p q gap hg
    rw [Nat.zero_add] at h; exact h
  · rcases Nat.lt_or_ge p 6 with r | r
    · obtain ⟨k, rfl⟩ := Nat.exists_eq_add_of_le q
      exact hide_2 k (Nat.lt_of_add_lt_add_left (n := 3) r) gap hg
    · obtain ⟨k, rfl⟩ := Nat.exists_eq_add_of_le r
      exact hide_3 k (Nat.lt_of_add_lt_add_left (n := 6) hp) gap hg
end

section
noncomputable def badL (line : List Int) (x y : Int) : Bool := !decide (line.idxOf x < line.idxOf y)
noncomputable def wantsI (line w : List Int) : List (List Int) := (List.range' 0 4).flatMap fun j => (List.range' 0 j).flatMap fun i => (if subL [line.getD j 0, line.getD i 0] w then [[line.getD i 0, line.getD j 0]] else []) ++
  (List.range' (j + 1) (3 - j)).flatMap fun k => if subL [line.getD i 0, line.getD k 0, line.getD j 0] w then [[line.getD k 0, line.getD j 0, line.getD i 0]] else []
noncomputable def failI (line w c : List Int) : Bool := (wantsI line w).any fun ws => subL ws c
noncomputable def combOk (line w : List Int) : Bool := ((comesS 4).all fun c => (deedsGo c (badL line) w "" [] 0).isNone == failI line w c) && decide (dueL line w 4 = (((comesS 4).filter fun c => !failI line w c).length : Nat)) && decide (0 < ((comesS 4).filter fun c => !failI line w c).length)
theorem at6 {α : Type} {l : List α} {x : α} (h : x ∈ l) : x ∈ l.take 6 ∨ x ∈ l.drop 6 := by rw [← List.mem_append, List.take_append_drop]; exact h
theorem four6 {α : Type} {l : List α} {P : α → Prop} (h1 : ∀ x ∈ l.take 6, P x) (h2 : ∀ x ∈ (l.drop 6).take 6, P x) (h3 : ∀ x ∈ ((l.drop 6).drop 6).take 6, P x) (h4 : ∀ x ∈ ((l.drop 6).drop 6).drop 6, P x) : ∀ x ∈ l, P x := fun x h =>
  (at6 h).elim (h1 x) fun h => (at6 h).elim (h2 x) fun h => (at6 h).elim (h3 x) (h4 x)
theorem comb_1 : ∀ line ∈ (comesS 4).take 6, ∀ w ∈ comesS 4, combOk line w = true := by decide +kernel
theorem comb_2 : ∀ line ∈ ((comesS 4).drop 6).take 6, ∀ w ∈ comesS 4, combOk line w = true := by decide +kernel
theorem comb_3 : ∀ line ∈ (((comesS 4).drop 6).drop 6).take 6, ∀ w ∈ comesS 4, combOk line w = true := by decide +kernel
theorem comb_4 : ∀ line ∈ (((comesS 4).drop 6).drop 6).drop 6, ∀ w ∈ comesS 4, combOk line w = true := by decide +kernel
theorem comb_all : ∀ line ∈ comesS 4, ∀ w ∈ comesS 4, combOk line w = true := four6 comb_1 comb_2 comb_3 comb_4
noncomputable def rowOk (c w : List Int) : Bool := match deedsGo c (fun _ _ => false) w "" [] 0 with | some dd => dyckL.contains dd | none => false
theorem row_1 : ∀ c ∈ (comesS 4).take 6, ∀ w ∈ comesS 4, rowOk c w = true := by decide +kernel
theorem row_2 : ∀ c ∈ ((comesS 4).drop 6).take 6, ∀ w ∈ comesS 4, rowOk c w = true := by decide +kernel
theorem row_3 : ∀ c ∈ (((comesS 4).drop 6).drop 6).take 6, ∀ w ∈ comesS 4, rowOk c w = true := by decide +kernel
theorem row_4 : ∀ c ∈ (((comesS 4).drop 6).drop 6).drop 6, ∀ w ∈ comesS 4, rowOk c w = true := by decide +kernel
theorem row_all : ∀ c ∈ comesS 4, ∀ w ∈ comesS 4, rowOk c w = true := four6 row_1 row_2 row_3 row_4
end

section
noncomputable def ddup (l : List Int) : List Int := l.foldl (fun acc f => if f ∈ acc then acc else acc ++ [f]) []
theorem ddup_snoc (l : List Int) (f : Int) : ddup (l ++ [f]) = if f ∈ ddup l then ddup l else ddup l ++ [f] := by unfold ddup; rw [List.foldl_append]; rfl
theorem snoc_ind {α : Type} {P : List α → Prop} (h0 : P []) (hs : ∀ l x, P l → P (l ++ [x])) (l : List α) : P l := by
  have key : ∀ r : List α, P r.reverse := by
    intro r
    induction r with
    | nil => exact h0
    | cons x r ih => rw [List.reverse_cons]; exact hs _ _ ih
  have := key l.reverse
  rwa [List.reverse_reverse] at this
theorem mem_ddup (l : List Int) : ∀ x, x ∈ ddup l ↔ x ∈ l := by
  refine snoc_ind (P := fun l => ∀ x, x ∈ ddup l ↔ x ∈ l) (fun x => by simp [ddup]) (fun l f ih x => ?_) l
  rw [ddup_snoc]
  split
  · rename_i h
    rw [ih x, List.mem_append, List.mem_singleton]
    refine ⟨.inl, fun q => ?_⟩
    rcases q with q | rfl
    · exact q
    · exact (ih x).mp h
  · rw [List.mem_append, List.mem_append, ih x]
theorem nodup_ddup (l : List Int) : (ddup l).Nodup := by
  refine snoc_ind (P := fun l => (ddup l).Nodup) (by simp [ddup]) (fun l f ih => ?_) l
  rw [ddup_snoc]
  split
  · exact ih
  · rename_i h
    rw [List.nodup_append]
    refine ⟨ih, by simp, fun a ha b hb => ?_⟩
    rw [List.mem_singleton] at hb
    subst hb
    intro e; subst e; exact h ha
section
variable {T : Int → Str}
noncomputable def Inj4 (T : Int → Str) (l : List Int) : Prop := ∀ x ∈ l, ∀ y ∈ l, T x = T y → x = y
noncomputable def canon (T : Int → Str) (c : Int → Int) (l : List Int) : List (Str × Int) := l.map fun g => (T g, c g)
theorem dget_canon (c : Int → Int) : ∀ (l : List Int) (f : Int), (∀ x ∈ l, T x = T f → x = f) → dget (canon T c l) (T f) = if f ∈ l then some (c f) else none
  | [], f, _ => by simp [dget, canon]
  | g :: r, f, h => by
    have ih := dget_canon c r f fun x hx => h x (.tail _ hx)
    unfold dget canon at ih ⊢
    rw [List.map_cons, List.find?_cons]
    by_cases q : T g = T f
    · have := h g (by simp) q
      subst this
      simp
    · have hne : g ≠ f := fun e => q (by rw [e])
      rw [show (decide ((T g, c g).1 = T f)) = false by simpa using q]
      dsimp only
      rw [ih]
      have : (f ∈ g :: r) ↔ f ∈ r := by rw [List.mem_cons]; exact ⟨fun z => z.resolve_left (fun e => hne e.symm), .inr⟩
      simp only [this]
theorem dput_canon (c : Int → Int) (l : List Int) (f : Int) (v : Int) (h : ∀ x ∈ l, T x = T f → x = f) : dput (canon T c l) (T f) v = if f ∈ l then canon T (fun g => if g = f then v else c g) l else canon T c l ++ [(T f, v)] := by
  unfold dput
  have e1 : (canon T c l).any (fun p => decide (p.1 = T f)) = decide (f ∈ l) := by
    unfold canon
    rw [List.any_map, Bool.eq_iff_iff, List.any_eq_true, decide_eq_true_iff]
    refine ⟨fun ⟨x, hx, e⟩ => ?_, fun hf => ⟨f, hf, by simp⟩⟩
    have := h x hx (by simpa using e)
    rwa [this] at hx
  rw [e1]
  by_cases hf : f ∈ l
  · rw [if_pos (by simpa using hf), if_pos hf]
    unfold canon
    rw [List.map_map]
    refine List.map_congr_left fun g hg => ?_
    show (if (T g, c g).1 = T f then ((T g, c g).1, v) else (T g, c g)) = (T g, if g = f then v else c g)
    by_cases q : g = f
    · rw [if_pos (by rw [q]), if_pos q]
    · rw [if_neg (fun e => q (h g hg e)), if_neg q]
  · rw [if_neg (by simpa using hf), if_neg hf]
theorem dput_new (l : List (Str × Int)) (k : Str) (v : Int) (h : k ∉ l.map (·.1)) : dput l k v = l ++ [(k, v)] := by
  unfold dput
  rw [if_neg]
  intro e
  obtain ⟨p, hp, q⟩ := List.any_eq_true.mp e
  exact h (List.mem_map.mpr ⟨p, hp, by simpa using q⟩)
theorem copy_nodup : ∀ (r t : List (Str × Int)), ((t ++ r).map (·.1)).Nodup → copyD t r = t ++ r
  | [], t, _ => by simp [copyD]
  | p :: r, t, h => by
    unfold copyD
    have hk : p.1 ∉ t.map (·.1) := by
      rw [List.map_append, List.nodup_append] at h
      intro hm
      exact h.2.2 p.1 hm p.1 (by simp) rfl
    rw [dput_new _ _ _ hk, copy_nodup r (t ++ [(p.1, p.2)]) (by simpa using h)]
    simp
theorem canon_keys (c : Int → Int) (l : List Int) : (canon T c l).map (·.1) = l.map T := by unfold canon; rw [List.map_map]; rfl
theorem inj_nodup {l : List Int} (h : Inj4 T l) (hn : l.Nodup) : (l.map T).Nodup := by
  rw [List.nodup_iff_pairwise_ne] at hn ⊢
  rw [List.pairwise_map]
  refine List.Pairwise.imp_of_mem (fun ha hb hne e => hne (h _ ha _ hb e)) hn
end
section
variable {texts : List Str}
noncomputable def tx (texts : List Str) (f : Int) : Str := texts.getD f.toNat ""
theorem dct_canon : ∀ fs : List Int, Inj4 (tx texts) fs → dctS texts fs = canon (tx texts) (fun g => (fs.count g : Nat)) (ddup fs) := by
  refine snoc_ind (P := fun fs => Inj4 (tx texts) fs → dctS texts fs = canon (tx texts) (fun g => (fs.count g : Nat)) (ddup fs)) (fun _ => rfl) (fun l f ih h => ?_)
  have hl : Inj4 (tx texts) l := fun x hx y hy e => h x (by simp [hx]) y (by simp [hy]) e
  have hf : ∀ x ∈ ddup l, tx texts x = tx texts f → x = f := fun x hx e => h x (by simp [(mem_ddup l x).mp hx]) f (by simp) e
  have hd : dctS texts (l ++ [f]) = addC (dctS texts l) [(tx texts f, 1)] := by unfold dctS; rw [List.foldl_append]; rfl
  have hnd : ((canon (tx texts) (fun g => ((l.count g : Nat) : Int)) (ddup l)).map (·.1)).Nodup := by
    rw [canon_keys]
    exact inj_nodup (fun x hx y hy e => hl x ((mem_ddup l x).mp hx) y ((mem_ddup l y).mp hy) e) (nodup_ddup l)
  rw [hd, ih hl]
  unfold addC
  rw [copy_nodup _ [] (by simpa using hnd), List.nil_append]
  show dput (canon (tx texts) (fun g => ((l.count g : Nat) : Int)) (ddup l)) (tx texts f) (match dget (canon (tx texts) (fun g => ((l.count g : Nat) : Int)) (ddup l)) (tx texts f) with | some o => o + 1 | none => 1) = _
  rw [dget_canon _ (ddup l) f hf, dput_canon _ (ddup l) f _ hf, ddup_snoc]
  by_cases hm : f ∈ ddup l
  · simp only [hm, if_true]
    unfold canon
    refine List.map_congr_left fun g hg => ?_
    congr 1
    by_cases q : g = f
    · subst q; simp [List.count_append]
    · have q' : f ≠ g := fun e => q e.symm
      simp [List.count_append, q, q']
  · simp only [hm, if_false]
    have hfl : f ∉ l := fun e => hm ((mem_ddup l f).mpr e)
    unfold canon
    rw [List.map_append]
    congr 1
    · refine List.map_congr_left fun g hg => ?_
      have q : f ≠ g := fun e => hm (by rw [e]; exact hg)
      simp [List.count_append, q]
    · simp [List.count_append, List.count_eq_zero.mpr hfl]
theorem cnt_canon {fs : List Int} (h : Inj4 (tx texts) fs) : cntD texts fs = canon (tx texts) (fun g => (fs.count g : Nat)) (ddup fs) := by
  have key : ∀ l : List Int, (∀ x ∈ l, x ∈ fs) → l.foldl (fun acc k => dput acc (tx texts k) ((fs.count k : Nat) : Int)) [] = canon (tx texts) (fun g => ((fs.count g : Nat) : Int)) (ddup l) := by
    refine snoc_ind (fun _ => rfl) (fun l f ih hl => ?_)
    have hll : ∀ x ∈ l, x ∈ fs := fun x hx => hl x (by simp [hx])
    have hf : ∀ x ∈ ddup l, tx texts x = tx texts f → x = f := fun x hx e => h x (hll x ((mem_ddup l x).mp hx)) f (hl f (by simp)) e
    rw [List.foldl_append, List.foldl_cons, List.foldl_nil, ih hll, dput_canon _ (ddup l) f _ hf, ddup_snoc]
    by_cases hm : f ∈ ddup l
    · rw [if_pos hm, if_pos hm]
      unfold canon
      refine List.map_congr_left fun g hg => ?_
      congr 1
      show (if g = f then ((fs.count f : Nat) : Int) else ((fs.count g : Nat) : Int)) = ((fs.count g : Nat) : Int)
      by_cases q : g = f
      · rw [if_pos q, q]
      · rw [if_neg q]
    · rw [if_neg hm, if_neg hm]
      unfold canon
      rw [List.map_append]; rfl
  exact key fs fun _ h => h
theorem deq_dct {fs : List Int} (h : Inj4 (tx texts) fs) : deq (dctS texts fs) (cntD texts fs) = true := by
  rw [dct_canon fs h, cnt_canon h]
  refine deq_self ?_
  rw [canon_keys]
  exact inj_nodup (fun x hx y hy e => h x ((mem_ddup fs x).mp hx) y ((mem_ddup fs y).mp hy) e) (nodup_ddup fs)
theorem sum_one (f : Int) (c : Int → Int) : ∀ l : List Int, l.Nodup → (l.map fun g => if g = f then c f + 1 else c g).sum = (l.map c).sum + (if f ∈ l then 1 else 0)
  | [], _ => rfl
  | g :: r, h => by
    rw [List.nodup_cons] at h
    have ih := sum_one f c r h.2
    rw [List.map_cons, List.map_cons, List.sum_cons, List.sum_cons, ih]
    by_cases q : g = f
    · subst q
      simp [h.1]; lia
    · have q' : ¬ f = g := fun e => q e.symm
      simp [q, q']; lia
theorem cnt_sum : ∀ fs : List Int, ((ddup fs).map fun g => ((fs.count g : Nat) : Int)).sum = (fs.length : Int) := by
  refine snoc_ind rfl (fun l f ih => ?_)
  rw [ddup_snoc]
  by_cases hm : f ∈ ddup l
  · rw [if_pos hm]
    have h1 := sum_one f (fun g => ((l.count g : Nat) : Int)) (ddup l) (nodup_ddup l)
    rw [if_pos hm] at h1
    have h2 : ((ddup l).map fun g => (((l ++ [f]).count g : Nat) : Int)) = (ddup l).map fun g => if g = f then ((l.count f : Nat) : Int) + 1 else ((l.count g : Nat) : Int) := by
      refine List.map_congr_left fun g hg => ?_
      by_cases q : g = f
      · subst q; simp [List.count_append]
      · have q' : f ≠ g := fun e => q e.symm
        simp [List.count_append, q, q']
    rw [h2, h1, ih]; simp
  · rw [if_neg hm, List.map_append, List.sum_append]
    have hfl : f ∉ l := fun e => hm ((mem_ddup l f).mpr e)
    have h2 : ((ddup l).map fun g => (((l ++ [f]).count g : Nat) : Int)) = (ddup l).map fun g => ((l.count g : Nat) : Int) := by
      refine List.map_congr_left fun g hg => ?_
      have q : f ≠ g := fun e => hm (by rw [e]; exact hg)
      simp [List.count_append, q]
    rw [h2, ih]
    simp [List.count_append, List.count_eq_zero.mpr hfl]
theorem dct_sum {fs : List Int} (h : Inj4 (tx texts) fs) : ((dctS texts fs).map (·.2)).sum = (fs.length : Int) := by
  rw [dct_canon fs h, ← cnt_sum fs]
  unfold canon
  rw [List.map_map]; rfl
end
end

section
theorem texts_at (ds : List Int) : ∃ h f : Nat → Nat, (∀ k, h k < 8) ∧ (∀ k, f k < 7) ∧ nmsS ds = [nmH 0 (h 0), nmH 1 (h 1), nmH 2 (h 2), nmH 3 (h 3)] ∧
    dueS (ds.getD 4 0) 0 (nmsS ds) = [txtOf 0 (h 0) (f 0), txtOf 1 (h 1) (f 1), txtOf 2 (h 2) (f 2), txtOf 3 (h 3) (f 3)] ∧
    toldS (ds.getD 4 0) 0 (nmsS ds) = [tolOf 0 (h 0) (f 0), tolOf 1 (h 1) (f 1), tolOf 2 (h 2) (f 2), tolOf 3 (h 3) (f 3)] := by
  refine ⟨fun k => (ds.getD k 0 / 4 % 8).toNat, fun k => (formOf (ds.getD 4 0) k).toNat, fun k => ?_, fun k => ?_, rfl, rfl, rfl⟩
  · have h0 : 0 ≤ ds.getD k 0 / 4 % 8 := Int.emod_nonneg _ (by decide)
    have h1 : ds.getD k 0 / 4 % 8 < 8 := Int.emod_lt_of_pos _ (by decide)
    show (ds.getD k 0 / 4 % 8).toNat < 8
    lia
  · have h0 : 0 ≤ formOf (ds.getD 4 0) k := Int.emod_nonneg _ (by decide)
    have h1 : formOf (ds.getD 4 0) k < 7 := Int.emod_lt_of_pos _ (by decide)
    show (formOf (ds.getD 4 0) k).toNat < 7
    lia
structure ChkT (k h f : Nat) : Prop where
  a : (nmH k h).length ≤ 80
  b : (txtOf k h f).length ≤ 90
  c : told3 (tolOf k h f)
  d : fss3 (tolOf k h f) = txtOf k h f
  e : lineC k (txtOf k h f ++ "\n").cps.toList = true
theorem chkT_of {k h f : Nat} (hk : k < 4) (hh : h < 8) (hf : f < 7) : ChkT k h f := by
  have q := chkT_all k hk h hh f hf
  unfold chkT at q
  simp only [Bool.and_eq_true, decide_eq_true_iff, beq_iff_eq] at q
  obtain ⟨⟨⟨⟨⟨⟨⟨q1, q2⟩, q3⟩, q4⟩, q5⟩, q6⟩, q7⟩, q8⟩ := q
  exact ⟨q1, q2, ⟨q3, q4, q5, q6⟩, q7, q8⟩
structure LnC (k : Nat) (s : Str) : Prop where
  has : (97 + k) ∈ s.cps.toList
  no : ∀ j, j < 4 → j ≠ k → (97 + j) ∉ s.cps.toList
  dot : dotless s
  two : 2 ≤ s.length
  len : s.length ≤ 100
theorem lnc_of {k : Nat} {s : Str} (h : lineC k s.cps.toList = true) : LnC k s := by
  unfold lineC at h
  simp only [Bool.and_eq_true, decide_eq_true_iff, List.contains_iff_mem, List.all_eq_true, List.mem_range, Bool.or_eq_true, beq_iff_eq, Bool.not_eq_true'] at h
  obtain ⟨⟨⟨⟨h1, h2⟩, h3⟩, h4⟩, h5⟩ := h
  rw [len_L] at h4 h5
  refine ⟨h1, fun j hj hne hm => ?_, fun hm => ?_, h4, h5⟩
  · rcases h2 j hj with q | q
    · exact hne q
    · have : s.cps.toList.contains (97 + j) = true := List.contains_iff_mem.mpr hm
      rw [q] at this; cases this
  · have : s.cps.toList.contains 46 = true := List.contains_iff_mem.mpr hm
    rw [h3] at this; cases this
theorem four {P : Nat → Prop} (h0 : P 0) (h1 : P 1) (h2 : P 2) (h3 : P 3) : ∀ k, k < 4 → P k := fun k hk => by
  rcases k with _ | _ | _ | _ | k
  · exact h0
  · exact h1
  · exact h2
  · exact h3
  · lia
theorem lines_all {texts : List Str} (hl : texts.length = 4) (h : ∀ k, k < 4 → LnC k (texts.getD k "" ++ "\n")) : LineAll (lnsS texts) := by
  have at' : ∀ k, k < 4 → (lnsS texts).getD k "" = texts.getD k "" ++ "\n" := fun k hk => by
    unfold lnsS
    rw [List.getD_eq_getElem?_getD, List.getD_eq_getElem?_getD, List.getElem?_map, List.getElem?_eq_getElem (by exact le2 (c2 _ _) (.n 4) (.v 0) (.a (.v 1) (.n 1)) (.n 4) (.a (.v 1) (.n 1)) (.v 0) (Nat.le_of_eq hl.symm) hk)]; rfl
  have hx : ∀ x : Int, 0 ≤ x ∧ x < 4 → LnC x.toNat (lnA (lnsS texts) x) := fun x hx => by
    unfold lnA
    rw [at' x.toNat (by lia)]
    exact h x.toNat (by omega)
  have hn : (lnsS texts).length = 4 := by unfold lnsS; rw [List.length_map, hl]
  refine { n := hn, len := fun s hs => ?_, has := fun x q => (hx x q).has, nodot := fun x q => (hx x q).dot, two := fun x q => (hx x q).two, apart := fun x y q1 q2 hne => (hx y q2).no x.toNat (by lia) (by lia) }
  obtain ⟨k, hk, e⟩ := List.mem_iff_getElem.mp hs
  have := (h k (by exact le2 (c2 _ _) (.v 0) (.n 4) (.a (.v 1) (.n 1)) (.v 0) (.a (.v 1) (.n 1)) (.n 4) (Nat.le_of_eq hn) hk)).len
  rw [← at' k (by exact le2 (c2 _ _) (.v 0) (.n 4) (.a (.v 1) (.n 1)) (.v 0) (.a (.v 1) (.n 1)) (.n 4) (Nat.le_of_eq hn) hk), List.getD_eq_getElem?_getD, List.getElem?_eq_getElem hk] at this
  rw [← e]; exact this
theorem texts_inj {texts : List Str} (hl : texts.length = 4) (h : LineAll (lnsS texts)) (l : List Int) (h4 : In4 l) : Inj4 (tx texts) l := by
  intro x hx y hy e
  by_cases q : x = y
  · exact q
  · exfalso
    have at' : ∀ z : Int, 0 ≤ z ∧ z < 4 → lnA (lnsS texts) z = tx texts z ++ "\n" := fun z hz => by
      unfold lnA lnsS tx
      rw [List.getD_eq_getElem?_getD, List.getD_eq_getElem?_getD, List.getElem?_map, List.getElem?_eq_getElem (by lia)]; rfl
    have h1 := h.has x (h4 x hx)
    rw [at' x (h4 x hx), e, ← at' y (h4 y hy)] at h1
    exact h.apart x y (h4 x hx) (h4 y hy) q h1
/-- the lists of all four -/
theorem come_ok : ∀ c ∈ comesS 4, c.length = 4 ∧ (∀ x ∈ c, 0 ≤ x ∧ x < 4) ∧ ∀ x ∈ ([0, 1, 2, 3] : List Int), x ∈ c := by decide +kernel
theorem come_perm {c : List Int} (h : c ∈ comesS 4) : PermOk c := ⟨(come_ok c h).1, (come_ok c h).2.1⟩
theorem come_all {c : List Int} (h : c ∈ comesS 4) {x : Int} (hx : 0 ≤ x ∧ x < 4) : x ∈ c := (come_ok c h).2.2 x (by
  have : x = 0 ∨ x = 1 ∨ x = 2 ∨ x = 3 := by lia
  rcases this with rfl | rfl | rfl | rfl <;> decide)
theorem pat2 (front back a b : Str) : p2 front back a b = pat [front, a, b, back] := by unfold p2; apply str_ext; simp only [pat, app_L, List.append_assoc]
theorem pat3 (front back a b c : Str) : p3 front back a b c = pat [front, a, b, c, back] := by unfold p3; apply str_ext; simp only [pat, app_L, List.append_assoc]
theorem flatMap_map' {α β γ : Type} (f : β → γ) (F : α → List γ) (G : α → List β) : ∀ l : List α, (∀ x ∈ l, F x = (G x).map f) → l.flatMap F = (l.flatMap G).map f
  | [], _ => rfl
  | x :: r, h => by
    rw [List.flatMap_cons, List.flatMap_cons, List.map_append, h x (by simp), flatMap_map' f F G r fun y hy => h y (.tail _ hy)]
noncomputable def patI (front back : Str) (lines : List Str) (ws : List Int) : Str := pat (front :: (ws.map (lnA lines) ++ [back]))
theorem wants_I {front back : Str} {lines : List Str} {line w : List Int} (hE : Edge front back) (hl : LineAll lines) (hln : PermOk line) (hw : PermOk w) : wantsS front back (pageS front back lines w) (lnl lines line) = (wantsI line w).map (patI front back lines) := by
  have hin : ∀ i, i < 4 → 0 ≤ line.getD i 0 ∧ line.getD i 0 < 4 := fun i hi => hln.2 _ (getD_mem (by rw [hln.1]; exact hi))
  have e2 : ∀ i j, i < 4 → j < 4 → ellip (p2 front back (lnl lines line i) (lnl lines line j)) (pageS front back lines w) = subL [line.getD i 0, line.getD j 0] w := fun i j hi hj => by
    rw [pat2]
    exact ellip_page hE hl [line.getD i 0, line.getD j 0] w (by
      intro x hx
      rcases List.mem_cons.mp hx with rfl | hx
      · exact hin i hi
      · rw [List.mem_singleton.mp hx]; exact hin j hj) hw.2
  have e3 : ∀ i j k, i < 4 → j < 4 → k < 4 → ellip (p3 front back (lnl lines line i) (lnl lines line j) (lnl lines line k)) (pageS front back lines w) = subL [line.getD i 0, line.getD j 0, line.getD k 0] w := fun i j k hi hj hk => by
    rw [pat3]
    exact ellip_page hE hl [line.getD i 0, line.getD j 0, line.getD k 0] w (by
      intro x hx
      rcases List.mem_cons.mp hx with rfl | hx
      · exact hin i hi
      · rcases List.mem_cons.mp hx with rfl | hx
        · exact hin j hj
        · rw [List.mem_singleton.mp hx]; exact hin k hk) hw.2
  unfold wantsS wantsI
  refine flatMap_map' _ _ _ _ fun j hj => ?_
  have hj : j < 4 := by have := List.mem_range'_1.mp hj; exact le1 (c1 _) (.a (.v 0) (.n 1)) (.a (.n 0) (.n 4)) (.a (.v 0) (.n 1)) (.n 4) this.2
  unfold wJ
  refine flatMap_map' _ _ _ _ fun i hi => ?_
  have hi : i < 4 := by have := List.mem_range'_1.mp hi; exact le2 (c2 _ _) (.a (.v 0) (.n 1)) (.n 4) (.a (.v 1) (.n 1)) (.a (.n 0) (.v 0)) (.a (.v 1) (.n 1)) (.n 4) hj this.2
  unfold wI
  rw [List.map_append, e2 j i hj hi]
  congr 1
  · split
    · rw [pat2]; rfl
    · rfl
  · refine flatMap_map' _ _ _ _ fun k hk => ?_
    have hk : k < 4 := by have := List.mem_range'_1.mp hk; omega
    unfold wK
    rw [e3 i k j hi hk hj]
    split
    · rw [pat3]; rfl
    · rfl
theorem subs_in {line : List Int} (hln : PermOk line) (w : List Int) : ∀ ws ∈ wantsI line w, In4 ws ∧ ws.length ≤ 3 := by
  have hin : ∀ i, i < 4 → 0 ≤ line.getD i 0 ∧ line.getD i 0 < 4 := fun i hi => hln.2 _ (getD_mem (by rw [hln.1]; exact hi))
  intro ws h
  unfold wantsI at h
  obtain ⟨j, hj, h⟩ := List.mem_flatMap.mp h
  obtain ⟨i, hi, h⟩ := List.mem_flatMap.mp h
  have hj : j < 4 := by have := List.mem_range'_1.mp hj; exact le1 (c1 _) (.a (.v 0) (.n 1)) (.a (.n 0) (.n 4)) (.a (.v 0) (.n 1)) (.n 4) this.2
  have hi : i < 4 := by have := List.mem_range'_1.mp hi; exact le2 (c2 _ _) (.a (.v 0) (.n 1)) (.n 4) (.a (.v 1) (.n 1)) (.a (.n 0) (.v 0)) (.a (.v 1) (.n 1)) (.n 4) hj this.2
  rcases List.mem_append.mp h with h | h
  · split at h
    · rw [List.mem_singleton.mp h]
      refine ⟨fun x hx => ?_, by simp⟩
      rcases List.mem_cons.mp hx with rfl | hx
      · exact hin i hi
      · rw [List.mem_singleton.mp hx]; exact hin j hj
    · cases h
  · obtain ⟨k, hk, h⟩ := List.mem_flatMap.mp h
    have hk : k < 4 := by have := List.mem_range'_1.mp hk; omega
    split at h
    · rw [List.mem_singleton.mp h]
      refine ⟨fun x hx => ?_, by simp⟩
      rcases List.mem_cons.mp hx with rfl | hx
      · exact hin k hk
      · rcases List.mem_cons.mp hx with rfl | hx
        · exact hin j hj
        · rw [List.mem_singleton.mp hx]; exact hin i hi
    · cases h
theorem stands_I {front back : Str} {lines : List Str} {line w c : List Int} (hE : Edge front back) (hl : LineAll lines) (hln : PermOk line) (hw : PermOk w) (hc : PermOk c) :
    standsS (wantsS front back (pageS front back lines w) (lnl lines line)) (pageS front back lines c) = failI line w c := by
  rw [wants_I hE hl hln hw]
  unfold standsS failI
  rw [List.any_map]
  have key : ∀ l : List (List Int), (∀ ws ∈ l, In4 ws) → l.any ((fun x => ellip x (pageS front back lines c)) ∘ patI front back lines) = l.any fun ws => subL ws c := by
    intro l
    induction l with
    | nil => intro _; rfl
    | cons ws r ih =>
      intro h
      rw [List.any_cons, List.any_cons, ih fun y hy => h y (.tail _ hy)]
      congr 1
      exact ellip_page hE hl ws c (h ws (by simp)) hc.2
  exact key _ fun ws h => (subs_in hln w ws h).1
theorem wants_len {front back : Str} {lines : List Str} {line w : List Int} (hE : Edge front back) (hl : LineAll lines) (hln : PermOk line) (hw : PermOk w) : ∀ x ∈ wantsS front back (pageS front back lines w) (lnl lines line), x.length ≤ 900 := by
  rw [wants_I hE hl hln hw]
  intro x hx
  obtain ⟨ws, h, rfl⟩ := List.mem_map.mp hx
  obtain ⟨h4, h3⟩ := subs_in hln w ws h
  have hlen : ∀ y ∈ ws, (lnA lines y).length ≤ 100 := fun y hy => (hl.toLnOk.at (h4 y hy)).2
  obtain ⟨e1, e2⟩ := hE.len
  have h3d : (Str.ofString "...").length = 3 := rfl
  unfold patI
  match ws, h3, hlen with
  | [], _, _ => simp only [List.map_nil, List.nil_append, pat, Str.length_append]; exact le3 (c3 _ _ _) (.v 0) (.n 4) (.v 1) (.n 4) (.v 2) (.n 3) (.a (.a (.v 0) (.v 2)) (.v 1)) (.n 900) e1 e2 (Nat.le_of_eq h3d)
  | [a], _, hlen =>
    have := hlen a (by simp)
    simp only [List.map_cons, List.map_nil, List.cons_append, List.nil_append, pat, Str.length_append]; exact le4 (c4 _ _ _ _) (.v 0) (.n 4) (.v 1) (.n 4) (.m 2 (.v 2)) (.m 2 (.n 3)) (.v 3) (.n 100) (.a (.a (.v 0) (.v 2)) (.a (.a (.v 3) (.v 2)) (.v 1))) (.n 900) e1 e2 (Nat.mul_le_mul_left 2 (Nat.le_of_eq h3d)) this
  | [a, b], _, hlen =>
    have := hlen a (by simp)
    have := hlen b (by simp)
    simp only [List.map_cons, List.map_nil, List.cons_append, List.nil_append, pat, Str.length_append]; exact le5 (c5 _ _ _ _ _) (.v 0) (.n 4) (.v 1) (.n 4) (.m 3 (.v 2)) (.m 3 (.n 3)) (.v 3) (.n 100) (.v 4) (.n 100) (.a (.a (.v 0) (.v 2)) (.a (.a (.v 3) (.v 2)) (.a (.a (.v 4) (.v 2)) (.v 1)))) (.n 900) e1 e2 (Nat.mul_le_mul_left 3 (Nat.le_of_eq h3d)) (by assumption) this
  | [a, b, c], _, hlen =>
    have := hlen a (by simp)
    have := hlen b (by simp)
    have := hlen c (by simp)
    simp only [List.map_cons, List.map_nil, List.cons_append, List.nil_append, pat, Str.length_append]; lia
end

section
-- order
theorem cmp_vals {sel : List (Int × Int)} (hs : ∀ p ∈ sel, p.2.natAbs ≤ 1) (x y : List Int) : cmpGo sel x y = -1 ∨ cmpGo sel x y = 0 ∨ cmpGo sel x y = 1 := by
  have := cmpGo_small hs x y
  lia
theorem lst_eq {sel : List (Int × Int)} (hs : ∀ p ∈ sel, p.2.natAbs ≤ 1) (x y : List Int) : lstOfCmp sel x y = !(cmpGo sel x y == -1 && cmpGo sel y x == 1) := by
  unfold lstOfCmp
  rcases cmp_vals hs x y with q | q | q <;> rcases cmp_vals hs y x with q' | q' | q' <;> rw [q, q'] <;> decide
theorem sel_small (s0 s1 s2 : Bool) : (∀ p ∈ selS (sidesB s0 s1 s2), 0 ≤ p.1 ∧ p.1 < 3) ∧ ∀ p ∈ selS (sidesB s0 s1 s2), p.2.natAbs ≤ 1 := by
  cases s0 <;> cases s1 <;> cases s2 <;> exact ⟨by decide, by decide⟩
theorem order_ok (b0 c0 b1 c1 b2 c2 b3 c3 s0 s1 s2 : Bool) : lineS (keysB b0 c0 b1 c1 b2 c2 b3 c3) (sidesB s0 s1 s2) ∈ comesS 4 ∧
    ∀ x y : Int, 0 ≤ x ∧ x < 4 → 0 ≤ y ∧ y < 4 → badOf (selS (sidesB s0 s1 s2)) (keysB b0 c0 b1 c1 b2 c2 b3 c3) x y = badL (lineS (keysB b0 c0 b1 c1 b2 c2 b3 c3) (sidesB s0 s1 s2)) x y := by
  have h := rk_all b0 c0 b1 c1 b2 c2 b3 c3 s0 s1 s2
  have hs := (sel_small s0 s1 s2).2
  revert h hs
  generalize keysB b0 c0 b1 c1 b2 c2 b3 c3 = keys
  generalize sidesB s0 s1 s2 = sides
  intro h hs
  unfold rkOk at h
  simp only [Bool.and_eq_true, List.all_eq_true, List.mem_range, beq_iff_eq] at h
  refine ⟨by simpa using h.1, fun x y hx hy => ?_⟩
  have q := h.2 x.toNat (by lia) y.toNat (by lia)
  unfold badOf badL
  rw [lst_eq hs]
  rw [show ((x.toNat : Nat) : Int) = x by lia, show ((y.toNat : Nat) : Int) = y by lia] at q
  exact q
-- deeds
theorem deeds_congr {coming : List Int} {bad bad' : Int → Int → Bool} : ∀ (w : List Int) (dd : Str) (ins : List Int) (dn : Int), (∀ a ∈ w, ∀ b, b ∈ coming ∨ b ∈ ins → bad a b = bad' a b) → deedsGo coming bad w dd ins dn = deedsGo coming bad' w dd ins dn
  | [], _, _, _, _ => rfl
  | one :: r, dd, ins, dn, h => by
    have hin : ∀ b ∈ insOf coming ins dn (untilOf coming dn one) one, b ∈ coming ∨ b ∈ ins := fun b hb => by
      unfold insOf at hb
      rcases List.mem_append.mp (List.mem_filter.mp hb).1 with hb | hb
      · exact .inr hb
      · unfold cutL at hb; exact .inl (List.mem_of_mem_drop (List.mem_of_mem_take hb))
    unfold deedsGo
    dsimp only
    rw [List.filter_congr (fun b hb => h one (by simp) b (hin b hb))]
    split
    · rfl
    · exact deeds_congr r _ _ _ fun a ha b hb => h a (.tail _ ha) b (hb.elim .inl fun q => hin b q)
theorem deeds_free {coming : List Int} {bad : Int → Int → Bool} {d : Str} : ∀ (w : List Int) (dd : Str) (ins : List Int) (dn : Int), deedsGo coming bad w dd ins dn = some d → deedsGo coming (fun _ _ => false) w dd ins dn = some d
  | [], _, _, _, h => h
  | one :: r, dd, ins, dn, h => by
    unfold deedsGo at h ⊢
    dsimp only at h ⊢
    split at h
    · cases h
    · have e : (insOf coming ins dn (untilOf coming dn one) one).filter (fun _ => false) = [] := by simp
      rw [e, if_neg (by decide)]
      exact deeds_free r _ _ _ h
theorem row_of {c w : List Int} {bad : Int → Int → Bool} {d : Str} (hc : c ∈ comesS 4) (hw : w ∈ comesS 4) (h : deedsGo c bad w "" [] 0 = some d) : d ∈ dyckL := by
  have q := row_all c hc w hw
  unfold rowOk at q
  rw [deeds_free w _ _ _ h] at q
  exact List.contains_iff_mem.mp q
-- what the comings leave
theorem jfold (D : List Int → Option Str) : ∀ (l : List (List Int)) (st : List Str × List Int), (l.foldl (jStep D) st).2 = st.2 ++ ((l.filter fun c => (D c).isSome).map fun c => c.getD 0 0) ∧
    (∀ r ∈ (l.foldl (jStep D) st).1, r ∈ st.1 ∨ ∃ c ∈ l, D c = some r) ∧ (0 < st.1.length ∨ 0 < (l.filter fun c => (D c).isSome).length → 0 < (l.foldl (jStep D) st).1.length)
  | [], st => ⟨by simp, fun r h => .inl h, fun h => by simpa using h⟩
  | c :: l, st => by
    obtain ⟨h1, h2, h3⟩ := jfold D l (jStep D st c)
    rw [List.foldl_cons]
    unfold jStep at h1 h2 h3 ⊢
    cases hd : D c with
    | none =>
      rw [hd] at h1 h2 h3
      have e : ((c :: l).filter fun c => (D c).isSome) = l.filter fun c => (D c).isSome := by rw [List.filter_cons, hd]; rfl
      rw [e]
      exact ⟨h1, fun r hr => (h2 r hr).imp id fun ⟨c', q, z⟩ => ⟨c', .tail _ q, z⟩, h3⟩
    | some d =>
      rw [hd] at h1 h2 h3
      have e : ((c :: l).filter fun c => (D c).isSome) = c :: l.filter fun c => (D c).isSome := by rw [List.filter_cons, hd]; rfl
      rw [e]
      have hlen : 0 < (rowsAdd st.1 d).length := by
        unfold rowsAdd
        split
        · simp
        · rename_i q
          have q : st.1.contains d = true := by simpa using q
          exact List.length_pos_of_mem (List.contains_iff_mem.mp q)
      refine ⟨by rw [h1]; simp [jOut], fun r hr => ?_, fun _ => h3 (.inl hlen)⟩
      rcases h2 r hr with q | ⟨c', q, z⟩
      · have q : r ∈ rowsAdd st.1 d := q
        unfold rowsAdd at q
        split at q
        · rcases List.mem_append.mp q with q | q
          · exact .inl q
          · exact .inr ⟨c, by simp, by rw [hd, List.mem_singleton.mp q]⟩
        · exact .inl q
      · exact .inr ⟨c', .tail _ q, z⟩
-- the check
noncomputable def Rr (row : Str) (b : Bool) : Prop := ∀ (nb : Int) (k : Nat), checkS (hide1 nb k row) = b
theorem hide_L (nb : Int) (k : Nat) (row : Str) : ∃ p gap, p < 9 ∧ gap < 9 ∧ (hide1 nb k row).cps.toList = hideN p gap row.cps.toList := by
  have h0 : 0 ≤ (nb + k) % 9 := Int.emod_nonneg _ (by decide)
  have h1 : (nb + k) % 9 < 9 := Int.emod_lt_of_pos _ (by decide)
  have h2 : 0 ≤ (nb / 9 + k) % 9 := Int.emod_nonneg _ (by decide)
  have h3 : (nb / 9 + k) % 9 < 9 := Int.emod_lt_of_pos _ (by decide)
  refine ⟨((nb + k) % 9).toNat, ((nb / 9 + k) % 9).toNat, by lia, by lia, ?_⟩
  have hp := piece_eq ((nb + k) % 9).toNat (by omega)
  unfold hide1 hideN
  rw [← hp]
  obtain ⟨gp, hg⟩ : ∃ gp : Nat, (nb / 9 + k) % 9 = gp := ⟨_, (Int.toNat_of_nonneg h2).symm⟩
  rw [hg, Int.toNat_natCast]
  dsimp only
  rw [app_L, app_L, app_L, cutT_L, cutF_L]
theorem rr_of {row : Str} {b : Bool} (h : ∀ p gap, p < 9 → gap < 9 → checkN (hideN p gap row.cps.toList) = b) : Rr row b := fun nb k => by
  obtain ⟨p, gap, hp, hg, e⟩ := hide_L nb k row
  rw [check_N, e]
  exact h p gap hp hg
theorem hok {p gap : Nat} {r : List Nat} (h : hideOk p gap r = true) : checkN (hideN p gap r) = true ∧ checkN (hideN p gap (r.take 7)) = false ∧ checkN (hideN p gap (r.drop 1)) = false ∧ checkN (hideN p gap r.reverse) = false := by
  unfold hideOk at h
  simp only [Bool.and_eq_true, Bool.not_eq_true'] at h
  exact ⟨h.1.1.1, h.1.1.2, h.1.2, h.2⟩
theorem dyck_len : ∀ r ∈ dyckL, r.length = 8 := by decide +kernel
theorem rr_rows {r : Str} (hr : r ∈ dyckL) : Rr r true ∧ Rr (cutS r none (some (-1))) false ∧ Rr (cutS r (some 1) none) false ∧ Rr (revS r) false := by
  have hm : r.cps.toList ∈ dyckN := by rw [← dyck_eq]; exact List.mem_map.mpr ⟨r, hr, rfl⟩
  have hlen := dyck_len r hr
  have hl := len_L r
  have q : ∀ p gap, p < 9 → gap < 9 → hideOk p gap r.cps.toList = true := fun p gap hp hg => List.all_eq_true.mp (hide_all p hp gap hg).2 _ hm
  have e1 : (cutS r none (some (-1))).cps.toList = r.cps.toList.take 7 := by
    show ((r.cps.toList.drop 0).take (clipAt r.cps.toList.length (-1) - 0)).toArray.toList = _
    rw [show clipAt r.cps.toList.length (-1) = 7 by rw [hl, hlen]; rfl, List.toList_toArray]; rfl
  have e2 : (cutS r (some 1) none).cps.toList = r.cps.toList.drop 1 := cut1_L r (by exact le1 (c1 _) (.n 8) (.v 0) (.n 2) (.v 0) (Nat.le_of_eq hlen.symm))
  have e3 : (revS r).cps.toList = r.cps.toList.reverse := by unfold revS; rw [List.toList_toArray]
  refine ⟨rr_of fun p gap hp hg => (hok (q p gap hp hg)).1, rr_of fun p gap hp hg => ?_, rr_of fun p gap hp hg => ?_, rr_of fun p gap hp hg => ?_⟩
  · rw [e1]; exact (hok (q p gap hp hg)).2.1
  · rw [e2]; exact (hok (q p gap hp hg)).2.2.1
  · rw [e3]; exact (hok (q p gap hp hg)).2.2.2
theorem rr_empty : Rr "" true := rr_of fun p gap hp hg => (hide_all p hp gap hg).1
inductive All2 : List Str → List Bool → Prop
  | nil : All2 [] []
  | cons {r b l g} : Rr r b → All2 l g → All2 (r :: l) (b :: g)
theorem All2.append : ∀ {l g l' g'}, All2 l g → All2 l' g' → All2 (l ++ l') (g ++ g')
  | _, _, _, _, .nil, h => h
  | _, _, _, _, .cons a r, h => .cons a (r.append h)
theorem all2_rep : ∀ (l : List Str), (∀ r ∈ l, Rr r true) → All2 l (List.replicate l.length true)
  | [], _ => .nil
  | r :: l, h => by
    rw [List.length_cons, List.replicate_succ]
    exact .cons (h r (by simp)) (all2_rep l fun y hy => h y (.tail _ hy))
theorem kept_eq (nb : Int) : ∀ (l : List Str) (g : List Bool) (k : Nat), All2 l g → preS (hideS nb k l) = keptS (hideS nb k l) g
  | _, _, _, .nil => rfl
  | r :: l, b :: g, k, .cons h t => by
    have ih := kept_eq nb l g (k + 1) t
    show (if checkS (hide1 nb k r) then hide1 nb k r else badT) :: preS (hideS nb (k + 1) l) = (if b then hide1 nb k r else badT) :: keptS (hideS nb (k + 1) l) g
    rw [ih, h nb k]
theorem hide_ck (nb : Int) : ∀ (l : List Str) (k : Nat), (∀ r ∈ l, r.length ≤ 80) → ∀ x ∈ hideS nb k l, CkOk x
  | [], _, _, x, hx => by cases hx
  | r :: l, k, h, x, hx => by
    have hx : x ∈ hide1 nb k r :: hideS nb (k + 1) l := hx
    rcases List.mem_cons.mp hx with rfl | hx
    · refine ckok_small ?_
      obtain ⟨p, gap, hp, hg, e⟩ := hide_L nb k r
      rw [← len_L, e]
      have hpl : ∀ p, (pieceN p).1.length ≤ 5 ∧ (pieceN p).2.length ≤ 3 := fun p => by unfold pieceN; split <;> decide
      have h1 := hpl p
      have h2 := h r (by simp)
      have h3 := len_L r
      unfold hideN
      simp only [List.length_append, List.length_take, List.length_drop]
      omega
    · exact hide_ck nb l (k + 1) (fun y hy => h y (.tail _ hy)) x hx
theorem bare_all2 {rows : List Str} (h0 : 0 < rows.length) (hr : ∀ r ∈ rows, r ∈ dyckL) : All2 (bareS rows) (goodS rows.length) := by
  have r0 := rr_rows (hr _ (getD_mem (l := rows) (i := 0) (a := "") h0))
  have rl := rr_rows (hr _ (getD_mem (l := rows) (i := rows.length - 1) (a := "") (by omega)))
  unfold bareS goodS
  exact ((All2.cons r0.2.1 .nil).append (all2_rep rows fun r h => (rr_rows (hr r h)).1)).append (.cons rl.2.2.1 (.cons r0.1 (.cons rl.2.2.2 (.cons rr_empty .nil))))
theorem bare_len {rows : List Str} (h0 : 0 < rows.length) (hr : ∀ r ∈ rows, r.length ≤ 20) : ∀ x ∈ bareS rows, x.length ≤ 80 := by
  intro x hx
  have hR0 := hr _ (getD_mem (l := rows) (i := 0) (a := "") h0)
  have hRl := hr _ (getD_mem (l := rows) (i := rows.length - 1) (a := "") (by omega))
  unfold bareS at hx
  simp only [List.mem_append, List.mem_cons, List.not_mem_nil, or_false] at hx
  have hc1 := cutS_len (rows.getD 0 "") none (some (-1))
  have hc2 := cutS_len (rows.getD (rows.length - 1) "") (some 1) none
  have hc3 := slrev_len (rows.getD (rows.length - 1) "")
  rcases hx with (rfl | hx) | rfl | rfl | rfl | rfl
  · exact le2 (c2 _ _) (.v 0) (.n 20) (.v 1) (.v 0) (.v 1) (.n 80) hR0 hc1
  · have := hr x hx; exact le1 (c1 _) (.v 0) (.n 20) (.v 0) (.n 80) this
  · exact le2 (c2 _ _) (.v 0) (.n 20) (.v 1) (.v 0) (.v 1) (.n 80) hRl hc2
  · exact le1 (c1 _) (.v 0) (.n 20) (.v 0) (.n 80) hR0
  · exact le2 (c2 _ _) (.v 0) (.n 20) (.v 1) (.v 0) (.v 1) (.n 80) hRl (Nat.le_of_eq hc3)
  · decide
end

section
open W in
theorem kleaf4n : kleaf (fun p => decide (p.toList.length = 4)) (kas_sort 4) = true := by decide +kernel
theorem sortOrd_n (l : List (List Int)) : (sortOrd l).length ≤ 1000 := by
  have h := kleaf_run (lt := fun i j => ltT (l.getD i []) (l.getD j [])) _ kleaf4n
  have h : (sortOrd l).length = 4 := by simpa [sortOrd] using h
  exact le1 (c1 _) (.v 0) (.n 4) (.v 0) (.n 1000) (Nat.le_of_eq h)
theorem keys_ok (b0 c0 b1 c1 b2 c2 b3 c3 : Bool) : (keysB b0 c0 b1 c1 b2 c2 b3 c3).length = 4 ∧ ∀ x ∈ keysB b0 c0 b1 c1 b2 c2 b3 c3, x.length = 3 := by
  refine ⟨rfl, fun x hx => ?_⟩
  unfold keysB at hx
  simp only [List.mem_cons, List.not_mem_nil, or_false] at hx
  rcases hx with rfl | rfl | rfl | rfl <;> rfl
section
variable {g : Gd} {d : Nat} {nm qn : Str} {doc pm cd : Value} {L : Addr}
/-- from the pages on -/
theorem law_rest {front back : Str} {texts : List Str} {ds line w : List Int} {keys : List (List Int)} {sel : List (Int × Int)} (lb : Lb g) (lc : Lc g) (hd : ds.length = 6) (hE : Edge front back) (htn : texts.length = 4) (hLA : LineAll (lnsS texts)) (hw : w ∈ comesS 4) (hline : line ∈ comesS 4)
    (hbad : ∀ x y : Int, 0 ≤ x ∧ x < 4 → 0 ≤ y ∧ y < 4 → badOf sel keys x y = badL line x y) (hs1 : ∀ p ∈ sel, 0 ≤ p.1 ∧ p.1 < 3) (hs2 : ∀ p ∈ sel, p.2.natAbs ≤ 1) (hk4 : keys.length = 4) (hk3 : ∀ x ∈ keys, x.length = 3) :
    X g (d + 8) (lawE nm qn doc pm cd L) [("order", .val (.inst 73 (.list (sel.map selV)))), ("line", .val (intsV line)), ("keys", .val (.list (keys.map tupV))),
      ("wanted", .val (intsV w)), ("comings", .val (.list ((comesS 4).map intsV))), ("front", .val (.str front)), ("back", .val (.str back)), ("lines", .val (.list ((lnsS texts).map V.str))), ("texts", .val (.list (texts.map V.str))), ("draws", .val (.list (ds.map V.int)))] (lawD 17) (retK fun v => v = .bool true) := by
  obtain ⟨hf, hb⟩ := hE.len
  have hwp := come_perm hw
  have hlp := come_perm hline
  have hcb := comb_all line hline w hw
  unfold combOk at hcb
  simp only [Bool.and_eq_true, decide_eq_true_iff, List.all_eq_true, beq_iff_eq] at hcb
  obtain ⟨⟨hc1, hc2⟩, hc3⟩ := hcb
  have hdeeds : ∀ c, c ∈ comesS 4 → deedsS sel keys c w = deedsGo c (badL line) w "" [] 0 := fun c hc => by
    unfold deedsS
    refine deeds_congr w "" [] 0 fun a ha b hb => hbad a b (hwp.2 a ha) ?_
    rcases hb with hb | hb
    · exact (come_perm hc).2 b hb
    · cases hb
  have hsome : ∀ c, c ∈ comesS 4 → (deedsS sel keys c w).isSome = !failI line w c := fun c hc => by
    have := hc1 c hc
    rw [hdeeds c hc, ← this]
    cases deedsGo c (badL line) w "" [] 0 <;> rfl
  refine segH lb hf hb hLA.toLnOk hwp ?_
  have hpl := (page_len (front := front) (back := back) hf hb hLA.toLnOk hwp).2.1
  refine segI (front := front) (back := back) (page := pageS front back (lnsS texts) w) (lines := lnsS texts) (line := line) (ov := .inst 73 (.list (sel.map selV))) (kv := .list (keys.map tupV)) (wv := intsV w) (cv := .list ((comesS 4).map intsV)) (tv := .list (texts.map V.str)) (dv := .list (ds.map V.int)) lb hf hb hpl hLA.toLnOk hlp ?_
  refine x_weak (σ' := bJ front back (lnsS texts) (wantsS front back (pageS front back (lnsS texts) w) (lnl (lnsS texts) line)) texts ds sel keys w (comesS 4) (intsV line)) ?_ ?_
  · generalize wantsS front back (pageS front back (lnsS texts) w) (lnl (lnsS texts) line) = ws
    generalize pageS front back (lnsS texts) w = pg
    generalize comesS 4 = cs
    (repeat (refine sub_cons (by rfl) ?_)); exact sub_nil
  refine segJ lb lc hf hb hLA.toLnOk hd htn hs1 hs2 hk3 hk4 hwp (fun c hc => ⟨come_perm hc, fun x hx => come_all hc (hwp.2 x hx)⟩) (by decide) (wants_len hE hLA hlp hwp) (fun c hc => ?_) fun rows fs hfold hfl hrl => ?_
  · rw [stands_I hE hLA hlp hwp (come_perm hc), hdeeds c hc]
    exact (hc1 c hc).symm
  obtain ⟨j1, j2, j3⟩ := jfold (fun c => deedsS sel keys c w) (comesS 4) ([], [])
  rw [hfold] at j1 j2 j3
  have hfilt : ((comesS 4).filter fun c => (deedsS sel keys c w).isSome) = (comesS 4).filter fun c => !failI line w c := List.filter_congr fun c hc => hsome c hc
  rw [hfilt] at j1 j3
  have j1 : fs = ((comesS 4).filter fun c => !failI line w c).map fun c => c.getD 0 0 := by simpa using j1
  have hfn : fs.length = ((comesS 4).filter fun c => !failI line w c).length := by rw [j1, List.length_map]
  have hf4 : ∀ f ∈ fs, 0 ≤ f ∧ f < 4 := fun f hf => by
    rw [j1] at hf
    obtain ⟨c, hc, rfl⟩ := List.mem_map.mp hf
    have hcp := come_perm (List.mem_filter.mp hc).1
    exact hcp.2 _ (getD_mem (by have := hcp.1; exact le1 (c1 _) (.n 4) (.v 0) (.a (.n 0) (.n 1)) (.v 0) (Nat.le_of_eq this.symm)))
  have hr0 : 0 < rows.length := j3 (.inr hc3)
  have hrd : ∀ r ∈ rows, r ∈ dyckL := fun r hr => by
    rcases j2 r hr with q | ⟨c, hc, q⟩
    · cases q
    · rw [hdeeds c hc] at q
      exact row_of hc hw q
  have hr20 : ∀ r ∈ rows, r.length ≤ 20 := fun r hr => by have := dyck_len r (hrd r hr); exact le1 (c1 _) (.v 0) (.n 8) (.v 0) (.n 20) (Nat.le_of_eq this)
  refine segK lb hd htn hlp hwp (fun x hx => come_all hline (hwp.2 x hx)) hfl hf4 (by rw [hc2, hfn]) (fun i hi => ?_) (deq_dct (texts_inj htn hLA fs hf4)) ?_
  · rw [dct_sum (texts_inj htn hLA _ fun f hf => hf4 f (List.mem_of_mem_take hf)), List.length_take, Nat.min_eq_left hi]
  exact segL lb hd hr0 hrl hr20 (hide_ck _ _ _ (bare_len hr0 hr20)) (kept_eq _ _ _ _ (bare_all2 hr0 hrd))
theorem law_main {a : Addr} {xs : List Value} {ns : List Int} (lb : Lb g) (lc : Lc g) (hl : g.hB.IsList a xs.toArray) (hi : IntsAre xs ns) (hs : ns.length ≤ 63) :
    X g (d + 8) (lawE nm qn doc pm cd L) [("script", .val (.glob (.ref a)))] (lawD 0) (retK fun v => v = .bool true) := by
  refine segA lb hl hi hs fun ds hd h0 => ?_
  refine segB lb hd ?_
  obtain ⟨hh, ff, hh8, ff7, en, et, el⟩ := texts_at ds
  have ck : ∀ k, k < 4 → ChkT k (hh k) (ff k) := fun k hk => chkT_of hk (hh8 k) (ff7 k)
  have htn : (dueS (ds.getD 4 0) 0 (nmsS ds)).length = 4 := by rw [et]; rfl
  have tat : ∀ k, k < 4 → (dueS (ds.getD 4 0) 0 (nmsS ds)).getD k "" = txtOf k (hh k) (ff k) := by rw [et]; exact four rfl rfl rfl rfl
  have hLA : LineAll (lnsS (dueS (ds.getD 4 0) 0 (nmsS ds))) := lines_all htn fun k hk => by rw [tat k hk]; exact lnc_of (ck k hk).e
  have c0 := ck 0 (by decide)
  have c1 := ck 1 (by decide)
  have c2 := ck 2 (by decide)
  have c3 := ck 3 (by decide)
  refine segC (names := nmsS ds) (texts := dueS (ds.getD 4 0) 0 (nmsS ds)) lb hd (by rw [en]; rfl) ?_ rfl ?_ ?_ ?_ ?_ ?_
  · rw [en]; exact all_cons c0.a (all_cons c1.a (all_cons c2.a (all_cons c3.a all_nil)))
  · rw [et]; exact all_cons c0.b (all_cons c1.b (all_cons c2.b (all_cons c3.b all_nil)))
  · rw [el]
    intro p hp
    simp only [List.mem_cons, List.not_mem_nil, or_false] at hp
    rcases hp with rfl | rfl | rfl | rfl
    · exact c0.c
    · exact c1.c
    · exact c2.c
    · exact c3.c
  · rw [el, et]
    simp only [List.map_cons, List.map_nil, c0.d, c1.d, c2.d, c3.d]
  · have i0 : (0 : Int) ≤ 0 ∧ (0 : Int) < 4 := by decide
    have i1 : (0 : Int) ≤ 1 ∧ (1 : Int) < 4 := by decide
    exact dots_true (hLA.has 0 i0) (hLA.apart 0 1 i0 i1 (by decide)) (hLA.has 1 i1) (hLA.apart 1 0 i1 i0 (by decide)) (hLA.nodot 0 i0) (hLA.nodot 1 i1) (hLA.two 0 i0) (hLA.two 1 i1)
  revert htn hLA
  generalize dueS (ds.getD 4 0) 0 (nmsS ds) = texts
  intro htn hLA
  refine segD lb hd fun front back hE => ?_
  refine segE lb ?_
  refine segF lb hd fun w hw => ?_
  refine segG lb lc hd sortOrd_n fun b0 c0 b1 c1 b2 c2 b3 c3 s0 s1 s2 => ?_
  obtain ⟨hline, hbad⟩ := order_ok b0 c0 b1 c1 b2 c2 b3 c3 s0 s1 s2
  obtain ⟨hs1, hs2⟩ := sel_small s0 s1 s2
  obtain ⟨hk4, hk3⟩ := keys_ok b0 c0 b1 c1 b2 c2 b3 c3
  exact law_rest lb lc hd hE htn hLA hw hline hbad hs1 hs2 hk4 hk3
/-- the call of the law -/
theorem law_call {K : Frag} {a : Addr} {xs : List Value} {ns : List Int} (k : KF K) (kX : K.In g.hB) (hl : g.hB.IsList a xs.toArray) (hi : IntsAre xs ns) (hs : ns.length ≤ 63) : CallOk g (d + 9) (.ref 146) [.glob (.ref a)] (fun v => v = .bool true) := by
  obtain ⟨nm, qn, doc, pm, cd, F⟩ := law_at k kX
  exact call_fn F rfl fun L => (law_main (nm := nm) (qn := qn) (doc := doc) (pm := pm) (cd := cd) (L := L) (lb_of k kX) (lc_of k kX) hl hi hs).x
end
end

section
theorem law_end {g : Gd} {K : Frag} {a : Addr} {xs : List Value} {ns : List Int} (k : KF K) (kX : K.In g.hB) (hl : g.hB.IsList a xs.toArray) (hi : IntsAre xs ns) (hs : ns.length ≤ 63) {s : Shared} (hh : s.heap = g.hB) (hg : s.gens = #[]) {Q E : Value → Shared → Prop}
    (h : ∀ s', OldK s.heap s'.heap → s'.os = s.os → AllBare s'.gens → Q (.bool true) s') : wpAny (model g.prog g.w) callerA (call (.ref 146) [.ref a]) Q E s := by
  have ok : AOk 9 callerA := ⟨rfl, by decide, by decide⟩
  have inv : Inv g (fun b => g.hB.get? b) s := ⟨fun _ _ h => h, fun b o h => by rw [hh]; exact h⟩
  refine wpAny_mono (law_call (d := 0) k kX hl hi hs callerA _ s [.ref a] ok inv (.cons (.glob _) .nil)) (fun x s' ⟨Φ', v, t, r, e⟩ => ?_) fun _ _ f => f.elim
  subst e
  cases r
  exact h s' (.of_keep fun b o hb => t.kept b o hb) t.os (t.bare (by rw [hg]; exact .of_eq rfl))
theorem gd_sys {K : Frag} {h : Heap} (k : KF K) (X : K.In h) : (h.get? sysModules).isSome = true := by
  obtain ⟨o, ho⟩ := Option.isSome_iff_exists.mp k.sys
  rw [X _ _ ho]; rfl
theorem law_top {prog : Program} {w : World} {s : Shared} {mg mb : Str → Option Value} {K : Frag} {a : Addr} {xs : List Value} {ns : List Int} {Q E : Value → Shared → Prop} (X : K.In s.heap) (k : KF K) (h1 : s.heap.Ns mainGlobals mg) (h2 : s.heap.Ns builtinsNs mb)
    (h3 : ∀ x : Str, x ≠ "__name__" → mb x = bootBuiltins x) (h4 : s.heap.NoLimit) (h5 : ∃ mc, s.heap.Ns cStatics mc ∧ mc "sys.int_max_str_digits" = none) (hl : s.heap.IsList a xs.toArray) (hi : IntsAre xs ns) (hs : ns.length ≤ 63) (hg : s.gens = #[])
    (h : ∀ s', OldK s.heap s'.heap → s'.os = s.os → AllBare s'.gens → Q (.bool true) s') : wpAny (model prog w) callerA (call (.ref 146) [.ref a]) Q E s :=
  law_end (g := ⟨prog, w, s.heap, mg, mb, h1, h2, h3, h4, h5, gd_sys k X⟩) k X hl hi hs rfl hg h
end

section
noncomputable def viewL : Program := { PySem.Challenge.pw_xb0020_01 with main := { PySem.Challenge.pw_xb0020_01.main with body := [stm 21] } }
noncomputable def looseL : List Str := ["_iter_escaped_chars", "_strip_quoted_realnames", "_check_parenthesis", "_pre_parse_validation", "ELLIPSIS_MARKER", "_ellipsis_match", "TupleComp", "func_std_string", "add_func_stats", "add_callers", "count_calls", "_law_told", "_law_dots", "_law_functions", "_law_deeds", "_law_stands", "_law_hide"]
theorem heapL_as : ∀ P, addrL = (heapL P).map (·.1) := fun _ => rfl
noncomputable def hookL : Hook := kHook heapL addrL heapL_as
noncomputable def XtL (s : Shared) : Bool := xlAt viewL [] s && recOk [] s
theorem leftL : LeftO PySem.Challenge.pw_xb0020_01 viewL looseL XtL (Hook.obs hookL) (Hook.val hookL) 1742 true := by
  intro w
  kernel_rfl
end

end Mine
end

open PySem PySem.W PyProof.Rows
set_option maxRecDepth 100000 in
set_option maxHeartbeats 8000000 in
theorem PySem.Challenge.cw_xb0020_01_holds : PySem.Challenge.rw_xb0020_01.Holds := by
  refine holds_law (by decide +kernel) fun said => ?_
  refine holds_open (q := Mine.viewL) (loose := Mine.looseL) (Xt := Mine.XtL) (XP := XL Mine.viewL []) (Yf := Hook.obs Mine.hookL) (Ya := Hook.val Mine.hookL) (YP := Hook.says Mine.hookL) (N := 1742) Mine.leftL (Hook.of Mine.hookL) (Hook.keeps Mine.hookL) (fun s e => xl_of s (Bool.and_eq_true_iff.mp e).1) XL.keeps (by rfl) (by rfl) (by rfl) (fun s e => recFacts_of (Bool.and_eq_true_iff.mp e).2) (by rfl) (by first | assumption | decide +kernel) (by decide +kernel) ⟨rfl, rfl, rfl, rfl, rfl, by decide +kernel⟩ ?hw ?hc
  case hw => w_witness2
  case hc =>
    intro w s₀ s₁ mg mb G Y fa o pm cd doc dV kV ho hd hcd hD hmg hg args vals as hpre hlay hrd hwl hlo
    have KX : (Mine.heapL w.params).In s₁.heap := kIn_of Y
    refine Ground.open G ?_
    intro T B D TE TW
    wrow_args hpre hlay hrd hwl hlo
    have hfa : fa = 146 := by
      have e := mg_of KX T.g ((Mine.kf_L w.params).names ("law", 146) (by decide))
      exact Value.ref.inj (Option.some.inj (hmg.symm.trans e))
    subst hfa
    clear hd hcd hD ho D TE TW B hmg
    refine Mine.law_top KX (Mine.kf_L _) T.g T.b T.builtins T.nolimit T.nodigits (by assumption) (by assumption) (by omega) hg (fun s' h1 h2 h3 => ?_)
    exact ⟨.inl ⟨.bool true, .bool true, [], rfl, fun _ => rfl, .bool true, by wrow_post, fun _ => ⟨.nil, by simp⟩⟩, h1, h2, h3⟩
