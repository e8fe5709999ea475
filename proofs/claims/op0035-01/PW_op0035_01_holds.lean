import PyProof.Rows.All
import Wide.All
import OpenK.AllK
import Wide.FinOn
import Lean
import PySem.Challenge.RW_op0035_01
set_option Elab.async false
section
open PySem PySem.W PyProof.Rows
set_option genInjectivity false
set_option genSizeOfSpec false
namespace Mine
theorem mono2 {M : Model} {A : Around} {α : Type} {t : Sem α} {P R Q : α → Shared → Prop} {E : Value → Shared → Prop} {s : Shared} (h : wpAny M A t (fun v s' => P v s' ∧ R v s') E s) (H : ∀ v s', P v s' → R v s' → Q v s') : wpAny M A t Q E s := wpAny_mono h (fun v s' q => H v s' q.1 q.2) fun _ _ x => x
theorem mono3 {M : Model} {A : Around} {α : Type} {t : Sem α} {P R S Q : α → Shared → Prop} {E : Value → Shared → Prop} {s : Shared} (h : wpAny M A t (fun v s' => P v s' ∧ R v s' ∧ S v s') E s) (H : ∀ v s', P v s' → R v s' → S v s' → Q v s') : wpAny M A t Q E s := wpAny_mono h (fun v s' q => H v s' q.1 q.2.1 q.2.2) fun _ _ x => x
theorem bc {p : Prop} (h : (p → False) → False) : p := Classical.byContradiction h
inductive Dt where
  | none
  | bool (b : Bool)
  | int (i : Int)
  | str (x : Str)
  | bytes (b : List UInt8)
  | ty (n : String)
  | opq (v : Value)
  | list (l : List Dt)
  | range (n : Nat)
noncomputable abbrev Ext (h h' : Heap) : Prop := ∀ b o, h.get? b = some o → h'.get? b = some o
theorem Dt.linj {a b : List Dt} (h : Dt.list a = Dt.list b) : a = b := by cases h; rfl
theorem Ext.refl (h : Heap) : Ext h h := fun _ _ e => e
theorem Ext.trans {a b c : Heap} (x : Ext a b) (y : Ext b c) : Ext a c := fun p o e => y p o (x p o e)
mutual
noncomputable def V (h : Heap) (X : List Addr) : Dt → Value → Prop
  | .none, v => v = .none
  | .bool b, v => v = .bool b
  | .int i, v => ∃ t, v = .int i t
  | .str x, v => ∃ t, v = .str x t
  | .bytes b, v => ∃ t, v = .bytes b.toArray t
  | .ty n, v => v = .type n
  | .opq u, v => v = u
  | .list l, v => ∃ a vs, v = .ref a ∧ a ∉ X ∧ h.IsList a (List.toArray vs) ∧ VL h X l vs
  | .range n, v => ∃ a t u w, v = .ref a ∧ a ∉ X ∧ IsRange h a 0 n 1 t u w
noncomputable def VL (h : Heap) (X : List Addr) : List Dt → List Value → Prop
  | [], vs => vs = []
  | d :: l, vs => ∃ v r, vs = v :: r ∧ V h X d v ∧ VL h X l r
end
mutual
theorem V.keep {h h' : Heap} {X : List Addr} (k : ∀ b o, b ∉ X → h.get? b = some o → h'.get? b = some o) : ∀ (d : Dt) (v : Value), V h X d v → V h' X d v
  | .none, v, x => by unfold V at x ⊢; exact x
  | .bool b, v, x => by unfold V at x ⊢; exact x
  | .int i, v, x => by unfold V at x ⊢; exact x
  | .str s, v, x => by unfold V at x ⊢; exact x
  | .bytes b, v, x => by unfold V at x ⊢; exact x
  | .ty n, v, x => by unfold V at x ⊢; exact x
  | .opq u, v, x => by unfold V at x ⊢; exact x
  | .list l, v, x => by
    unfold V at x ⊢
    obtain ⟨a, vs, e, n, i, r⟩ := x
    exact ⟨a, vs, e, n, i.at fun o e => k a o n e, VL.keep k l vs r⟩
  | .range n, v, x => by
    unfold V at x ⊢
    obtain ⟨a, t, u, w, e, nx, i⟩ := x
    exact ⟨a, t, u, w, e, nx, k _ _ nx i⟩
theorem VL.keep {h h' : Heap} {X : List Addr} (k : ∀ b o, b ∉ X → h.get? b = some o → h'.get? b = some o) : ∀ (l : List Dt) (vs : List Value), VL h X l vs → VL h' X l vs
  | [], vs, x => by unfold VL at x ⊢; exact x
  | d :: l, vs, x => by
    unfold VL at x ⊢
    obtain ⟨v, r, e, y, z⟩ := x
    exact ⟨v, r, e, V.keep k d v y, VL.keep k l r z⟩
end
mutual
theorem V.more {h : Heap} {X Y : List Addr} (k : ∀ b, b ∈ Y → b ∉ X → h.get? b = Option.none) : ∀ (d : Dt) (v : Value), V h X d v → V h Y d v
  | .none, v, x => by unfold V at x ⊢; exact x
  | .bool b, v, x => by unfold V at x ⊢; exact x
  | .int i, v, x => by unfold V at x ⊢; exact x
  | .str s, v, x => by unfold V at x ⊢; exact x
  | .bytes b, v, x => by unfold V at x ⊢; exact x
  | .ty n, v, x => by unfold V at x ⊢; exact x
  | .opq u, v, x => by unfold V at x ⊢; exact x
  | .list l, v, x => by
    unfold V at x ⊢
    obtain ⟨a, vs, e, n, i, r⟩ := x
    refine ⟨a, vs, e, fun q => ?_, i, VL.more k l vs r⟩
    obtain ⟨o, ho, _⟩ := i
    rw [k a q n] at ho; cases ho
  | .range n, v, x => by
    unfold V at x ⊢
    obtain ⟨a, t, u, w, e, nx, i⟩ := x
    refine ⟨a, t, u, w, e, fun q => ?_, i⟩
    have e1 := k a q nx
    have e2 : h.get? a = some _ := i
    rw [e1] at e2; cases e2
theorem VL.more {h : Heap} {X Y : List Addr} (k : ∀ b, b ∈ Y → b ∉ X → h.get? b = Option.none) : ∀ (l : List Dt) (vs : List Value), VL h X l vs → VL h Y l vs
  | [], vs, x => by unfold VL at x ⊢; exact x
  | d :: l, vs, x => by
    unfold VL at x ⊢
    obtain ⟨v, r, e, y, z⟩ := x
    exact ⟨v, r, e, V.more k d v y, VL.more k l r z⟩
end
theorem V.ext {h h' : Heap} {X : List Addr} (k : Ext h h') {d : Dt} {v : Value} (x : V h X d v) : V h' X d v := V.keep (fun b o _ e => k b o e) d v x
theorem VL.ext {h h' : Heap} {X : List Addr} (k : Ext h h') {l : List Dt} {vs : List Value} (x : VL h X l vs) : VL h' X l vs := VL.keep (fun b o _ e => k b o e) l vs x
theorem V.less {h : Heap} {X Y : List Addr} (k : ∀ b, b ∈ Y → b ∈ X) {d : Dt} {v : Value} (x : V h X d v) : V h Y d v := V.more (fun b hb hn => absurd (k b hb) hn) d v x
theorem VL.less {h : Heap} {X Y : List Addr} (k : ∀ b, b ∈ Y → b ∈ X) {l : List Dt} {vs : List Value} (x : VL h X l vs) : VL h Y l vs := VL.more (fun b hb hn => absurd (k b hb) hn) l vs x
theorem VL.length {h : Heap} {X : List Addr} : ∀ {l : List Dt} {vs : List Value}, VL h X l vs → vs.length = l.length
  | [], vs, x => by unfold VL at x; rw [x]; rfl
  | d :: l, vs, x => by
    unfold VL at x
    obtain ⟨v, r, e, _, z⟩ := x
    rw [e, List.length_cons, List.length_cons, VL.length z]
theorem VL.append {h : Heap} {X : List Addr} : ∀ {l l' : List Dt} {vs vs' : List Value}, VL h X l vs → VL h X l' vs' → VL h X (l ++ l') (vs ++ vs')
  | [], l', vs, vs', x, y => by unfold VL at x; rw [x]; exact y
  | d :: l, l', vs, vs', x, y => by
    unfold VL at x
    obtain ⟨v, r, e, a, z⟩ := x
    show VL h X (d :: (l ++ l')) _
    unfold VL
    exact ⟨v, r ++ vs', by rw [e]; rfl, a, VL.append z y⟩
theorem VL.get {h : Heap} {X : List Addr} : ∀ {l : List Dt} {vs : List Value}, VL h X l vs → ∀ {i : Nat} {d : Dt}, l[i]? = some d → ∃ v, vs[i]? = some v ∧ V h X d v
  | [], vs, x, i, d, e => by simp at e
  | d' :: l, vs, x, i, d, e => by
    unfold VL at x
    obtain ⟨v, r, e', a, z⟩ := x
    subst e'
    cases i with
    | zero => simp at e; subst e; exact ⟨v, by simp, a⟩
    | succ i => simp at e; simpa using VL.get z e
theorem VL.get' {h : Heap} {X : List Addr} : ∀ {l : List Dt} {vs : List Value}, VL h X l vs → ∀ {i : Nat} {v : Value}, vs[i]? = some v → ∃ d, l[i]? = some d ∧ V h X d v
  | [], vs, x, i, v, e => by unfold VL at x; subst x; simp at e
  | d' :: l, vs, x, i, v', e => by
    unfold VL at x
    obtain ⟨v, r, e', a, z⟩ := x
    subst e'
    cases i with
    | zero => simp at e; subst e; exact ⟨d', by simp, a⟩
    | succ i => simp at e; simpa using VL.get' z e
theorem VL.of_get {h : Heap} {X : List Addr} : ∀ {l : List Dt} {vs : List Value}, vs.length = l.length → (∀ (i : Nat) d v, l[i]? = some d → vs[i]? = some v → V h X d v) → VL h X l vs
  | [], vs, e, _ => by unfold VL; exact List.length_eq_zero_iff.mp e
  | d :: l, [], e, _ => by simp at e
  | d :: l, v :: vs, e, k => by
    unfold VL
    exact ⟨v, vs, rfl, k 0 d v rfl rfl, VL.of_get (by simpa using e) fun i d' v' a b => k (i + 1) d' v' (by simpa using a) (by simpa using b)⟩
theorem VL.snoc {h : Heap} {X : List Addr} {l : List Dt} {vs : List Value} {d : Dt} {v : Value} (x : VL h X l vs) (y : V h X d v) : VL h X (l ++ [d]) (vs ++ [v]) :=
  VL.append x (by unfold VL; exact ⟨v, [], rfl, y, by unfold VL; rfl⟩)
theorem VL.ints {h : Heap} {X : List Addr} : ∀ {ns : List Int} {vs : List Value}, VL h X (ns.map .int) vs → IntsAre vs ns
  | [], vs, x => by unfold VL at x; simp at x; rw [x]; exact .nil
  | n :: ns, vs, x => by
    rw [List.map_cons] at x
    unfold VL V at x
    obtain ⟨v, r, e, ⟨t, et⟩, z⟩ := x
    rw [e, et]; exact .cons _ _ (VL.ints z)
theorem VL.of_ints {h : Heap} {X : List Addr} : ∀ {ns : List Int} {vs : List Value}, IntsAre vs ns → VL h X (ns.map .int) vs
  | _, _, .nil => by unfold VL; rfl
  | _, _, .cons n t r => by rw [List.map_cons]; unfold VL V; exact ⟨_, _, rfl, ⟨_, rfl⟩, VL.of_ints r⟩
theorem Keeps.refl' (s : Shared) : Keeps s s := ⟨s.heap, s.toks, rfl, fun _ _ e => e⟩
theorem Keeps.trans' {a b c : Shared} (x : Keeps a b) (y : Keeps b c) : Keeps a c := by
  obtain ⟨h1, t1, rfl, k1⟩ := x
  obtain ⟨h2, t2, rfl, k2⟩ := y
  exact ⟨h2, t2, rfl, fun b o e => k2 b o (k1 b o e)⟩
theorem Keeps.ext {a b : Shared} (x : Keeps a b) : Ext a.heap b.heap := by obtain ⟨h1, t1, rfl, k1⟩ := x; exact k1
theorem Keeps.tok {s : Shared} (n : Nat) : Keeps s { s with toks := n } := ⟨s.heap, n, rfl, fun _ _ e => e⟩
theorem Keeps.heap' {s : Shared} {h : Heap} (n : Nat) (k : Ext s.heap h) : Keeps s { s with heap := h, toks := n } := ⟨h, n, rfl, k⟩
theorem Keeps.of_heap {s : Shared} {h : Heap} (k : Ext s.heap h) : Keeps s { s with heap := h } := ⟨h, s.toks, rfl, k⟩
end Mine
end
section
open PySem PySem.W PyProof.Rows
set_option genInjectivity false
set_option genSizeOfSpec false
namespace Mine
structure Orc where
  fn : Str → List Dt → List (Str × Dt) → Option Dt
  gl : Str → Option Dt
noncomputable def constD : Const → Option Dt
  | .none => some .none
  | .bool b => some (.bool b)
  | .int i => some (.int i)
  | .str s => some (.str s)
  | .bytes b => some (.bytes b)
  | _ => Option.none
noncomputable def isLoc (sc : List (Str × NameKind)) (x : Str) : Bool := match sc.lookup x with
  | some .local => true
  | some .cell => true
  | some .free => true
  | _ => false
noncomputable def isCap (sc : List (Str × NameKind)) (x : Str) : Bool := match sc.lookup x with
  | some .cell => true
  | some .free => true
  | _ => false
theorem nof {P : Prop} (e : false = true) : P := nomatch e
theorem nope {α : Type} {d : α} (h : (Option.none : Option α) = some d) {P : Prop} : P := by cases h
noncomputable def onI {α : Type} (f : Int → Int → Option α) (a b : Dt) : Option α := match a with
  | .int x => (match b with
    | .int y => f x y
    | _ => Option.none)
  | _ => Option.none
noncomputable def onS {α : Type} (f : Str → Str → Option α) (a b : Dt) : Option α := match a with
  | .str x => (match b with
    | .str y => f x y
    | _ => Option.none)
  | _ => Option.none
noncomputable def onB {α : Type} (f : List UInt8 → List UInt8 → Option α) (a b : Dt) : Option α := match a with
  | .bytes x => (match b with
    | .bytes y => f x y
    | _ => Option.none)
  | _ => Option.none
noncomputable def onL {α : Type} (f : List Dt → List Dt → Option α) (a b : Dt) : Option α := match a with
  | .list x => (match b with
    | .list y => f x y
    | _ => Option.none)
  | _ => Option.none
theorem onI_x {α : Type} {f : Int → Int → Option α} {a b : Dt} {r : α} (e : onI f a b = some r) : ∃ x y, a = .int x ∧ b = .int y ∧ f x y = some r := by
  cases a with
  | int x => cases b with
    | int y => exact ⟨x, y, rfl, rfl, e⟩
    | _ => exact nope e
  | _ => exact nope e
theorem onS_x {α : Type} {f : Str → Str → Option α} {a b : Dt} {r : α} (e : onS f a b = some r) : ∃ x y, a = .str x ∧ b = .str y ∧ f x y = some r := by
  cases a with
  | str x => cases b with
    | str y => exact ⟨x, y, rfl, rfl, e⟩
    | _ => exact nope e
  | _ => exact nope e
theorem onB_x {α : Type} {f : List UInt8 → List UInt8 → Option α} {a b : Dt} {r : α} (e : onB f a b = some r) : ∃ x y, a = .bytes x ∧ b = .bytes y ∧ f x y = some r := by
  cases a with
  | bytes x => cases b with
    | bytes y => exact ⟨x, y, rfl, rfl, e⟩
    | _ => exact nope e
  | _ => exact nope e
theorem onL_x {α : Type} {f : List Dt → List Dt → Option α} {a b : Dt} {r : α} (e : onL f a b = some r) : ∃ x y, a = .list x ∧ b = .list y ∧ f x y = some r := by
  cases a with
  | list x => cases b with
    | list y => exact ⟨x, y, rfl, rfl, e⟩
    | _ => exact nope e
  | _ => exact nope e
theorem ite_x {α : Type} {c : Prop} [Decidable c] {o : Option α} {r : α} (e : (if c then o else Option.none) = some r) : c ∧ o = some r := by
  by_cases h : c
  · rw [if_pos h] at e; exact ⟨h, e⟩
  · rw [if_neg h] at e; cases e
noncomputable def iAdd (x y : Int) : Option Dt := some (.int (x + y))
noncomputable def iSub (x y : Int) : Option Dt := some (.int (x - y))
noncomputable def iMul (a b : Int) : Option Dt := if a.natAbs < 2 ^ 64 ∨ b.natAbs < 2 ^ 64 then some (.int (a * b)) else Option.none
noncomputable def iFdv (a b : Int) : Option Dt := if b ≠ 0 ∧ b.natAbs < 2 ^ 64 then some (.int (a.fdiv b)) else Option.none
noncomputable def iMod (a b : Int) : Option Dt := if b ≠ 0 then some (.int (a.fmod b)) else Option.none
noncomputable def iPow (a n : Int) : Option Dt := if 0 ≤ n ∧ n ≤ 1000 ∧ a.natAbs < 2 ^ 64 then some (.int (a ^ n.toNat)) else Option.none
noncomputable def iShl (a n : Int) : Option Dt := if 0 ≤ n ∧ n ≤ 1000 ∧ a.natAbs < 2 ^ 64 then some (.int (a * 2 ^ n.toNat)) else Option.none
noncomputable def iShr (a n : Int) : Option Dt := if 0 ≤ n then some (.int (a.fdiv (2 ^ n.toNat))) else Option.none
noncomputable def iAnd (a b : Int) : Option Dt := some (.int (Builtin.bitAnd a b))
noncomputable def iOr (a b : Int) : Option Dt := some (.int (Builtin.bitOr a b))
noncomputable def sAdd (x y : Str) : Option Dt := if x.length + y.length ≤ 1000 then some (.str (x ++ y)) else Option.none
noncomputable def bAdd (x y : List UInt8) : Option Dt := if x.length + y.length ≤ 1000 then some (.bytes (x ++ y)) else Option.none
noncomputable def lAdd (x y : List Dt) : Option Dt := if x.length + y.length ≤ 1000 then some (.list (x ++ y)) else Option.none
noncomputable def sMul (x : Str) (n : Int) : Option Dt := if x.length ≤ 1000 ∧ 0 ≤ n ∧ n ≤ 1000 then some (.str (Txt.mul x n)) else Option.none
noncomputable def bMul (x : List UInt8) (n : Int) : Option Dt := if x ≠ [] ∧ x.length ≤ 16 ∧ -1000 ≤ n ∧ n ≤ 1000 then some (.bytes ((List.replicate n.toNat x).flatten)) else Option.none
noncomputable def binD (op : Operator) (a b : Dt) : Option Dt := match op with
  | .Add => (match a with
    | .int _ => onI iAdd a b
    | .str _ => onS sAdd a b
    | .bytes _ => onB bAdd a b
    | .list _ => onL lAdd a b
    | _ => Option.none)
  | .Sub => onI iSub a b
  | .Mult => (match a with
    | .int _ => onI iMul a b
    | .str x => (match b with
      | .int n => sMul x n
      | _ => Option.none)
    | .bytes x => (match b with
      | .int n => bMul x n
      | _ => Option.none)
    | _ => Option.none)
  | .FloorDiv => onI iFdv a b
  | .Mod => onI iMod a b
  | .Pow => onI iPow a b
  | .LShift => onI iShl a b
  | .RShift => onI iShr a b
  | .BitAnd => onI iAnd a b
  | .BitOr => onI iOr a b
  | _ => Option.none
mutual
noncomputable def sameD : Dt → Dt → Bool
  | .int x, b => (match b with
    | .int y => x == y
    | _ => false)
  | .str x, b => (match b with
    | .str y => x == y
    | _ => false)
  | .bytes x, b => (match b with
    | .bytes y => x == y
    | _ => false)
  | .bool x, b => (match b with
    | .bool y => x == y
    | _ => false)
  | .list l, b => (match b with
    | .list m => sameL l m
    | _ => false)
  | _, _ => false
noncomputable def sameL : List Dt → List Dt → Bool
  | [], m => m.isEmpty
  | a :: r, m => (match m with
    | b :: t => sameD a b && sameL r t
    | [] => false)
end
mutual
noncomputable def dep : Dt → Nat
  | .list l => depL l + 1
  | _ => 0
noncomputable def depL : List Dt → Nat
  | [] => 0
  | d :: l => max (dep d) (depL l)
end
noncomputable def cmpIn (op : CmpOp) (a b : Int) : Option Bool := match op with
  | .Eq => some (a == b)
  | .NotEq => some (a != b)
  | .Lt => some (decide (a < b))
  | .LtE => some (decide (a ≤ b))
  | .Gt => some (decide (b < a))
  | .GtE => some (decide (b ≤ a))
  | _ => Option.none
noncomputable def cmpBn (op : CmpOp) (a b : List UInt8) : Option Bool := match op with
  | .Eq => some (a == b)
  | .NotEq => some (a != b)
  | .Lt => some (Builtin.Bytes.order a b == .lt)
  | .LtE => some (Builtin.Bytes.order a b != .gt)
  | .Gt => some (Builtin.Bytes.order a b == .gt)
  | .GtE => some (Builtin.Bytes.order a b != .lt)
  | _ => Option.none
noncomputable def cmpLn (op : CmpOp) (a b : List Dt) : Option Bool := match op with
  | .Eq => if dep (.list a) ≤ 50 ∧ sameD (.list a) (.list b) = true then some true else Option.none
  | .NotEq => if dep (.list a) ≤ 50 ∧ sameD (.list a) (.list b) = true then some false else Option.none
  | _ => Option.none
noncomputable def cmpTy (op : CmpOp) (b : Bool) : Option Bool := match op with
  | .Is => some b
  | .IsNot => some (!b)
  | _ => Option.none
noncomputable def cmpSn (op : CmpOp) (x y : Str) : Option Bool := match op with
  | .NotEq => some (x != y)
  | _ => Option.none
noncomputable def cmpD (op : CmpOp) (a b : Dt) : Option Bool := match a with
  | .int _ => onI (cmpIn op) a b
  | .str _ => onS (cmpSn op) a b
  | .bytes _ => onB (cmpBn op) a b
  | .list _ => onL (cmpLn op) a b
  | .ty x => (match b with
    | .ty y => cmpTy op (x == y)
    | _ => Option.none)
  | .none => (match b with
    | .none => cmpTy op true
    | _ => Option.none)
  | .bool _ => (match b with
    | .none => (match op with
      | .Is => some false
      | _ => Option.none)
    | _ => Option.none)
  | _ => Option.none
noncomputable def truthD : Dt → Option Bool
  | .bool b => some b
  | .int i => some (i != 0)
  | .none => some false
  | _ => Option.none
noncomputable def placeD (i : Int) (n : Nat) : Option Nat := if 0 ≤ i ∧ i < n then some i.toNat else if i < 0 ∧ 0 ≤ i + n then some (i + n).toNat else Option.none
noncomputable def itemI (a : Dt) (i : Int) : Option Dt := match a with
  | .list l => if l.length ≤ 1000 then (placeD i l.length).bind fun k => l[k]? else Option.none
  | .str x => if 0 ≤ i ∧ i < x.length ∧ x.length ≤ 1000 then some (.str ⟨#[x.cps.getD i.toNat 0]⟩) else Option.none
  | .bytes b => if 0 ≤ i ∧ i < b.length ∧ b.length ≤ 1000 then some (.int (b.getD i.toNat 0).toNat) else Option.none
  | _ => Option.none
noncomputable def itemD (a b : Dt) : Option Dt := match b with
  | .int i => itemI a i
  | _ => Option.none
noncomputable def sliceD (l : List Dt) (lo hi st : Option Int) : List Dt :=
  let b := sliceBounds lo hi st l.length
  (sliceRange b.1 b.2.1 b.2.2).filterMap fun i => l[i]?
noncomputable def itemsD : Dt → Option (List Dt)
  | .list l => some l
  | .range n => if n ≤ 1000 then some ((List.range n).map fun (i : Nat) => Dt.int (i : Int)) else Option.none
  | .bytes b => some (b.map fun c => .int (c.toNat : Int))
  | .str x => some (x.cps.toList.map fun c => .str ⟨#[c]⟩)
  | _ => Option.none
noncomputable def allInts : List Dt → Option (List Int)
  | [] => some []
  | .int i :: r => (allInts r).map (i :: ·)
  | _ :: _ => Option.none
noncomputable def allStrs : List Dt → Option (List Str)
  | [] => some []
  | .str x :: r => (allStrs r).map (x :: ·)
  | _ :: _ => Option.none
noncomputable def on1 (f : Dt → Option Dt) (args : List Dt) : Option Dt := match args with
  | [] => Option.none
  | a :: r => (match r with
    | [] => f a
    | _ :: _ => Option.none)
theorem on1_x {f : Dt → Option Dt} {args : List Dt} {d : Dt} (e : on1 f args = some d) : ∃ a, args = [a] ∧ f a = some d := by
  cases args with
  | nil => exact nope e
  | cons a r => cases r with
    | nil => exact ⟨a, rfl, e⟩
    | cons _ _ => exact nope e
noncomputable def lenD (a : Dt) : Option Dt := match a with
  | .list l => if l.length ≤ 1000 then some (.int l.length) else Option.none
  | .bytes b => if b.length ≤ 1000 then some (.int b.length) else Option.none
  | _ => Option.none
noncomputable def rangeD (a : Dt) : Option Dt := match a with
  | .int n => if 0 ≤ n ∧ n ≤ 1000 then some (.range n.toNat) else Option.none
  | _ => Option.none
noncomputable def sumD (a : Dt) : Option Dt := match a with
  | .list l => if l.length ≤ 1000 then (allInts l).map fun ns => .int ns.sum else Option.none
  | _ => Option.none
noncomputable def bytesD (a : Dt) : Option Dt := match a with
  | .list l => if l.length ≤ 1000 then (allInts l).bind fun ns => if ns.all (fun n => decide (0 ≤ n ∧ n < 256)) then some (.bytes (ns.map fun n => n.toNat.toUInt8)) else Option.none else Option.none
  | _ => Option.none
noncomputable def chrD (a : Dt) : Option Dt := match a with
  | .int n => if 0 ≤ n ∧ n < 128 then some (.str ⟨#[n.toNat]⟩) else Option.none
  | _ => Option.none
noncomputable def typeD (a : Dt) : Option Dt := match a with
  | .bytes _ => some (.ty "bytes")
  | .str _ => some (.ty "str")
  | .bool _ => some (.ty "bool")
  | _ => Option.none
noncomputable def bltD (f : Str) (args : List Dt) : Option Dt :=
  if f == Str.ofString "len" then on1 lenD args
  else if f == Str.ofString "range" then on1 rangeD args
  else if f == Str.ofString "sum" then on1 sumD args
  else if f == Str.ofString "bytes" then on1 bytesD args
  else if f == Str.ofString "chr" then on1 chrD args
  else if f == Str.ofString "type" then on1 typeD args
  else Option.none
noncomputable def bltNames : List Str := [Str.ofString "len", Str.ofString "range", Str.ofString "sum", Str.ofString "bytes", Str.ofString "chr", Str.ofString "type"]
noncomputable def methD (o : Dt) (name : Str) (a : Dt) : Option Dt :=
  if name == Str.ofString "join" then (match o, a with
    | .str x, .list l => if l.length ≤ 1000 then (allStrs l).bind fun ss => if JoinOk x ss = true then some (.str (Txt.join x ss)) else Option.none else Option.none
    | _, _ => Option.none)
  else if name == Str.ofString "index" then (match o, a with
    | .str x, .str y => if Txt.contains x y = true then some (.int (Txt.find x y)) else Option.none
    | _, _ => Option.none)
  else Option.none
noncomputable def compOk (sc csc : List (Str × NameKind)) (ρ : List (Str × Dt)) (x : Str) : Bool :=
  csc.all (fun p => p.2 != .cell && (p.2 != .free || isCap sc p.1) && (p.2 != .local || ((csc.lookup p.1 == some .local) && (p.1 == x || (ρ.lookup p.1).isNone)))) && csc.lookup x == some .local
noncomputable def compGo (f : Dt → Option (Option Dt)) : List Dt → Option (List Dt)
  | [] => some []
  | d :: r => match f d with
    | Option.none => Option.none
    | some Option.none => compGo f r
    | some (some y) => (compGo f r).map (y :: ·)
noncomputable def partD : Option (Option Dt) → Option (Option Int)
  | Option.none => some Option.none
  | some (some (.int i)) => some (some i)
  | some _ => Option.none
noncomputable def nm0 : Expr → Option Str
  | .Name id _ => some id
  | _ => Option.none
theorem nm0_x {e : Expr} {x : Str} (h : nm0 e = some x) : ∃ p, e = .Name x p := by
  cases e with
  | Name id p => cases h; exact ⟨p, rfl⟩
  | _ => exact nope h
noncomputable def noSup (e : Expr) : Bool := match nm0 e with
  | some id => id != Str.ofString "super"
  | Option.none => false
noncomputable def baseOk : Expr → Bool
  | .Constant .. => true
  | .Name .. => true
  | .Call f a k _ => a.isEmpty && k.isEmpty && noSup f
  | _ => false
noncomputable def nameD (cf : Orc) (sc : List (Str × NameKind)) (ρ : List (Str × Dt)) (x : Str) : Option Dt := if x == Str.ofString "__debug__" || x == Str.ofString "__classdict__" then Option.none else
        if isLoc sc x then ρ.lookup x else if sc.lookup x == some .globalImplicit then
          (if x == Str.ofString "bytes" then some (.ty "bytes") else if x == Str.ofString "str" then some (.ty "str") else if x == Str.ofString "bool" then some (.ty "bool") else if x == Str.ofString "bytearray" then some (.ty "bytearray") else cf.gl x) else Option.none
noncomputable def compHd (gs : List Comprehension) : Option (Str × Pos × Expr × List Expr) := match gs with
  | [⟨t, iter, ifs, a⟩] => (match t with
    | .Name x px => (match a with
      | 0 => some (x, px, iter, ifs)
      | _ => Option.none)
    | _ => Option.none)
  | _ => Option.none
theorem compHd_x {gs : List Comprehension} {z : Str × Pos × Expr × List Expr} (h : compHd gs = some z) : gs = [⟨.Name z.1 z.2.1, z.2.2.1, z.2.2.2, 0⟩] := by
  rcases gs with _ | ⟨⟨t, iter, ifs, a⟩, _ | _⟩
  · cases h
  · cases t with
    | Name x px => cases a with
      | ofNat n => cases n with
        | zero => cases h; rfl
        | succ _ => cases h
      | negSucc _ => cases h
    | _ => exact nope h
  · cases h
noncomputable def sliceOf (e : Expr) : Option (Option Expr × Option Expr × Option Expr) := match e with
  | .Slice lo hi st _ => some (lo, hi, st)
  | _ => Option.none
inductive TK where
  | no (x : Expr)
  | many (op : BoolOp) (vs : List Expr)
  | cmp (l : Expr) (ops : List CmpOp) (rs : List Expr)
  | out
  | plain
noncomputable def tk (e : Expr) : TK := match e with
  | .UnaryOp op x _ => (match op with
    | .Not => .no x
    | _ => .plain)
  | .BoolOp op vs _ => .many op vs
  | .IfExp .. => .out
  | .Compare l ops rs _ => .cmp l ops rs
  | _ => .plain
mutual
noncomputable def ev (cf : Orc) : Nat → List (Str × NameKind) → List (Str × Dt) → Expr → Option Dt
  | 0, _, _, _ => Option.none
  | n + 1, sc, ρ, e => match e with
    | .Constant c _ _ => constD c
    | .Name x _ => nameD cf sc ρ x
    | .BinOp l op r _ => match ev cf n sc ρ l, ev cf n sc ρ r with
      | some a, some b => binD op a b
      | _, _ => Option.none
    | .UnaryOp op x _ => (match op with
      | .USub => match ev cf n sc ρ x with
        | some (.int i) => some (.int (-i))
        | _ => Option.none
      | _ => Option.none)
    | .IfExp t a b _ => match tst cf n sc ρ t with
      | some true => ev cf n sc ρ a
      | some false => ev cf n sc ρ b
      | Option.none => Option.none
    | .Compare l ops rs _ => (match ops with
      | [op] => (match rs with
        | [r] => (match ev cf n sc ρ l, ev cf n sc ρ r with
          | some a, some b => (cmpD op a b).map .bool
          | _, _ => Option.none)
        | _ => Option.none)
      | _ => Option.none)
    | .List es _ => if es.length ≤ 1000 then (evs cf n sc ρ es).map .list else Option.none
    | .ListComp elt gs csc _ => (match compHd gs with
      | some z => match ev cf n sc ρ z.2.2.1 with
        | some it => match itemsD it with
          | some items => if compOk sc csc.names ρ z.1 && csc.kind == .function && decide (items.length ≤ 1000) then (compGo (fun d => match z.2.2.2 with
            | [] => (ev cf n csc.names ((z.1, d) :: ρ) elt).map some
            | [c] => (match tst cf n csc.names ((z.1, d) :: ρ) c with
              | some true => (ev cf n csc.names ((z.1, d) :: ρ) elt).map some
              | some false => some Option.none
              | Option.none => Option.none)
            | _ => Option.none) items).map .list else Option.none
          | Option.none => Option.none
        | Option.none => Option.none
      | Option.none => Option.none)
    | .Call f args kws pos => (match f with
      | .Attribute o name apos => (match args with
        | [a] => (match kws with
          | [] => if baseOk o && (apos.endLine == pos.line) then (match ev cf n sc ρ o, ev cf n sc ρ a with
            | some d, some x => methD d name x
            | _, _ => Option.none) else Option.none
          | _ => Option.none)
        | _ => Option.none)
      | .Name f _ => if f == Str.ofString "__debug__" then Option.none else if sc.lookup f == some .globalImplicit then (match evs cf n sc ρ args, evk cf n sc ρ kws with
        | some ds, some ks => if bltNames.contains f then (if ks.isEmpty then bltD f ds else Option.none) else cf.fn f ds ks
        | _, _ => Option.none) else Option.none
      | _ => Option.none)
    | .Subscript v i _ => (match sliceOf i with
      | some z => match ev cf n sc ρ v with
        | some (.list l) => match partD (z.1.map (ev cf n sc ρ)), partD (z.2.1.map (ev cf n sc ρ)), partD (z.2.2.map (ev cf n sc ρ)) with
          | some a, some b, some c => if c ≠ some 0 ∧ l.length ≤ 1000 then some (.list (sliceD l a b c)) else Option.none
          | _, _, _ => Option.none
        | _ => Option.none
      | Option.none => match ev cf n sc ρ v, ev cf n sc ρ i with
        | some a, some b => itemD a b
        | _, _ => Option.none)
    | _ => Option.none
noncomputable def evs (cf : Orc) : Nat → List (Str × NameKind) → List (Str × Dt) → List Expr → Option (List Dt)
  | 0, _, _, _ => Option.none
  | n + 1, sc, ρ, es => match es with
    | [] => some []
    | e :: r => match ev cf n sc ρ e, evs cf n sc ρ r with
      | some d, some ds => some (d :: ds)
      | _, _ => Option.none
noncomputable def evk (cf : Orc) : Nat → List (Str × NameKind) → List (Str × Dt) → List Keyword → Option (List (Str × Dt))
  | 0, _, _, _ => Option.none
  | n + 1, sc, ρ, kws => match kws with
    | [] => some []
    | ⟨x, e, _⟩ :: r => (match x with
      | some x => match ev cf n sc ρ e, evk cf n sc ρ r with
        | some d, some ds => some ((x, d) :: ds)
        | _, _ => Option.none
      | Option.none => Option.none)
noncomputable def tst (cf : Orc) : Nat → List (Str × NameKind) → List (Str × Dt) → Expr → Option Bool
  | 0, _, _, _ => Option.none
  | n + 1, sc, ρ, e => match tk e with
    | .no x => (tst cf n sc ρ x).map (!·)
    | .many op vs => tsts cf n sc ρ op vs
    | .out => Option.none
    | .cmp l ops rs => (match ops with
      | [op] => (match rs with
        | [r] => (match ev cf n sc ρ l, ev cf n sc ρ r with
          | some a, some b => cmpD op a b
          | _, _ => Option.none)
        | _ => Option.none)
      | [op, op'] => (match rs with
        | [r, r'] => (match ev cf n sc ρ l, ev cf n sc ρ r, ev cf n sc ρ r' with
          | some a, some b, some c => match cmpD op a b with
            | some true => cmpD op' b c
            | some false => some false
            | Option.none => Option.none
          | _, _, _ => Option.none)
        | _ => Option.none)
      | _ => Option.none)
    | .plain => match ev cf n sc ρ e with
      | some d => truthD d
      | Option.none => Option.none
noncomputable def tsts (cf : Orc) : Nat → List (Str × NameKind) → List (Str × Dt) → BoolOp → List Expr → Option Bool
  | 0, _, _, _, _ => Option.none
  | n + 1, sc, ρ, op, es => match es with
    | [] => some (op == .And)
    | e :: r => match tst cf n sc ρ e with
      | some b => if (op == .And) == b then tsts cf n sc ρ op r else some b
      | Option.none => Option.none
end
section
variable {cf : Orc} {n : Nat} {sc : List (Str × NameKind)} {ρ : List (Str × Dt)}
theorem ev_bin {l r : Expr} {op : Operator} {p : Pos} : ev cf (n + 1) sc ρ (.BinOp l op r p) = (match ev cf n sc ρ l, ev cf n sc ρ r with
      | some a, some b => binD op a b
      | _, _ => Option.none) := rfl
theorem ev_neg {x : Expr} {p : Pos} : ev cf (n + 1) sc ρ (.UnaryOp .USub x p) = (match ev cf n sc ρ x with
      | some (.int i) => some (.int (-i))
      | _ => Option.none) := rfl
theorem ev_if {t a b : Expr} {p : Pos} : ev cf (n + 1) sc ρ (.IfExp t a b p) = (match tst cf n sc ρ t with
      | some true => ev cf n sc ρ a
      | some false => ev cf n sc ρ b
      | Option.none => Option.none) := rfl
theorem ev_cmp {l r : Expr} {op : CmpOp} {p : Pos} : ev cf (n + 1) sc ρ (.Compare l [op] [r] p) = (match ev cf n sc ρ l, ev cf n sc ρ r with
      | some a, some b => (cmpD op a b).map .bool
      | _, _ => Option.none) := rfl
theorem ev_name {x : Str} {p : Pos} : ev cf (n + 1) sc ρ (.Name x p) = (if x == Str.ofString "__debug__" || x == Str.ofString "__classdict__" then Option.none else
        if isLoc sc x then ρ.lookup x else if sc.lookup x == some .globalImplicit then
          (if x == Str.ofString "bytes" then some (.ty "bytes") else if x == Str.ofString "str" then some (.ty "str") else if x == Str.ofString "bool" then some (.ty "bool") else if x == Str.ofString "bytearray" then some (.ty "bytearray") else cf.gl x) else Option.none) := rfl
noncomputable def compF (cf : Orc) (n : Nat) (cn : List (Str × NameKind)) (ρ : List (Str × Dt)) (x : Str) (elt : Expr) (ifs : List Expr) (d : Dt) : Option (Option Dt) := match ifs with
            | [] => (ev cf n cn ((x, d) :: ρ) elt).map some
            | [c] => (match tst cf n cn ((x, d) :: ρ) c with
              | some true => (ev cf n cn ((x, d) :: ρ) elt).map some
              | some false => some Option.none
              | Option.none => Option.none)
            | _ => Option.none
theorem ev_comp {elt iter : Expr} {x : Str} {px pos : Pos} {ifs : List Expr} {csc : Scope} : ev cf (n + 1) sc ρ (.ListComp elt [⟨.Name x px, iter, ifs, 0⟩] csc pos) = (match ev cf n sc ρ iter with
      | some it => (match itemsD it with
        | some items => if compOk sc csc.names ρ x && csc.kind == .function && decide (items.length ≤ 1000) then (compGo (compF cf n csc.names ρ x elt ifs) items).map .list else Option.none
        | Option.none => Option.none)
      | Option.none => Option.none) := rfl
theorem ev_meth {o a : Expr} {name : Str} {apos pos : Pos} : ev cf (n + 1) sc ρ (.Call (.Attribute o name apos) [a] [] pos) = (if baseOk o && (apos.endLine == pos.line) then (match ev cf n sc ρ o, ev cf n sc ρ a with
      | some d, some x => methD d name x
      | _, _ => Option.none) else Option.none) := rfl
theorem ev_call {f : Str} {args : List Expr} {kws : List Keyword} {p pos : Pos} : ev cf (n + 1) sc ρ (.Call (.Name f p) args kws pos) = (if f == Str.ofString "__debug__" then Option.none else if sc.lookup f == some .globalImplicit then (match evs cf n sc ρ args, evk cf n sc ρ kws with
      | some ds, some ks => if bltNames.contains f then (if ks.isEmpty then bltD f ds else Option.none) else cf.fn f ds ks
      | _, _ => Option.none) else Option.none) := rfl
theorem ev_slice {v : Expr} {lo hi st : Option Expr} {p pos : Pos} : ev cf (n + 1) sc ρ (.Subscript v (.Slice lo hi st p) pos) = (match ev cf n sc ρ v with
      | some (.list l) => (match partD (lo.map (ev cf n sc ρ)), partD (hi.map (ev cf n sc ρ)), partD (st.map (ev cf n sc ρ)) with
        | some a, some b, some c => if c ≠ some 0 ∧ l.length ≤ 1000 then some (.list (sliceD l a b c)) else Option.none
        | _, _, _ => Option.none)
      | _ => Option.none) := rfl
theorem ev_list {es : List Expr} {p : Pos} : ev cf (n + 1) sc ρ (.List es p) = (if es.length ≤ 1000 then (evs cf n sc ρ es).map .list else Option.none) := rfl
end
theorem tst_cmp1 {cf : Orc} {n : Nat} {sc : List (Str × NameKind)} {ρ : List (Str × Dt)} {l r : Expr} {op : CmpOp} {p : Pos} : tst cf (n + 1) sc ρ (.Compare l [op] [r] p) = (match ev cf n sc ρ l, ev cf n sc ρ r with
      | some a, some b => cmpD op a b
      | _, _ => Option.none) := rfl
theorem tst_cmp2 {cf : Orc} {n : Nat} {sc : List (Str × NameKind)} {ρ : List (Str × Dt)} {l r r' : Expr} {op op' : CmpOp} {p : Pos} : tst cf (n + 1) sc ρ (.Compare l [op, op'] [r, r'] p) = (match ev cf n sc ρ l, ev cf n sc ρ r, ev cf n sc ρ r' with
      | some a, some b, some c => (match cmpD op a b with
        | some true => cmpD op' b c
        | some false => some false
        | Option.none => Option.none)
      | _, _, _ => Option.none) := rfl
theorem ev_const {cf : Orc} {n : Nat} {sc : List (Str × NameKind)} {ρ : List (Str × Dt)} {c : Const} {k p} : ev cf (n + 1) sc ρ (.Constant c k p) = constD c := rfl
theorem compF_nil {cf : Orc} {n : Nat} {cn : List (Str × NameKind)} {ρ : List (Str × Dt)} {x : Str} {elt : Expr} {d : Dt} : compF cf n cn ρ x elt [] d = (ev cf n cn ((x, d) :: ρ) elt).map some := rfl
theorem compF_one {cf : Orc} {n : Nat} {cn : List (Str × NameKind)} {ρ : List (Str × Dt)} {x : Str} {elt c : Expr} {d : Dt} : compF cf n cn ρ x elt [c] d = (match tst cf n cn ((x, d) :: ρ) c with
              | some true => (ev cf n cn ((x, d) :: ρ) elt).map some
              | some false => some Option.none
              | Option.none => Option.none) := rfl
theorem evs_nil {cf : Orc} {n : Nat} {sc : List (Str × NameKind)} {ρ : List (Str × Dt)} : evs cf (n + 1) sc ρ [] = some [] := rfl
theorem evs_cons {cf : Orc} {n : Nat} {sc : List (Str × NameKind)} {ρ : List (Str × Dt)} {e : Expr} {r : List Expr} : evs cf (n + 1) sc ρ (e :: r) = (match ev cf n sc ρ e, evs cf n sc ρ r with
    | some d, some ds => some (d :: ds)
    | _, _ => Option.none) := rfl
theorem evk_cons {cf : Orc} {n : Nat} {sc : List (Str × NameKind)} {ρ : List (Str × Dt)} {x : Str} {e : Expr} {p : Pos} {r : List Keyword} : evk cf (n + 1) sc ρ (⟨some x, e, p⟩ :: r) = (match ev cf n sc ρ e, evk cf n sc ρ r with
    | some d, some ds => some ((x, d) :: ds)
    | _, _ => Option.none) := rfl
theorem tsts_cons {cf : Orc} {n : Nat} {sc : List (Str × NameKind)} {ρ : List (Str × Dt)} {op : BoolOp} {e : Expr} {r : List Expr} : tsts cf (n + 1) sc ρ op (e :: r) = (match tst cf n sc ρ e with
    | some b => if (op == .And) == b then tsts cf n sc ρ op r else some b
    | Option.none => Option.none) := rfl
theorem tst_not {cf : Orc} {n : Nat} {sc : List (Str × NameKind)} {ρ : List (Str × Dt)} {x : Expr} {p : Pos} : tst cf (n + 1) sc ρ (.UnaryOp .Not x p) = (tst cf n sc ρ x).map (!·) := rfl
end Mine
end
section
open PySem PySem.W PyProof.Rows
set_option maxRecDepth 100000
namespace Mine
variable {prog : Program} {w : World} {A : Around} {E : Value → Shared → Prop} {s : Shared}
theorem list_push {h : Heap} {X : List Addr} {l : List Dt} {vs : List Value} (hX : ∀ a ∈ X, ∃ o, h.get? a = some o) (y : VL h X l vs) :
    V (h.push { cls := .type "list", data := .seq vs.toArray }) X (.list l) (.ref h.objs.size) := by
  unfold V
  refine ⟨_, vs, rfl, fun q => ?_, ⟨_, Heap.get?_push_size _ rfl, rfl, _, rfl⟩, y.ext fun b o e => Heap.get?_push_of_some _ e⟩
  obtain ⟨o, ho⟩ := hX _ q
  exact absurd (Heap.lt_size ho) (Nat.lt_irrefl _)
noncomputable def Live (h : Heap) (X : List Addr) : Prop := ∀ a ∈ X, ∃ o, h.get? a = some o
theorem Live.ext {h h' : Heap} {X : List Addr} (L : Live h X) (k : Ext h h') : Live h' X := fun a ha => let ⟨o, ho⟩ := L a ha; ⟨o, k _ _ ho⟩
theorem add_listsR {l b : Addr} {vs ws : List Value} {Q : Value → Shared → Prop} (hl : s.heap.IsList l vs.toArray) (hb : s.heap.IsList b ws.toArray)
    (h : Q (.ref s.heap.objs.size) { s with heap := s.heap.push { cls := .type "list", data := .seq (vs ++ ws).toArray } }) (hsz : vs.length + ws.length ≤ sizeLine) :
    wpAny (model prog w) A (binaryOp .Add (.ref l) (.ref b)) Q E s := by
  obtain ⟨⟨cls, dd, data, sl⟩, ho, hc, n, hd⟩ := id hl
  obtain ⟨⟨cls2, dd2, data2, sl2⟩, ho2, hc2, n2, hd2⟩ := id hb
  simp only at hc hd hc2 hd2
  subst hc hd hc2 hd2
  have e : vs.toArray ++ ws.toArray = (vs ++ ws).toArray := by simp
  refine concat_meets ⟨_, ho, rfl⟩ ⟨_, ho2, rfl⟩ noFill_list_add seq_list_add PySem.F.slot_list_add PySem.F.entry_list_add (PySem.F.args_list_add_2 _ _) (list_addW l b vs.toArray ws.toArray n n2 dd dd2 sl sl2 (by simpa using hsz)) ⟨ho, ho2, ?_⟩
  rw [e]
  exact h
theorem mulOk_small {a b : Int} (h : a.natAbs < 2 ^ 64 ∨ b.natAbs < 2 ^ 64) : IntMulOk a b :=
  h.elim (fun h => IntMulOk.of_left (intBits_le h)) fun h => IntMulOk.of_right (intBits_le h)
theorem noPylong64 {x y : Int} (h : y.natAbs < 2 ^ 64) : Builtin.divisionGoesByPylong x y = false := by
  refine PyProof.noPylong_of_log2 ?_
  by_cases h0 : y.natAbs = 0
  · rw [h0]; decide +kernel
  · have := (Nat.log2_lt h0).mpr h
    lia
theorem mulOk_str {x : Str} {n : Int} (h1 : x.length ≤ 1000) (h2 : 0 ≤ n) (h3 : n ≤ 1000) : MulOk x n := by
  refine ⟨?_, fun hn _ => ?_, fun hn _ => ?_⟩
  · simp only [Bool.or_eq_false_iff, decide_eq_false_iff_not]; lia
  · have h4 : (1000 : Int) ≤ (2 ^ 63 - 1) / n := by
      refine Int.le_ediv_of_mul_le (by lia) ?_
      lia
    lia
  · have h4 : x.length * n.toNat ≤ 1000 * 1000 := Nat.mul_le_mul h1 (by lia)
    unfold PySem.Builtin.Str.tooLong
    rw [sizeLine_eq]
    exact decide_eq_false (by lia)
theorem onI_v {α : Type} {f : Int → Int → Option α} {h : Heap} {X : List Addr} {a b : Dt} {v u : Value} {r : α} {G : Value → Value → Prop} (e : onI f a b = some r) (ha : V h X a v) (hb : V h X b u) (H : ∀ x y t t', f x y = some r → G (.int x t) (.int y t')) : G v u := by
  obtain ⟨x, y, rfl, rfl, e⟩ := onI_x e; obtain ⟨t, rfl⟩ := ha; obtain ⟨t', rfl⟩ := hb; exact H x y t t' e
theorem onS_v {α : Type} {f : Str → Str → Option α} {h : Heap} {X : List Addr} {a b : Dt} {v u : Value} {r : α} {G : Value → Value → Prop} (e : onS f a b = some r) (ha : V h X a v) (hb : V h X b u) (H : ∀ x y t t', f x y = some r → G (.str x t) (.str y t')) : G v u := by
  obtain ⟨x, y, rfl, rfl, e⟩ := onS_x e; obtain ⟨t, rfl⟩ := ha; obtain ⟨t', rfl⟩ := hb; exact H x y t t' e
theorem onB_v {α : Type} {f : List UInt8 → List UInt8 → Option α} {h : Heap} {X : List Addr} {a b : Dt} {v u : Value} {r : α} {G : Value → Value → Prop} (e : onB f a b = some r) (ha : V h X a v) (hb : V h X b u) (H : ∀ x y t t', f x y = some r → G (.bytes x.toArray t) (.bytes y.toArray t')) : G v u := by
  obtain ⟨x, y, rfl, rfl, e⟩ := onB_x e; obtain ⟨t, rfl⟩ := ha; obtain ⟨t', rfl⟩ := hb; exact H x y t t' e
theorem cB_v {α : Type} {op : CmpOp} {f : (List UInt8) → (List UInt8) → Option α} {X : List Addr} {a b : Dt} {v u : Value} {r : α} {Q : Value → Shared → Prop} (e : onB f a b = some r) (ha : V s.heap X a v) (hb : V s.heap X b u) (H : ∀ x y t t', f x y = some r → wpAny (model prog w) A (compareOp op (.bytes x.toArray t) (.bytes y.toArray t')) Q E s) : wpAny (model prog w) A (compareOp op v u) Q E s := onB_v (G := fun v u => wpAny (model prog w) A (compareOp op v u) Q E s) e ha hb H
theorem bB_v {α : Type} {op : Operator} {f : (List UInt8) → (List UInt8) → Option α} {X : List Addr} {a b : Dt} {v u : Value} {r : α} {Q : Value → Shared → Prop} (e : onB f a b = some r) (ha : V s.heap X a v) (hb : V s.heap X b u) (H : ∀ x y t t', f x y = some r → wpAny (model prog w) A (binaryOp op (.bytes x.toArray t) (.bytes y.toArray t')) Q E s) : wpAny (model prog w) A (binaryOp op v u) Q E s := onB_v (G := fun v u => wpAny (model prog w) A (binaryOp op v u) Q E s) e ha hb H
theorem cS_v {α : Type} {op : CmpOp} {f : Str → Str → Option α} {X : List Addr} {a b : Dt} {v u : Value} {r : α} {Q : Value → Shared → Prop} (e : onS f a b = some r) (ha : V s.heap X a v) (hb : V s.heap X b u) (H : ∀ x y t t', f x y = some r → wpAny (model prog w) A (compareOp op (.str x t) (.str y t')) Q E s) : wpAny (model prog w) A (compareOp op v u) Q E s := onS_v (G := fun v u => wpAny (model prog w) A (compareOp op v u) Q E s) e ha hb H
theorem bS_v {α : Type} {op : Operator} {f : Str → Str → Option α} {X : List Addr} {a b : Dt} {v u : Value} {r : α} {Q : Value → Shared → Prop} (e : onS f a b = some r) (ha : V s.heap X a v) (hb : V s.heap X b u) (H : ∀ x y t t', f x y = some r → wpAny (model prog w) A (binaryOp op (.str x t) (.str y t')) Q E s) : wpAny (model prog w) A (binaryOp op v u) Q E s := onS_v (G := fun v u => wpAny (model prog w) A (binaryOp op v u) Q E s) e ha hb H
theorem cI_v {α : Type} {op : CmpOp} {f : Int → Int → Option α} {X : List Addr} {a b : Dt} {v u : Value} {r : α} {Q : Value → Shared → Prop} (e : onI f a b = some r) (ha : V s.heap X a v) (hb : V s.heap X b u) (H : ∀ x y t t', f x y = some r → wpAny (model prog w) A (compareOp op (.int x t) (.int y t')) Q E s) : wpAny (model prog w) A (compareOp op v u) Q E s := onI_v (G := fun v u => wpAny (model prog w) A (compareOp op v u) Q E s) e ha hb H
theorem bI_v {α : Type} {op : Operator} {f : Int → Int → Option α} {X : List Addr} {a b : Dt} {v u : Value} {r : α} {Q : Value → Shared → Prop} (e : onI f a b = some r) (ha : V s.heap X a v) (hb : V s.heap X b u) (H : ∀ x y t t', f x y = some r → wpAny (model prog w) A (binaryOp op (.int x t) (.int y t')) Q E s) : wpAny (model prog w) A (binaryOp op v u) Q E s := onI_v (G := fun v u => wpAny (model prog w) A (binaryOp op v u) Q E s) e ha hb H
theorem okD {s' : Shared} {X : List Addr} {d0 d : Dt} {v : Value} (e : some d0 = some d) (p : Keeps s s' ∧ V s'.heap X d0 v) : Keeps s s' ∧ V s'.heap X d v := by
  cases e; exact p
theorem okI {X : List Addr} {d : Dt} {n : Int} {t : Tok} {tk : Nat} (e : some (Dt.int n) = some d) : Keeps s { s with toks := tk } ∧ V s.heap X d (.int n t) := by
  cases e; exact ⟨Keeps.tok _, Exists.intro _ rfl⟩
theorem okS {X : List Addr} {d : Dt} {n : Str} {t : Tok} {tk : Nat} (e : some (Dt.str n) = some d) : Keeps s { s with toks := tk } ∧ V s.heap X d (.str n t) := by
  cases e; exact ⟨Keeps.tok _, Exists.intro _ rfl⟩
theorem okB {X : List Addr} {d : Dt} {n : List UInt8} {b : Array UInt8} {t : Tok} {tk : Nat} (e : some (Dt.bytes n) = some d) (hb : b = n.toArray) : Keeps s { s with toks := tk } ∧ V s.heap X d (.bytes b t) := by
  cases e; exact ⟨Keeps.tok _, Exists.intro t (by rw [hb])⟩
theorem ob {b k : Bool} {Q : Value → Shared → Prop} (e : some b = some k) (h : Q (.bool k) s) : Q (.bool b) s := by
  cases e; exact h
theorem binD_sound {X : List Addr} {op : Operator} {a b d : Dt} {v u : Value} (e : binD op a b = some d) (L : Live s.heap X) (ha : V s.heap X a v) (hb : V s.heap X b u) :
    wpAny (model prog w) A (binaryOp op v u) (fun r s' => Keeps s s' ∧ V s'.heap X d r) E s := by
  cases op with
  | Add =>
    cases a with
    | int _ =>
      refine bI_v (f := iAdd) (show onI iAdd (.int _) b = some d from e) ha hb fun x y t t' e => ?_
      exact PyProof.Rows.add_int (okI e)
    | str _ =>
      refine bS_v (f := sAdd) (show onS sAdd (.str _) b = some d from e) ha hb fun x y t t' e => ?_
      exact PyProof.Rows.add_str (hsz := Nat.le_trans (ite_x e).1 (by decide)) fun t' tk => okS (ite_x e).2
    | bytes _ =>
      refine bB_v (f := bAdd) (show onB bAdd (.bytes _) b = some d from e) ha hb fun x y t t' e => ?_
      exact KBy.add_bytes (by simp only [List.size_toArray]; exact Nat.le_trans (ite_x e).1 (by decide)) fun t' tk => okB (ite_x e).2 (by rw [List.append_toArray])
    | list _ =>
      obtain ⟨x, y, hx, rfl, e⟩ := onL_x (show onL lAdd (.list _) b = some d from e)
      obtain ⟨hc, e⟩ := ite_x e
      obtain rfl := Option.some.inj e
      obtain rfl := Dt.linj hx
      obtain ⟨a, vs, rfl, hn, hl, hv⟩ := ha; obtain ⟨b, ws, rfl, hn', hl', hv'⟩ := hb
      exact add_listsR hl hl' ⟨Keeps.of_heap fun b o e => Heap.get?_push_of_some _ e, list_push L (hv.append hv')⟩ (by rw [hv.length, hv'.length]; exact Nat.le_trans hc (by decide))
    | _ => exact nope e
  | Sub =>
    refine bI_v (f := iSub) (show onI iSub a b = some d from e) ha hb fun x y t t' e => ?_
    exact PyProof.Rows.sub_int (okI e)
  | Mult =>
    cases a with
    | int _ =>
      refine bI_v (f := iMul) (show onI iMul (.int _) b = some d from e) ha hb fun x y t t' e => ?_
      exact PyProof.Rows.mul_int (hm := mulOk_small (ite_x e).1) (okI (ite_x e).2)
    | str x => cases b with
      | int n =>
        obtain ⟨hc, e⟩ := ite_x (show sMul x n = some d from e); obtain ⟨t, rfl⟩ := ha; obtain ⟨t', rfl⟩ := hb
        exact SB.mul (mulOk_str hc.1 hc.2.1 hc.2.2) fun t' tk => okS e
      | _ => exact nope e
    | bytes x => cases b with
      | int n =>
        obtain ⟨hc, e⟩ := ite_x (show bMul x n = some d from e); obtain ⟨t, rfl⟩ := ha; obtain ⟨t', rfl⟩ := hb
        exact bytes_mul_any hc.1 (by lia) (by lia) hc.2.1 fun t' tk => okB e rfl
      | _ => exact nope e
    | _ => exact nope e
  | FloorDiv =>
    refine bI_v (f := iFdv) (show onI iFdv a b = some d from e) ha hb fun x y t t' e => ?_
    exact PyProof.Rows.floordiv_int (ite_x e).1.1 (okI (ite_x e).2) (.inl (noPylong64 (ite_x e).1.2))
  | Mod =>
    refine bI_v (f := iMod) (show onI iMod a b = some d from e) ha hb fun x y t t' e => ?_
    exact mod_int' (ite_x e).1 (okI (ite_x e).2)
  | Pow =>
    refine bI_v (f := iPow) (show onI iPow a b = some d from e) ha hb fun x y t t' e => ?_
    exact pow_int_small (ite_x e).1.1 (Int.le_trans (ite_x e).1.2.1 (by decide)) (ite_x e).1.2.2 (okI (ite_x e).2)
  | LShift =>
    refine bI_v (f := iShl) (show onI iShl a b = some d from e) ha hb fun x y t t' e => ?_
    exact lshift_int_small (ite_x e).1.1 (Int.le_trans (ite_x e).1.2.1 (by decide)) (ite_x e).1.2.2 (okI (ite_x e).2)
  | RShift =>
    refine bI_v (f := iShr) (show onI iShr a b = some d from e) ha hb fun x y t t' e => ?_
    exact rshift_int (ite_x e).1 (okI (ite_x e).2)
  | BitAnd =>
    refine bI_v (f := iAnd) (show onI iAnd a b = some d from e) ha hb fun x y t t' e => ?_
    exact and_int (okI e)
  | BitOr =>
    refine bI_v (f := iOr) (show onI iOr a b = some d from e) ha hb fun x y t t' e => ?_
    exact or_int (okI e)
  | _ => exact nope e
end Mine
end
section
open PySem PySem.W PyProof.Rows
set_option maxRecDepth 100000
namespace Mine
namespace BF
theorem slot_lt : Slot "bytes" (cmpInfo .Lt).2.1 "bytes.__lt__" :=
  .of (owner := "bytes") (n := "__lt__") (by rw [typeLookup_type, builtinLookup_eq_fast]; kernel_rfl) (by decide +kernel) (by decide +kernel) (by decide +kernel)
    (by first | exact .inl (by decide +kernel) | exact .inr (by decide +kernel)) (by rw [isSubtype_type]; kernel_rfl)
theorem entry_lt : entryFor table "bytes.__lt__" = some Builtin.«bytes.__lt__» := entryFor_of_tree (by kernel_rfl)
theorem args_lt (a b : Value) : argsOk "bytes.__lt__" ⟨[a, b], []⟩ := by unfold argsOk; kernel_rfl
theorem slot_le : Slot "bytes" (cmpInfo .LtE).2.1 "bytes.__le__" :=
  .of (owner := "bytes") (n := "__le__") (by rw [typeLookup_type, builtinLookup_eq_fast]; kernel_rfl) (by decide +kernel) (by decide +kernel) (by decide +kernel)
    (by first | exact .inl (by decide +kernel) | exact .inr (by decide +kernel)) (by rw [isSubtype_type]; kernel_rfl)
theorem entry_le : entryFor table "bytes.__le__" = some Builtin.«bytes.__le__» := entryFor_of_tree (by kernel_rfl)
theorem args_le (a b : Value) : argsOk "bytes.__le__" ⟨[a, b], []⟩ := by unfold argsOk; kernel_rfl
theorem slot_gt : Slot "bytes" (cmpInfo .Gt).2.1 "bytes.__gt__" :=
  .of (owner := "bytes") (n := "__gt__") (by rw [typeLookup_type, builtinLookup_eq_fast]; kernel_rfl) (by decide +kernel) (by decide +kernel) (by decide +kernel)
    (by first | exact .inl (by decide +kernel) | exact .inr (by decide +kernel)) (by rw [isSubtype_type]; kernel_rfl)
theorem entry_gt : entryFor table "bytes.__gt__" = some Builtin.«bytes.__gt__» := entryFor_of_tree (by kernel_rfl)
theorem args_gt (a b : Value) : argsOk "bytes.__gt__" ⟨[a, b], []⟩ := by unfold argsOk; kernel_rfl
theorem slot_ge : Slot "bytes" (cmpInfo .GtE).2.1 "bytes.__ge__" :=
  .of (owner := "bytes") (n := "__ge__") (by rw [typeLookup_type, builtinLookup_eq_fast]; kernel_rfl) (by decide +kernel) (by decide +kernel) (by decide +kernel)
    (by first | exact .inl (by decide +kernel) | exact .inr (by decide +kernel)) (by rw [isSubtype_type]; kernel_rfl)
theorem entry_ge : entryFor table "bytes.__ge__" = some Builtin.«bytes.__ge__» := entryFor_of_tree (by kernel_rfl)
theorem args_ge (a b : Value) : argsOk "bytes.__ge__" ⟨[a, b], []⟩ := by unfold argsOk; kernel_rfl
open Builtin in
theorem gives_lt (b c : Array UInt8) (t u : Tok) : Gives («bytes.__lt__» ⟨[.bytes b t, .bytes c u], []⟩) (.val (.bool (Bytes.order b.toList c.toList == .lt))) := by
  refine .of_wp fun M A E s Q hq => ?_
  show wpAny M A (isInstance (.bytes c u) (.type "bytes") >>= fun r => _) _ E s
  refine wpAny_bind (wpAny_isInstance (typeIs_bytes s c u) F.sub_bytes_bytes ?_)
  exact wpAny_pure ⟨_, rfl, hq⟩
open Builtin in
theorem gives_le (b c : Array UInt8) (t u : Tok) : Gives («bytes.__le__» ⟨[.bytes b t, .bytes c u], []⟩) (.val (.bool (Bytes.order b.toList c.toList != .gt))) := by
  refine .of_wp fun M A E s Q hq => ?_
  show wpAny M A (isInstance (.bytes c u) (.type "bytes") >>= fun r => _) _ E s
  refine wpAny_bind (wpAny_isInstance (typeIs_bytes s c u) F.sub_bytes_bytes ?_)
  exact wpAny_pure ⟨_, rfl, hq⟩
open Builtin in
theorem gives_gt (b c : Array UInt8) (t u : Tok) : Gives («bytes.__gt__» ⟨[.bytes b t, .bytes c u], []⟩) (.val (.bool (Bytes.order b.toList c.toList == .gt))) := by
  refine .of_wp fun M A E s Q hq => ?_
  show wpAny M A (isInstance (.bytes c u) (.type "bytes") >>= fun r => _) _ E s
  refine wpAny_bind (wpAny_isInstance (typeIs_bytes s c u) F.sub_bytes_bytes ?_)
  exact wpAny_pure ⟨_, rfl, hq⟩
open Builtin in
theorem gives_ge (b c : Array UInt8) (t u : Tok) : Gives («bytes.__ge__» ⟨[.bytes b t, .bytes c u], []⟩) (.val (.bool (Bytes.order b.toList c.toList != .lt))) := by
  refine .of_wp fun M A E s Q hq => ?_
  show wpAny M A (isInstance (.bytes c u) (.type "bytes") >>= fun r => _) _ E s
  refine wpAny_bind (wpAny_isInstance (typeIs_bytes s c u) F.sub_bytes_bytes ?_)
  exact wpAny_pure ⟨_, rfl, hq⟩
end BF
variable {prog : Program} {w : World} {A : Around} {E : Value → Shared → Prop} {s : Shared}
section
variable {b c : List UInt8} {t u : Tok} {Q : Value → Shared → Prop}
theorem lt_bytesR (h : Q (.bool (Builtin.Bytes.order b c == .lt)) s) : wpAny (model prog w) A (compareOp .Lt (.bytes b.toArray t) (.bytes c.toArray u)) Q E s :=
  compareOp_gives (op := .Lt) (typeIs_bytes s _ t) (typeIs_bytes s _ u) BF.slot_lt BF.entry_lt (BF.args_lt _ _) (BF.gives_lt _ _ t u) (fun e => nomatch e) h
theorem le_bytesR (h : Q (.bool (Builtin.Bytes.order b c != .gt)) s) : wpAny (model prog w) A (compareOp .LtE (.bytes b.toArray t) (.bytes c.toArray u)) Q E s :=
  compareOp_gives (op := .LtE) (typeIs_bytes s _ t) (typeIs_bytes s _ u) BF.slot_le BF.entry_le (BF.args_le _ _) (BF.gives_le _ _ t u) (fun e => nomatch e) h
theorem gt_bytesR (h : Q (.bool (Builtin.Bytes.order b c == .gt)) s) : wpAny (model prog w) A (compareOp .Gt (.bytes b.toArray t) (.bytes c.toArray u)) Q E s :=
  compareOp_gives (op := .Gt) (typeIs_bytes s _ t) (typeIs_bytes s _ u) BF.slot_gt BF.entry_gt (BF.args_gt _ _) (BF.gives_gt _ _ t u) (fun e => nomatch e) h
theorem ge_bytesR (h : Q (.bool (Builtin.Bytes.order b c != .lt)) s) : wpAny (model prog w) A (compareOp .GtE (.bytes b.toArray t) (.bytes c.toArray u)) Q E s :=
  compareOp_gives (op := .GtE) (typeIs_bytes s _ t) (typeIs_bytes s _ u) BF.slot_ge BF.entry_ge (BF.args_ge _ _) (BF.gives_ge _ _ t u) (fun e => nomatch e) h
end
end Mine
namespace Mine
open PySem.SeqAt
section
variable {A : Around} {s : Shared}
theorem rcAt_bytes (b c : List UInt8) (t u : Tok) : RcAt A s (.bytes b.toArray t) (.bytes c.toArray u) (b == c) := fun prog w E Q h =>
  eq_bytes (by simpa using h)
theorem eqAt_bytes (b c : List UInt8) (t u : Tok) : EqAt A s (.bytes b.toArray t) (.bytes c.toArray u) (b == c) := fun prog w E Q h => by
  unfold eqBool
  refine wpAny_holding ?_
  refine wpAny_ite_split (fun hab => ?_) (fun _ => ?_)
  · have e := eq_of_beq hab
    injection e with e1 e2
    have e3 : b = c := by simpa using congrArg Array.toList e1
    subst e3
    rw [beq_self_eq_true] at h
    exact wpAny_bind (wpAny_rule (wpAny_pure h))
  · exact wpAny_bind (rcAt_bytes b c t u prog w E _ (wpAny_truthy_bool h))
end
end Mine
end
section
open PySem PySem.W PyProof.Rows
set_option maxRecDepth 100000
namespace Mine
open PySem.SeqAt
theorem sameL_x : ∀ (l m : List Dt), sameL l m = true → l.length = m.length ∧ ∀ (j : Nat) a b, l[j]? = some a → m[j]? = some b → sameD a b = true
  | [], m, e => by
    obtain rfl := List.isEmpty_iff.mp (show m.isEmpty = true from e)
    exact ⟨rfl, fun j a b h _ => nomatch h⟩
  | a :: l, m, e => by
    cases m with
    | nil => exact nomatch (show false = true from e)
    | cons b m =>
      obtain ⟨h1, h2⟩ := Bool.and_eq_true_iff.mp (show (sameD a b && sameL l m) = true from e)
      obtain ⟨h3, h4⟩ := sameL_x l m h2
      refine ⟨congrArg (· + 1) h3, fun j a' b' g1 g2 => ?_⟩
      cases j with
      | zero => cases g1; cases g2; exact h1
      | succ j => exact h4 j a' b' g1 g2
theorem dep_le_of_mem : ∀ {l : List Dt} {d : Dt}, d ∈ l → dep d ≤ depL l
  | d' :: l, d, h => by
    unfold depL
    rcases List.mem_cons.mp h with rfl | h
    · exact Nat.le_max_left _ _
    · exact Nat.le_trans (dep_le_of_mem h) (Nat.le_max_right _ _)
theorem all_t (n : Nat) : (List.range n).all (fun _ => true) = true := List.all_eq_true.mpr fun _ _ => rfl
theorem same_items {A : Around} {s : Shared} {X : List Addr} {l m : List Dt} {vs ws : List Value} {G : Value → Value → Prop} (hv : VL s.heap X l vs) (hw : VL s.heap X m ws) (e : sameL l m = true) (H : ∀ d1 d2 v u, d1 ∈ l → sameD d1 d2 = true → V s.heap X d1 v → V s.heap X d2 u → G v u) :
    (List.toArray vs).size = (List.toArray ws).size ∧ ∀ j (h1 : j < (List.toArray vs).size) (h2 : j < (List.toArray ws).size), G (List.toArray vs)[j] (List.toArray ws)[j] := by
  obtain ⟨hlen, hf⟩ := sameL_x l m e
  refine ⟨by rw [List.size_toArray, List.size_toArray, hv.length, hw.length, hlen], fun j h1 h2 => ?_⟩
  obtain ⟨d1, g1, v1⟩ := hv.get' (show vs[j]? = some (List.toArray vs)[j] from List.getElem?_eq_getElem h1)
  obtain ⟨d2, g2, v2⟩ := hw.get' (show ws[j]? = some (List.toArray ws)[j] from List.getElem?_eq_getElem h2)
  exact H d1 d2 _ _ (List.mem_of_getElem? g1) (hf j d1 d2 g1 g2) v1 v2
theorem same_at (s : Shared) (X : List Addr) : ∀ (n : Nat) (a b : Dt) (v u : Value) (A : Around), dep a < n → sameD a b = true → V s.heap X a v → V s.heap X b u → A.units + n < cLine → EqAt A s v u true ∧ RcAt A s v u true := by
  intro n
  induction n with
  | zero => intro a b v u A hd; exact absurd hd (Nat.not_lt_zero _)
  | succ n ih =>
    intro a b v u A hd e x y hu
    cases a with
    | int i => cases b with
      | int j => obtain ⟨t, rfl⟩ := x; obtain ⟨t', rfl⟩ := y; exact (show (i == j) = true from e) ▸ ⟨EqAt.int_int _ _ _ _, RcAt.int_int _ _ _ _⟩
      | _ => exact nof e
    | str i => cases b with
      | str j => obtain ⟨t, rfl⟩ := x; obtain ⟨t', rfl⟩ := y; exact (show (i == j) = true from e) ▸ ⟨EqAt.str_str _ _ _ _, RcAt.str_str _ _ _ _⟩
      | _ => exact nof e
    | bytes i => cases b with
      | bytes j => obtain ⟨t, rfl⟩ := x; obtain ⟨t', rfl⟩ := y; exact (show (i == j) = true from e) ▸ ⟨eqAt_bytes _ _ _ _, rcAt_bytes _ _ _ _⟩
      | _ => exact nof e
    | bool i => cases b with
      | bool j => obtain rfl : v = .bool i := x; obtain rfl : u = .bool j := y; exact (show (i == j) = true from e) ▸ ⟨EqAt.bool_bool _ _, RcAt.bool_bool _ _⟩
      | _ => exact nof e
    | list l => cases b with
      | list m =>
        obtain ⟨p, vs, rfl, _, hl, hv⟩ := x
        obtain ⟨q, ws, rfl, _, hm, hw⟩ := y
        have hd' : depL l + 1 < n + 1 := hd
        obtain ⟨hsz, hi⟩ := same_items (A := A) (G := fun v u => EqAt A.in1 s v u true) hv hw (show sameL l m = true from e) fun d1 d2 v u hm e v1 v2 => (ih d1 d2 v u A.in1 (Nat.lt_of_le_of_lt (dep_le_of_mem hm) (Nat.lt_of_succ_lt_succ hd')) e v1 v2 (by show A.units + 1 + n < cLine; lia)).1
        have rc : RcAt A s (.ref p) (.ref q) true := all_t _ ▸ RcAt.lists (e := fun _ => true) hl hm hsz (by lia) hi
        refine ⟨?_, rc⟩
        by_cases hpq : p = q
        · rw [hpq]; exact EqAt.same _
        · exact EqAt.of_refs hpq rc
      | _ => exact nof e
    | _ => exact nof e
variable {prog : Program} {w : World} {A : Around} {E : Value → Shared → Prop} {s : Shared}
theorem ne_lists {X : List Addr} {l m : List Dt} {v u : Value} {Q : Value → Shared → Prop} (e : sameD (.list l) (.list m) = true) (x : V s.heap X (.list l) v) (y : V s.heap X (.list m) u) (hu : A.units + dep (.list l) + 1 < cLine) (h : Q (.bool false) s) :
    wpAny (model prog w) A (compareOp .NotEq v u) Q E s := by
  obtain ⟨p, vs, rfl, _, hl, hv⟩ := x
  obtain ⟨q, ws, rfl, _, hm, hw⟩ := y
  have hu' : A.units + (depL l + 1) + 1 < cLine := hu
  obtain ⟨hsz, hi⟩ := same_items (A := A) (G := fun v u => EqAt A.in1 s v u true) hv hw (show sameL l m = true from e) fun d1 d2 v u hm e v1 v2 => (same_at s X (depL l + 1) d1 d2 v u A.in1 (Nat.lt_succ_of_le (dep_le_of_mem hm)) e v1 v2 (by show A.units + 1 + (depL l + 1) < cLine; lia)).1
  exact RcNeAt.lists (e := fun _ => true) hl hm hsz (by lia) hi prog w E Q (by rw [all_t]; exact h)
theorem cmpD_sound {X : List Addr} {op : CmpOp} {a b : Dt} {k : Bool} {v u : Value} {Q : Value → Shared → Prop} (e : cmpD op a b = some k) (ha : V s.heap X a v) (hb : V s.heap X b u) (hu : A.units + 100 < cLine) (h : Q (.bool k) s) :
    wpAny (model prog w) A (compareOp op v u) Q E s := by
  cases a with
  | int _ =>
    refine cI_v (f := cmpIn op) (show onI (cmpIn op) (.int _) b = some k from e) ha hb fun x y t t' e => ?_
    cases op with
    | Eq => exact PyProof.Rows.eq_int (ob e h)
    | NotEq => exact PyProof.Rows.ne_int (ob e h)
    | Lt => exact PyProof.Rows.lt_int (ob e h)
    | LtE => exact PyProof.Rows.le_int (ob e h)
    | Gt => exact PyProof.Rows.gt_int (ob e h)
    | GtE => exact PyProof.Rows.ge_int (ob e h)
    | _ => exact nope e
  | str _ =>
    refine cS_v (f := cmpSn op) (show onS (cmpSn op) (.str _) b = some k from e) ha hb fun x y t t' e => ?_
    cases op with
    | NotEq => exact PyProof.Rows.ne_str (ob e h)
    | _ => exact nope e
  | bytes _ =>
    refine cB_v (f := cmpBn op) (show onB (cmpBn op) (.bytes _) b = some k from e) ha hb fun x y t t' e => ?_
    cases op with
    | Eq => exact eq_bytes (by have := ob e h; simpa using this)
    | NotEq => exact ne_bytes (by have := ob e h; simpa using this)
    | Lt => exact lt_bytesR (ob e h)
    | LtE => exact le_bytesR (ob e h)
    | Gt => exact gt_bytesR (ob e h)
    | GtE => exact ge_bytesR (ob e h)
    | _ => exact nope e
  | list _ =>
    obtain ⟨x, y, hx, rfl, e⟩ := onL_x (show onL (cmpLn op) (.list _) b = some k from e)
    obtain rfl := Dt.linj hx
    cases op with
    | Eq =>
      obtain ⟨⟨hd, e1⟩, e⟩ := ite_x e
      exact (same_at s X (dep _ + 1) _ _ _ _ A (Nat.lt_succ_self _) e1 ha hb (by lia)).2 prog w E Q (ob e h)
    | NotEq =>
      obtain ⟨⟨hd, e1⟩, e⟩ := ite_x e
      exact ne_lists e1 ha hb (by lia) (ob e h)
    | _ => exact nope e
  | ty x => cases b with
    | ty y =>
      obtain rfl : v = .type x := ha
      obtain rfl : u = .type y := hb
      have ey : (Value.type x == Value.type y) = (x == y) := by
        by_cases q : x = y
        · subst q; simp
        · have q' : Value.type x ≠ Value.type y := fun z => q (by injection z)
          rw [beq_eq_false_iff_ne.mpr q, beq_eq_false_iff_ne.mpr q']
      cases op with
      | Is => refine wpAny_is_plain rfl ?_; rw [ey]; exact ob e h
      | IsNot => refine wpAny_isNot_plain rfl ?_; rw [ey]; exact ob e h
      | _ => exact nope e
    | _ => exact nope e
  | none => cases b with
    | none =>
      obtain rfl : v = .none := ha
      obtain rfl : u = .none := hb
      cases op with
      | Is => exact wpAny_is_self rfl (ob e h)
      | IsNot => exact wpAny_isNot_self rfl (ob e h)
      | _ => exact nope e
    | _ => exact nope e
  | bool _ => cases b with
    | none =>
      cases op with
      | Is =>
        obtain rfl : v = .bool _ := ha
        obtain rfl : u = .none := hb
        exact wpAny_is_other rfl (fun z => nomatch z) (ob e h)
      | _ => exact nope e
    | _ => exact nope e
  | _ => exact nope e
theorem truthD_sound {X : List Addr} {a : Dt} {k : Bool} {v : Value} {Q : Bool → Shared → Prop} (e : truthD a = some k) (ha : V s.heap X a v) (h : Q k s) : wpAny (model prog w) A (truthy v) Q E s := by
  unfold truthD at e
  split at e
  · cases e; unfold V at ha; subst ha; exact wpAny_truthy_bool h
  · cases e; unfold V at ha; obtain ⟨t, rfl⟩ := ha; exact truthy_int h
  · cases e; unfold V at ha; subst ha; exact wpAny_pure h
  · cases e
end Mine
end
section
open PySem PySem.W PyProof.Rows
set_option maxRecDepth 100000
namespace Mine
variable {prog : Program} {w : World} {A : Around} {E : Value → Shared → Prop} {s : Shared}
theorem allInts_eq : ∀ {l : List Dt} {ns : List Int}, allInts l = some ns → l = ns.map .int
  | [], ns, e => by unfold allInts at e; cases e; rfl
  | .int i :: r, ns, e => by
    unfold allInts at e
    obtain ⟨m, hm, rfl⟩ := Option.map_eq_some_iff.mp e
    rw [allInts_eq hm]; rfl
  | .none :: _, _, e => by unfold allInts at e; cases e
  | .bool _ :: _, _, e => by unfold allInts at e; cases e
  | .str _ :: _, _, e => by unfold allInts at e; cases e
  | .bytes _ :: _, _, e => by unfold allInts at e; cases e
  | .ty _ :: _, _, e => by unfold allInts at e; cases e
  | .opq _ :: _, _, e => by unfold allInts at e; cases e
  | .list _ :: _, _, e => by unfold allInts at e; cases e
  | .range _ :: _, _, e => by unfold allInts at e; cases e
theorem allStrs_vals {h : Heap} {X : List Addr} : ∀ {l : List Dt} {ss : List Str} {vs : List Value}, allStrs l = some ss → VL h X l vs → ∃ p : List (Str × Tok), vs = strValues p ∧ p.map (·.1) = ss
  | [], ss, vs, e, x => by unfold allStrs at e; cases e; unfold VL at x; subst x; exact ⟨[], rfl, rfl⟩
  | .str y :: r, ss, vs, e, x => by
    unfold allStrs at e
    obtain ⟨m, hm, rfl⟩ := Option.map_eq_some_iff.mp e
    unfold VL V at x
    obtain ⟨v, t, rfl, ⟨k, rfl⟩, z⟩ := x
    obtain ⟨p, rfl, hp⟩ := allStrs_vals hm z
    exact ⟨(y, k) :: p, rfl, by rw [List.map_cons, hp]⟩
  | .none :: _, _, _, e, _ => by unfold allStrs at e; cases e
  | .bool _ :: _, _, _, e, _ => by unfold allStrs at e; cases e
  | .int _ :: _, _, _, e, _ => by unfold allStrs at e; cases e
  | .bytes _ :: _, _, _, e, _ => by unfold allStrs at e; cases e
  | .ty _ :: _, _, _, e, _ => by unfold allStrs at e; cases e
  | .opq _ :: _, _, _, e, _ => by unfold allStrs at e; cases e
  | .list _ :: _, _, _, e, _ => by unfold allStrs at e; cases e
  | .range _ :: _, _, _, e, _ => by unfold allStrs at e; cases e
theorem VL.one {h : Heap} {X : List Addr} {d : Dt} {vs : List Value} (x : VL h X [d] vs) : ∃ v, vs = [v] ∧ V h X d v := by
  unfold VL at x
  obtain ⟨v, r, rfl, y, z⟩ := x
  unfold VL at z
  subst z
  exact ⟨v, rfl, y⟩
theorem sum_R {l : Addr} {vs : List Value} {ns : List Int} {Q : Value → Shared → Prop} (hl : s.heap.IsList l vs.toArray) (hi : IntsAre vs ns) (hh : A.handled = none)
    (h : ∀ h' tk t', Ext s.heap h' → Q (.int ns.sum t') { s with heap := h', toks := tk }) : wpAny (model prog w) A (call (.builtin "sum") [.ref l]) Q E s := by
  refine call_sum_walkG (wpAny_pyIter_list hl ?_)
  obtain ⟨o, ho, hr⟩ := id hl
  have hlt : l < s.heap.objs.size := Heap.lt_size ho
  refine ⟨s.heap.objs.size, [s.heap.objs.size, l], [s.heap.objs.size], vs.toArray.size, _, _, fun j => ns.getD j 0, rfl, Walks.list (A := A.in1) hh _ l (Nat.ne_of_lt hlt) vs.toArray,
    ⟨⟨_, Heap.get?_push_size _ rfl, rfl, rfl⟩, hl.push _⟩, ?_, fun i v e => ?_, fun h' tk t' hk => ?_⟩
  · intro b hb
    rw [Heap.size_push]
    rcases List.mem_cons.mp hb with rfl | hb
    · exact Nat.lt_succ_self _
    · rcases List.mem_cons.mp hb with rfl | hb
      · exact Nat.lt_succ_of_lt hlt
      · cases hb
  · have e' : vs[i]? = some v := by simpa using e
    have key : ∀ {vs : List Value} {ns : List Int}, IntsAre vs ns → ∀ {i : Nat} {v : Value}, vs[i]? = some v → ∃ t, v = .int (ns.getD i 0) t := by
      intro vs ns hi
      induction hi with
      | nil => intro i v e; simp at e
      | cons n t r ih =>
        intro i v e
        cases i with
        | zero => simp at e; subst e; exact ⟨t, by simp⟩
        | succ i => simp at e; simpa using ih e
    exact key hi e'
  · have hsz : vs.toArray.size = ns.length := by rw [List.size_toArray]; exact hi.length
    have e := PySem.W.KBmo.pre_take ns ns.length (Nat.le_refl _)
    rw [hsz, e, List.take_length]
    refine h h' tk t' fun b o' e => hk b o' (fun q => ?_) (Heap.get?_push_of_some _ e)
    rcases List.mem_cons.mp q with rfl | q
    · exact Nat.lt_irrefl _ (Heap.lt_size e)
    · cases q
noncomputable def bltV (f : Str) : Option Value :=
  if f == Str.ofString "len" then some (.builtin "len")
  else if f == Str.ofString "range" then some (.type "range")
  else if f == Str.ofString "sum" then some (.builtin "sum")
  else if f == Str.ofString "bytes" then some (.type "bytes")
  else if f == Str.ofString "chr" then some (.builtin "chr")
  else if f == Str.ofString "type" then some (.type "type")
  else Option.none
theorem V.one {h : Heap} {X : List Addr} {d : Dt} {vs : List Value} {M : Model} {Q : Value → Shared → Prop} {fv : Value} (ha : VL h X [d] vs) (H : ∀ v, V h X d v → wpAny M A (call fv [v]) Q E s) : wpAny M A (call fv vs) Q E s := by
  obtain ⟨v, rfl, hv⟩ := ha.one; exact H v hv
theorem len_sound {X : List Addr} {a d : Dt} {v fv : Value} (e : lenD a = some d) (hf : some (Value.builtin "len") = some fv) (hv : V s.heap X a v) : wpAny (model prog w) A (call fv [v]) (fun r s' => Keeps s s' ∧ V s'.heap X d r) E s := by
  cases hf
  cases a with
  | list l =>
    obtain ⟨hc, e⟩ := ite_x e
    obtain ⟨a, ws, rfl, _, hl, hw⟩ := hv
    have hz : (List.toArray ws).size = l.length := by rw [List.size_toArray, hw.length]
    exact PySem.Calls.call_len_list hl (by rw [hz]; lia) (by rw [hz]; exact okI e)
  | bytes b =>
    obtain ⟨hc, e⟩ := ite_x e
    obtain ⟨t, rfl⟩ := hv
    exact len_bytes (by rw [List.size_toArray]; exact Nat.le_trans hc (by decide)) (by rw [List.size_toArray]; exact okI e)
  | _ => exact nope e
theorem range_sound {X : List Addr} {a d : Dt} {v fv : Value} (e : rangeD a = some d) (hf : some (Value.type "range") = some fv) (L : Live s.heap X) (hv : V s.heap X a v) : wpAny (model prog w) A (call fv [v]) (fun r s' => Keeps s s' ∧ V s'.heap X d r) E s := by
  cases hf
  cases a with
  | int n =>
    obtain ⟨hn, e⟩ := ite_x e
    cases e
    obtain ⟨t, rfl⟩ := hv
    refine call_range_1 ⟨Keeps.heap' _ fun b o e => Heap.get?_push_of_some _ e, ?_⟩
    refine Exists.intro s.heap.objs.size (Exists.intro s.toks (Exists.intro t (Exists.intro (s.toks + 1) ⟨rfl, fun q => ?_, ?_⟩)))
    · obtain ⟨o, ho⟩ := L _ q
      exact absurd (Heap.lt_size ho) (Nat.lt_irrefl _)
    · rw [Int.toNat_of_nonneg hn.1]
      exact IsRange.new _ _ _ _ _ _ _
  | _ => exact nope e
theorem sum_sound {X : List Addr} {a d : Dt} {v fv : Value} (e : sumD a = some d) (hf : some (Value.builtin "sum") = some fv) (hv : V s.heap X a v) (hh : A.handled = none) : wpAny (model prog w) A (call fv [v]) (fun r s' => Keeps s s' ∧ V s'.heap X d r) E s := by
  cases hf
  cases a with
  | list l =>
    obtain ⟨hc, e⟩ := ite_x e
    obtain ⟨ns, hns, rfl⟩ := Option.map_eq_some_iff.mp e
    obtain ⟨a, ws, rfl, _, hl, hw⟩ := hv
    rw [allInts_eq hns] at hw
    exact sum_R hl hw.ints hh fun h' tk t' k => ⟨Keeps.heap' _ k, Exists.intro _ rfl⟩
  | _ => exact nope e
theorem bytes_sound {X : List Addr} {a d : Dt} {v fv : Value} (e : bytesD a = some d) (hf : some (Value.type "bytes") = some fv) (hv : V s.heap X a v) (hh : A.handled = none) : wpAny (model prog w) A (call fv [v]) (fun r s' => Keeps s s' ∧ V s'.heap X d r) E s := by
  cases hf
  cases a with
  | list l =>
    obtain ⟨hc, e⟩ := ite_x e
    obtain ⟨ns, hns, e⟩ := Option.bind_eq_some_iff.mp e
    obtain ⟨hall, e⟩ := ite_x e
    cases e
    obtain ⟨a, ws, rfl, _, hl, hw⟩ := hv
    have hlen : ws.length ≤ sizeLine := by rw [hw.length]; exact Nat.le_trans hc (by decide)
    rw [allInts_eq hns] at hw
    exact call_bytes_ints hl hw.ints (fun n hn => of_decide_eq_true (List.all_eq_true.mp hall n hn)) hlen hh fun h' t k hk => ⟨Keeps.heap' _ hk, Exists.intro t rfl⟩
  | _ => exact nope e
theorem chr_sound {X : List Addr} {a d : Dt} {v fv : Value} (e : chrD a = some d) (hf : some (Value.builtin "chr") = some fv) (hv : V s.heap X a v) : wpAny (model prog w) A (call fv [v]) (fun r s' => Keeps s s' ∧ V s'.heap X d r) E s := by
  cases hf
  cases a with
  | int n =>
    obtain ⟨hn, e⟩ := ite_x e
    obtain ⟨t, rfl⟩ := hv
    exact P.chr_of_int (by simp only [Bool.or_eq_false_iff, decide_eq_false_iff_not]; lia) (okS e)
  | _ => exact nope e
theorem type_sound {X : List Addr} {a d : Dt} {v fv : Value} (e : typeD a = some d) (hf : some (Value.type "type") = some fv) (hv : V s.heap X a v) : wpAny (model prog w) A (call fv [v]) (fun r s' => Keeps s s' ∧ V s'.heap X d r) E s := by
  cases hf
  cases a with
  | bytes _ =>
    obtain ⟨t, rfl⟩ := hv; cases e
    exact call_type_of (typeIs_bytes s _ t) (by decide) ⟨Keeps.refl' s, Eq.refl _⟩
  | str _ =>
    obtain ⟨t, rfl⟩ := hv; cases e
    exact call_type_of (typeIs_str s _ t) (by decide) ⟨Keeps.refl' s, Eq.refl _⟩
  | bool b =>
    obtain rfl : v = .bool b := hv
    cases e
    exact call_type_of (Tx := "bool") rfl (by decide) ⟨Keeps.refl' s, Eq.refl _⟩
  | _ => exact nope e
theorem if2 {α β : Type} {c : Bool} {x y : Option α} {p q : Option β} {d : α} {f : β} {G : Prop} (e : (if c = true then x else y) = some d) (hf : (if c = true then p else q) = some f) (H1 : x = some d → p = some f → G) (H2 : y = some d → q = some f → G) : G := by
  cases c with
  | true => exact H1 e hf
  | false => exact H2 e hf
theorem bltD_sound {X : List Addr} {f : Str} {args : List Dt} {d : Dt} {vs : List Value} {fv : Value} (e : bltD f args = some d) (hf : bltV f = some fv) (L : Live s.heap X) (ha : VL s.heap X args vs) (hh : A.handled = none) :
    wpAny (model prog w) A (call fv vs) (fun r s' => Keeps s s' ∧ V s'.heap X d r) E s := by
  have go : ∀ g : Dt → Option Dt, on1 g args = some d → (∀ a v, g a = some d → V s.heap X a v → wpAny (model prog w) A (call fv [v]) (fun r s' => Keeps s s' ∧ V s'.heap X d r) E s) → wpAny (model prog w) A (call fv vs) (fun r s' => Keeps s s' ∧ V s'.heap X d r) E s := fun g h H => by
    obtain ⟨a, rfl, e2⟩ := on1_x h
    exact V.one ha fun v hv => H a v e2 hv
  exact if2 e hf (fun e hf => go _ e fun _ _ e hv => len_sound e hf hv) fun e hf => if2 e hf (fun e hf => go _ e fun _ _ e hv => range_sound e hf L hv) fun e hf => if2 e hf (fun e hf => go _ e fun _ _ e hv => sum_sound e hf hv hh)
    fun e hf => if2 e hf (fun e hf => go _ e fun _ _ e hv => bytes_sound e hf hv hh) fun e hf => if2 e hf (fun e hf => go _ e fun _ _ e hv => chr_sound e hf hv) fun e hf => if2 e hf (fun e hf => go _ e fun _ _ e hv => type_sound e hf hv) fun e _ => nope e
theorem filterMap_idx {h : Heap} {X : List Addr} {l : List Dt} {vs : List Value} (x : VL h X l vs) : ∀ is : List Nat, VL h X (is.filterMap fun i => l[i]?) (is.filterMap fun i => vs[i]?)
  | [] => by unfold VL; rfl
  | i :: is => by
    have ih := filterMap_idx x is
    cases e : l[i]? with
    | none =>
      have e' : vs[i]? = Option.none := by
        rw [List.getElem?_eq_none_iff] at e ⊢; rw [x.length]; exact e
      rw [List.filterMap_cons_none e, List.filterMap_cons_none e']; exact ih
    | some d =>
      obtain ⟨v, hv, y⟩ := x.get e
      rw [List.filterMap_cons_some e, List.filterMap_cons_some hv]
      unfold VL; exact ⟨v, _, rfl, y, ih⟩
theorem itemD_x {a b d : Dt} (e : itemD a b = some d) : ∃ i, b = .int i ∧ itemI a i = some d := by
  cases b with
  | int i => exact ⟨i, rfl, e⟩
  | _ => exact nope e
theorem itemD_sound {X : List Addr} {a b d : Dt} {v u : Value} {Q : Value → Shared → Prop} (e : itemD a b = some d) (ha : V s.heap X a v) (hb : V s.heap X b u)
    (h : ∀ r s', Keeps s s' → V s'.heap X d r → Q r s') : wpAny (model prog w) A (getItem v u) Q E s := by
  obtain ⟨i, rfl, e⟩ := itemD_x e
  obtain ⟨t, rfl⟩ := hb
  cases a with
  | list l =>
    obtain ⟨hle, e⟩ := ite_x e
    obtain ⟨k, hk, e2⟩ := Option.bind_eq_some_iff.mp e
    obtain ⟨p, ws, rfl, _, hl, hw⟩ := ha
    obtain ⟨r, hr, hv⟩ := hw.get e2
    have hlen := hw.length
    unfold placeD at hk
    split at hk
    · rename_i hc; cases hk
      exact wpAny_getItem_list hl hc.1 (by lia) (by simpa using hr) (h r s (Keeps.refl' s) hv)
    · split at hk
      · rename_i hc; cases hk
        refine wpAny_getItem_list_neg hl hc.1 (by rw [List.size_toArray]; lia) (by lia) ?_ (h r s (Keeps.refl' s) hv)
        rw [List.size_toArray, hlen]; simpa using hr
      · cases hk
  | str x =>
    obtain ⟨hc, e⟩ := ite_x e
    obtain ⟨t', rfl⟩ := ha
    have hlt : i.toNat < x.cps.size := by have : x.length = x.cps.size := rfl; lia
    refine P.getItem_str (c := x.cps.getD i.toNat 0) (by simp only [Bool.or_eq_false_iff, decide_eq_false_iff_not]; lia) ?_ (let q := fun t => okS (X := X) (t := t) e; h _ _ (q _).1 (q _).2)
    have hn : ¬ i < 0 := by lia
    have e1 : seqIndex? i x.length = some i.toNat := by simp [seqIndex?, hn, hc.1, hc.2.1]
    rw [e1]
    simp [hlt, Array.getD]
  | bytes x =>
    obtain ⟨hc, e⟩ := ite_x e
    obtain ⟨t', rfl⟩ := ha
    exact PySem.W.getItem_bytes (by lia) hc.1 hc.2.1 (let q := fun t => okI (X := X) (t := t) e; h _ _ (q _).1 (q _).2)
  | _ => exact nope e
theorem item_type {X : List Addr} {a b d : Dt} {v : Value} (e : itemD a b = some d) (ha : V s.heap X a v) : ∃ T id, s.TypeIs v T ∧ typeLookup (.type T) "__getitem__" = pure (some (.builtin id)) := by
  obtain ⟨i, rfl, e⟩ := itemD_x e
  cases a with
  | list _ =>
    obtain ⟨p, ws, rfl, _, hl, hw⟩ := ha
    exact ⟨_, _, hl.typeIs, slot_list_getitem.lookup⟩
  | str _ =>
    obtain ⟨t', rfl⟩ := ha
    exact ⟨_, _, typeIs_str s _ _, PySem.F.slot_str_getitem.lookup⟩
  | bytes _ =>
    obtain ⟨t', rfl⟩ := ha
    exact ⟨_, _, typeIs_bytes s _ _, FB.slot_bytes_getitem.lookup⟩
  | _ => exact nope e
end Mine
end
section
open PySem PySem.W PyProof.Rows
set_option maxRecDepth 100000
namespace Mine
noncomputable def ScOk (sc : List (Str × NameKind)) (env : Env) : Prop := ∀ x k, sc.lookup x = some k → env.kindOf x = some k ∨ (k = .free ∧ env.kindOf x = some .cell)
structure EnvOk (h : Heap) (X : List Addr) (env : Env) (ρ : List (Str × Dt)) : Prop where
  kind : env.scope.kind = .function
  glob : env.globals = mainGlobals
  blt : env.builtins = builtinsNs
  inX : env.locals ∈ X
  live : Live h X
  loc : ∃ m, h.Ns env.locals m ∧ ∀ x d, ρ.lookup x = some d → env.kindOf x = some .local → ∃ v, m x = some v ∧ V h X d v
  cel : ∀ x, (env.kindOf x = some .cell ∨ env.kindOf x = some .free) → ∃ c ov, env.cells.lookup x = some c ∧ h.IsCell c ov ∧ c ∈ X ∧ ∀ d, ρ.lookup x = some d → ∃ v, ov = some v ∧ V h X d v
theorem EnvOk.ext {h h' : Heap} {X : List Addr} {env : Env} {ρ : List (Str × Dt)} (x : EnvOk h X env ρ) (k : Ext h h') : EnvOk h' X env ρ where
  kind := x.kind
  glob := x.glob
  blt := x.blt
  inX := x.inX
  live := x.live.ext k
  loc := by
    obtain ⟨m, hn, hl⟩ := x.loc
    exact ⟨m, hn.keeps k, fun y d e hk => let ⟨v, a, b⟩ := hl y d e hk; ⟨v, a, b.ext k⟩⟩
  cel := fun y hy => by
    obtain ⟨c, ov, a, b, cx, e⟩ := x.cel y hy
    exact ⟨c, ov, a, b.keeps k, cx, fun d hd => let ⟨v, p, q⟩ := e d hd; ⟨v, p, q.ext k⟩⟩
structure Gd (K : Frag) (h : Heap) : Prop where
  kin : K.In h
  g : ∃ mg, h.Ns mainGlobals mg
  b : ∃ mb, h.Ns builtinsNs mb ∧ ∀ x : Str, x ≠ "__name__" → mb x = bootBuiltins x
  lim : h.NoLimit
theorem Gd.ext {K : Frag} {h h' : Heap} (x : Gd K h) (k : Ext h h') : Gd K h' where
  kin := x.kin.keeps k
  g := let ⟨mg, e⟩ := x.g; ⟨mg, e.keeps k⟩
  b := let ⟨mb, e, r⟩ := x.b; ⟨mb, e.keeps k, r⟩
  lim := x.lim.keeps k
noncomputable def Rm (A : Around) (m : Nat) : Prop := A.handled = none ∧ A.depth + m < recursionLimit ∧ A.units + 100 * m + 200 < cLine
noncomputable def FnV (h : Heap) : Value → Prop
  | .ref a => ∃ o fd, h.get? a = some o ∧ o.data = .func fd
  | .builtin _ => True
  | .type _ => True
  | _ => False
theorem FnV.keeps {M : Model} {h : Heap} {f : Value} (x : FnV h f) : ∃ k, (k = Keeper.frame ∨ k = Keeper.machine ∨ k = Keeper.boundFrame) ∧ Looks M h (keeperOf f) k := by
  cases f with
  | ref a =>
    obtain ⟨o, fd, ho, hd⟩ := x
    refine ⟨.frame, .inl rfl, ?_⟩
    intro A Q E s k q
    unfold keeperOf
    refine wpAny_bind (wpAny_load (k _ _ ho) ?_)
    rw [hd]; exact wpAny_pure q
  | builtin _ => exact ⟨.machine, .inr (.inl rfl), Looks.of_pure rfl⟩
  | type _ => exact ⟨.machine, .inr (.inl rfl), Looks.of_pure rfl⟩
  | _ => exact x.elim
noncomputable def tyNames : List Str := [Str.ofString "bytes", Str.ofString "str", Str.ofString "bool", Str.ofString "bytearray"]
noncomputable def CG (K : Frag) (cf : Orc) : Prop := ∀ x d, cf.gl x = some d → ∃ v, nsIn K mainGlobals x = some (some v) ∧ ∀ h X, V h X d v
noncomputable def CF (K : Frag) (prog : Program) (w : World) (m : Nat) (cf : Orc) : Prop :=
  ∀ f ds ks d, cf.fn f ds ks = some d → ∃ fv, nsIn K mainGlobals f = some (some fv) ∧ (∀ h, K.In h → FnV h fv) ∧
    ∀ (A : Around) (E : Value → Shared → Prop) (s : Shared) (X : List Addr) (vs kvs : List Value), Rm A m → Gd K s.heap → Live s.heap X → VL s.heap X ds vs → VL s.heap X (ks.map (·.2)) kvs →
      wpAny (model prog w) A (call fv vs ((ks.map (·.1)).zip kvs)) (fun r s' => Keeps s s' ∧ V s'.heap X d r) E s
section
variable {M : Model} {A : Around} {E : Value → Shared → Prop} {s : Shared} {env : Env}
theorem glob_name {K : Frag} {X : List Addr} {ρ : List (Str × Dt)} {x : Str} {pos : Pos} {v : Value} {Q : Value → Shared → Prop} (G : Gd K s.heap) (N : EnvOk s.heap X env ρ) (hx : env.kindOf x = some .globalImplicit)
    (e : nsIn K mainGlobals x = some (some v)) (hd : (x == Str.ofString "__debug__") = false) (h : Q v s) : wpAny M A (eval (.Name x pos) env) Q E s := by
  obtain ⟨mg, hg⟩ := G.g
  refine PySem.Calls.Name_function_global N.kind hx (PySem.Calls.loadGlobal_global (mg := mg) ?_ (mg_of G.kin hg e) h) hd
  rw [N.glob]; exact hg
theorem blt_name {K : Frag} {X : List Addr} {ρ : List (Str × Dt)} {x : Str} {pos : Pos} {v : Value} {Q : Value → Shared → Prop} (G : Gd K s.heap) (N : EnvOk s.heap X env ρ) (hx : env.kindOf x = some .globalImplicit)
    (e : nsIn K mainGlobals x = some Option.none) (hv : bootBuiltins x = some v) (hn : x ≠ "__name__") (hd : (x == Str.ofString "__debug__") = false) (h : Q v s) : wpAny M A (eval (.Name x pos) env) Q E s := by
  obtain ⟨mg, hg⟩ := G.g
  obtain ⟨mb, hb, hbb⟩ := G.b
  refine PySem.Calls.Name_function_global N.kind hx (PySem.Calls.loadGlobal_builtin (mg := mg) (mb := mb) ?_ (mg_none_of G.kin hg e) ?_ ((hbb x hn).trans hv) h) hd
  · rw [N.glob]; exact hg
  · rw [N.blt]; exact hb
theorem loc_load {X : List Addr} {ρ : List (Str × Dt)} {sc : List (Str × NameKind)} {x : Str} {d : Dt} {Q : Value → Shared → Prop} (S : ScOk sc env) (N : EnvOk s.heap X env ρ) (hl : isLoc sc x = true) (e : ρ.lookup x = some d)
    (hc : (x == ("__classdict__" : Str)) = false) (h : ∀ v, V s.heap X d v → Q v s) : wpAny M A (loadName env x) Q E s := by
  unfold isLoc at hl
  have cell : (env.kindOf x = some .cell ∨ env.kindOf x = some .free) → wpAny M A (loadName env x) Q E s := fun hk => by
    obtain ⟨c, ov, a, b, _, r⟩ := N.cel x hk
    obtain ⟨v, rfl, hv⟩ := r d e
    rcases hk with hk | hk
    · exact wpAny_loadName_cell N.kind hk a b (h v hv)
    · exact wpAny_loadName_free N.kind hk a b (h v hv) hc
  split at hl
  · rename_i q
    rcases S x _ q with k | k
    · obtain ⟨m, hn, hm⟩ := N.loc
      obtain ⟨v, a, b⟩ := hm x d e k
      exact wpAny_loadName_local N.kind k hn a (h v b)
    · cases k.1
  · rename_i q
    rcases S x _ q with k | k
    · exact cell (.inl k)
    · cases k.1
  · rename_i q
    rcases S x _ q with k | k
    · exact cell (.inr k)
    · exact cell (.inl k.2)
  · cases hl
end
theorem notStar_ev {cf : Orc} {n : Nat} {sc : List (Str × NameKind)} {ρ : List (Str × Dt)} {e : Expr} {d : Dt} (h : ev cf n sc ρ e = some d) (r : List Expr) (env : Env) : starEach (e :: r) env = (false, eval e env) :: starEach r env := by
  cases n with
  | zero => cases h
  | succ n =>
    cases e with
    | Starred _ _ => exact nope h
    | _ => rfl
theorem backTo_cons (pos : Pos) (t : Sem Value) (r : List (Bool × Sem Value)) : backTo pos ((false, t) :: r) = (false, t) :: backTo pos r := rfl
theorem noMarks {cf : Orc} {n : Nat} {sc : List (Str × NameKind)} {ρ : List (Str × Dt)} {e : Expr} {d : Dt} (h : ev cf n sc ρ e = some d) (op : CmpOp) : behindInMarks op e = false := by
  cases n with
  | zero => cases h
  | succ n =>
    cases e with
    | Set _ _ _ => exact nope h
    | _ => rfl
section
variable {M : Model} {A : Around} {E : Value → Shared → Prop} {s : Shared}
theorem evalArgs_any {f : Value} {args : List (Bool × Sem Value)} {keywords : List (Option Str × Sem Value)} {Q : Args → Shared → Prop} (hp : args.any (·.1) = false) (hall : keywords.all (·.1.isSome) = true)
    (h : wpAny M A (spliced args) (fun vs s₁ => wpAny M A (evalAll (keywords.map (·.2))) (fun ks s₂ => Q ⟨vs, (keywords.filterMap (·.1)).zip ks⟩ s₂) E s₁) E s) : wpAny M A (evalArgs f true args keywords) Q E s := by
  cases args with
  | nil =>
    refine evalArgs_kw_nil hall ?_
    have h' : wpAny M A (pure [] : Sem (List Value)) (fun vs s₁ => wpAny M A (evalAll (keywords.map (·.2))) (fun ks s₂ => Q ⟨vs, (keywords.filterMap (·.1)).zip ks⟩ s₂) E s₁) E s := h
    intro Γ p hΓ
    exact (h' Γ p hΓ) Γ p hΓ
  | cons a r =>
    obtain ⟨st, x⟩ := a
    have : st = false := by
      cases st with
      | false => rfl
      | true => simp at hp
    subst this
    exact evalArgs_kw hall h
end
end Mine
end
section
open PySem PySem.W PyProof.Rows
set_option maxRecDepth 100000
namespace Mine
variable {prog : Program} {w : World} {A : Around} {E : Value → Shared → Prop} {s : Shared} {env : Env}
theorem fresh_none (h : Heap) {a : Addr} (ha : h.objs.size ≤ a) : h.get? a = Option.none := by
  cases e : h.get? a with
  | none => rfl
  | some o => exact absurd (Heap.lt_size e) (Nat.not_lt.mpr ha)
theorem wpAny_pyIter_strL {x : Str} {t : Tok} {Q : Value → Shared → Prop}
    (hQ : ∀ (o : Obj) (St : Nat → Heap → Prop), o.isFreed = false → (∀ i h, St i h → ∃ o, h.get? s.heap.objs.size = some o) → (∀ A' : Around, A'.handled = none → Walks prog w A' s.heap.objs.size [s.heap.objs.size] [s.heap.objs.size] x.cps.size (SignAt x) St) → St 0 (s.heap.push o) →
      Q (.ref s.heap.objs.size) { s with heap := s.heap.push o }) : wpAny (model prog w) A (pyIter (.str x t)) Q E s := by
  cases ha : x.cps.all (· < 128)
  · exact wpAny_pyIter_wide ha (hQ _ _ rfl (fun i h st => let ⟨o, ho, _⟩ := st; ⟨o, ho⟩) (fun A' hA => Walks.strWide hA _ x t) ⟨_, Heap.get?_push_size _ rfl, rfl, rfl⟩)
  · exact wpAny_pyIter_ascii ha (hQ _ _ rfl (fun i h st => let ⟨o, ho, _⟩ := st; ⟨o, ho⟩) (fun A' hA => Walks.strAscii hA _ x t) ⟨_, Heap.get?_push_size _ rfl, rfl, rfl⟩)
theorem dec_lt {n i : Nat} (h : i < n) : n + 1 - (i + 1) < n + 1 - i := Nat.sub_lt_sub_left (Nat.lt_succ_of_lt h) (Nat.lt_succ_self i)
theorem noAt {h : Heap} {I b : Addr} {o : Obj} (hI : h.get? I = Option.none) (e : h.get? b = some o) : b ≠ I := fun q => by rw [q, hI] at e; cases e
inductive IterW (prog : Program) (w : World) (A : Around) (s : Shared) (X : List Addr) (it : Dt) (items : List Dt) (itv : Value) (s₂ : Shared) : Prop
  | mk (fp : List Addr) (P : Nat → Value → Prop) (St : Nat → Heap → Prop) (e : itv = .ref s.heap.objs.size) (W : Walks prog w A s.heap.objs.size fp [s.heap.objs.size] items.length P St) (h0 : St 0 s₂.heap)
    (hfp : ∀ b ∈ fp, b < s₂.heap.objs.size ∧ (b = s.heap.objs.size ∨ b ∉ X)) (o : ∃ o, s₂.heap = s.heap.push o ∧ s₂.heap.get? s.heap.objs.size = some o) (k : Keeps s s₂)
    (hlv : ∀ i h, St i h → ∃ o, h.get? s.heap.objs.size = some o) (hP : ∀ i u, P i u → ∃ d, items[i]? = some d ∧ V s.heap X d u)
    (hLI : (∃ l, it = .list l) → ∀ i h, St i h → ∃ l j, h.IsListIter s.heap.objs.size l j)
theorem IterW.of {X : List Addr} {it : Dt} {items : List Dt} {o : Obj} {fp : List Addr} {P : Nat → Value → Prop} {St : Nat → Heap → Prop} {n : Nat} (ho : o.isFreed = false) (en : items.length = n) (W : Walks prog w A s.heap.objs.size fp [s.heap.objs.size] n P St) (h0 : St 0 (s.heap.push o))
    (hf : ∀ b ∈ fp, b = s.heap.objs.size ∨ (b < s.heap.objs.size ∧ b ∉ X)) (hlv : ∀ i h, St i h → ∃ o, h.get? s.heap.objs.size = some o) (hP : ∀ i u, P i u → ∃ d, items[i]? = some d ∧ V s.heap X d u)
    (hLI : (∃ l, it = .list l) → ∀ i h, St i h → ∃ l j, h.IsListIter s.heap.objs.size l j) : IterW prog w A s X it items (.ref s.heap.objs.size) { s with heap := s.heap.push o } :=
  ⟨_, _, _, rfl, en ▸ W, h0, fun b hb => Heap.size_push s.heap o ▸ (hf b hb).elim (fun e => ⟨e ▸ Nat.lt_succ_self _, .inl e⟩) (fun q => ⟨Nat.lt_succ_of_lt q.1, .inr q.2⟩), ⟨o, rfl, Heap.get?_push_size _ ho⟩, Keeps.of_heap fun _ _ e => Heap.get?_push_of_some _ e, hlv, hP, hLI⟩
theorem IterW.one {X : List Addr} {a : Addr} (b : Addr) (hb : b ∈ [a]) : b = a ∨ (b < a ∧ b ∉ X) := .inl (List.mem_singleton.mp hb)
theorem iter_walks {X : List Addr} {it : Dt} {v : Value} {items : List Dt} (x : V s.heap X it v) (e : itemsD it = some items) (hh : A.handled = none) :
    wpAny (model prog w) A (pyIter v) (IterW prog w A s X it items) E s := by
  unfold itemsD at e
  split at e
  · cases e
    unfold V at x
    obtain ⟨a, vs, rfl, haX, hl, hv⟩ := x
    have hlt : a < s.heap.objs.size := let ⟨_, ho, _⟩ := hl; Heap.lt_size ho
    exact wpAny_pyIter_list hl (IterW.of rfl (by rw [List.size_toArray, hv.length]) (Walks.list hh _ a (Nat.ne_of_lt hlt) (List.toArray vs)) ⟨⟨_, Heap.get?_push_size _ rfl, rfl, rfl⟩, hl.push _⟩
      (fun b hb => (List.mem_cons.mp hb).imp id fun q => by rw [List.mem_singleton.mp q]; exact ⟨hlt, haX⟩) (fun i h st => let ⟨⟨o, ho, _⟩, _⟩ := st; ⟨o, ho⟩) (fun i u hu => hv.get' (by simpa using hu)) fun _ i h st => ⟨_, _, st.1⟩)
  · rename_i n
    split at e
    · rename_i hn
      cases e
      unfold V at x
      obtain ⟨a, t, u, w', rfl, _, hr⟩ := x
      have hs : Builtin.Range.small 0 (n : Int) 1 = true := by
        unfold Builtin.Range.small Builtin.Range.rangeFitsLong Builtin.Range.rangeSize
        simp
        lia
      have hz : Builtin.Range.rangeSize 0 (n : Int) 1 = (n : Int) := by
        unfold Builtin.Range.rangeSize
        simp
        lia
      refine wpAny_pyIter_range hr hs ?_
      rw [hz]
      refine IterW.of rfl (by rw [List.length_map, List.length_range]) (Walks.range hh _ 0 1 n).bound ?_ IterW.one (fun i h st => ⟨_, st⟩) (fun i v hv => ?_) fun q => nomatch q
      · show IsRangeIter _ _ _ _ _
        simpa using Heap.get?_push_size _ rfl
      · obtain ⟨hi, t', rfl⟩ := hv
        refine ⟨.int (i : Int), by simp [hi], ?_⟩
        unfold V
        exact ⟨t', by simp⟩
    · cases e
  · cases e
    unfold V at x
    obtain ⟨t, rfl⟩ := x
    rename_i b
    refine KBw.pyIter_bytes (IterW.of rfl (by simp) (KBw.walks hh _ b.toArray t) ⟨_, Heap.get?_push_size _ rfl, rfl, rfl⟩ IterW.one (fun i h st => let ⟨o, ho, _⟩ := st; ⟨o, ho⟩) (fun i v hv => ?_) fun q => nomatch q)
    obtain ⟨c, u, hc, rfl⟩ := hv
    have hc' : b[i]? = some c := by simpa using hc
    refine ⟨.int (c.toNat : Int), by rw [List.getElem?_map, hc']; rfl, ?_⟩
    unfold V
    exact ⟨u, rfl⟩
  · cases e
    unfold V at x
    obtain ⟨t, rfl⟩ := x
    rename_i y
    refine wpAny_pyIter_strL fun o St hfree hlv W h0 => IterW.of hfree (by simp) (W A hh) h0 IterW.one hlv (fun i v hv => ?_) fun q => nomatch q
    obtain ⟨c, u, hc, rfl⟩ := hv
    have hc' : y.cps.toList[i]? = some c := by simpa using hc
    refine ⟨.str ⟨#[c]⟩, by rw [List.getElem?_map, hc']; rfl, ?_⟩
    unfold V
    exact ⟨u, rfl⟩
  · cases e
end Mine
namespace Mine
noncomputable def clOf (cells : List (Str × Addr)) : List (Str × NameKind) → List (Str × Addr) → List (Str × Addr)
  | [], acc => acc
  | (n, k) :: r, acc => if k == .free then clOf cells r ((n, (cells.lookup n).getD 0) :: acc) else clOf cells r acc
theorem closure_go {env : Env} : ∀ (names : List (Str × NameKind)) (acc : List (Str × Addr)), (∀ n, (n, NameKind.free) ∈ names → ∃ c, env.cells.lookup n = some c) →
    (forIn names acc fun (x : Str × NameKind) (r : List (Str × Addr)) => (match x with
      | (name, kind) => if (kind == NameKind.free) = true then do let a ← cellOf env name; pure (ForInStep.yield ((name, a) :: r)) else pure (ForInStep.yield r) : Sem (ForInStep (List (Str × Addr))))) = pure (clOf env.cells names acc)
  | [], acc, _ => by rw [List.forIn_nil]; rfl
  | (n, k) :: r, acc, h => by
    rw [List.forIn_cons]
    by_cases hk : (k == NameKind.free) = true
    · have e : k = .free := by simpa using hk
      subst e
      obtain ⟨c, hc⟩ := h n (.head _)
      have hcell : cellOf env n = pure c := by unfold cellOf; rw [hc]
      simp only [hk, if_true, hcell, pure_bind]
      rw [closure_go r ((n, c) :: acc) fun m hm => h m (.tail _ hm)]
      conv => rhs; unfold clOf
      simp [hc]
    · simp only [hk, if_false, Bool.false_eq_true, pure_bind]
      rw [closure_go r acc fun m hm => h m (.tail _ hm)]
      conv => rhs; unfold clOf
      simp [hk]
theorem closureFor_cl {env : Env} {scope : Scope} (h : ∀ n, (n, NameKind.free) ∈ scope.names → ∃ c, env.cells.lookup n = some c) : closureFor scope env = pure (clOf env.cells scope.names []) := by
  unfold closureFor
  have := closure_go (env := env) scope.names [] h
  simpa using this
theorem clOf_lookup (cells : List (Str × Addr)) {n : Str} {c : Addr} (hc : cells.lookup n = some c) : ∀ (names : List (Str × NameKind)) (acc : List (Str × Addr)),
    (∀ d, acc.lookup n = some d → d = c) → ((n, NameKind.free) ∈ names ∨ acc.lookup n = some c) → (clOf cells names acc).lookup n = some c
  | [], acc, _, h => h.elim (fun q => nomatch q) id
  | (m, k) :: r, acc, ha, h => by
    unfold clOf
    by_cases hk : (k == NameKind.free) = true
    · rw [if_pos hk]
      refine clOf_lookup cells hc r _ ?_ ?_
      · intro d hd
        rw [List.lookup_cons] at hd
        cases hm : n == m with
        | true =>
          rw [hm] at hd
          rw [← beq_iff_eq.mp hm, hc] at hd
          simpa using hd.symm
        | false => rw [hm] at hd; exact ha d hd
      · rw [List.lookup_cons]
        cases hm : n == m with
        | true => right; simp only; rw [← beq_iff_eq.mp hm, hc]; rfl
        | false =>
          rcases h with h | h
          · rcases List.mem_cons.mp h with q | q
            · have : n = m := congrArg Prod.fst q
              rw [this] at hm; simp at hm
            · exact .inl q
          · exact .inr h
    · rw [if_neg hk]
      refine clOf_lookup cells hc r acc ha ?_
      rcases h with h | h
      · rcases List.mem_cons.mp h with q | q
        · have : NameKind.free = k := congrArg Prod.snd q
          rw [← this] at hk; simp at hk
        · exact .inl q
      · exact .inr h
theorem relabel_lookup (env : Env) (x : Str) : ∀ names : List (Str × NameKind), (names.map fun (n, k) => if (k == NameKind.free && env.scope.kind == .function && env.kindOf n == some .cell) then (n, NameKind.cell) else (n, k)).lookup x =
    (names.lookup x).map fun k => if (k == NameKind.free && env.scope.kind == .function && env.kindOf x == some .cell) then NameKind.cell else k
  | [] => rfl
  | (n, k) :: r => by
    have ih := relabel_lookup env x r
    rw [List.map_cons]
    cases hx : x == n with
    | true =>
      have e := beq_iff_eq.mp hx
      subst e
      by_cases hc : (k == NameKind.free && env.scope.kind == .function && env.kindOf x == some .cell) = true
      · simp only [hc, if_true, List.lookup_cons, beq_self_eq_true, Option.map_some]
      · simp only [hc, if_false, List.lookup_cons, beq_self_eq_true, Option.map_some, Bool.false_eq_true]
    | false =>
      rw [List.lookup_cons (b := k), hx]
      by_cases hc : (k == NameKind.free && env.scope.kind == .function && env.kindOf n == some .cell) = true
      · simp only [hc, if_true, List.lookup_cons, hx]; exact ih
      · simp only [hc, if_false, List.lookup_cons, hx, Bool.false_eq_true]; exact ih
theorem compEnv_kind (csc : Scope) (cl : List (Str × Addr)) (C : Addr) (env : Env) (x : Str) : (compEnvC csc cl C env).kindOf x =
    (csc.names.lookup x).map fun k => if (k == NameKind.free && env.scope.kind == .function && env.kindOf x == some .cell) then NameKind.cell else k := relabel_lookup env x csc.names
theorem compEnv_sc (csc : Scope) (cl : List (Str × Addr)) (C : Addr) (env : Env) : ScOk csc.names (compEnvC csc cl C env) := fun x k e => by
  rw [compEnv_kind, e, Option.map_some]
  by_cases hc : (k == NameKind.free && env.scope.kind == .function && env.kindOf x == some .cell) = true
  · rw [if_pos hc]
    refine .inr ⟨?_, rfl⟩
    simp only [Bool.and_eq_true] at hc
    simpa using hc.1.1
  · rw [if_neg hc]; exact .inl rfl
theorem isCap_env {sc : List (Str × NameKind)} {env : Env} {x : Str} (S : ScOk sc env) (h : isCap sc x = true) : env.kindOf x = some .cell ∨ env.kindOf x = some .free := by
  unfold isCap at h
  split at h
  · rename_i q
    rcases S x _ q with k | k
    · exact .inl k
    · cases k.1
  · rename_i q
    rcases S x _ q with k | k
    · exact .inr k
    · exact .inl k.2
  · cases h
structure CompFacts (sc csc : List (Str × NameKind)) (ρ : List (Str × Dt)) (x : Str) : Prop where
  nocell : ∀ y ∈ csc, y.2 ≠ .cell
  names : ∀ y ∈ csc, y.2 = .local → csc.lookup y.1 = some .local
  free : ∀ n, (n, NameKind.free) ∈ csc → isCap sc n = true
  own : ∀ n, (n, NameKind.local) ∈ csc → n = x ∨ ρ.lookup n = Option.none
  x : csc.lookup x = some .local
theorem compFacts {sc csc : List (Str × NameKind)} {ρ : List (Str × Dt)} {x : Str} (h : compOk sc csc ρ x = true) : CompFacts sc csc ρ x := by
  unfold compOk at h
  obtain ⟨h1, h2⟩ := Bool.and_eq_true_iff.mp h
  have h1' := List.all_eq_true.mp h1
  refine ⟨fun y hy q => ?_, fun y hy q => ?_, fun n hn => ?_, fun n hn => ?_, by simpa using h2⟩
  · have := h1' y hy; rw [q] at this; simp at this
  · have := h1' y hy; rw [q] at this; simp at this; exact this.1
  · have := h1' _ hn; simpa using this
  · have := h1' _ hn
    simp only [Bool.and_eq_true, Bool.or_eq_true, bne_self_eq_false, Bool.false_eq_true, false_or, beq_iff_eq, Option.isNone_iff_eq_none] at this
    exact this.2.2
end Mine
end
section
open PySem PySem.W PyProof.Rows
set_option maxRecDepth 100000
namespace Mine
variable {prog : Program} {w : World} {A : Around} {E : Value → Shared → Prop} {s : Shared} {env : Env}
theorem compGo_step {f : Dt → Option (Option Dt)} {l : List Dt} {i : Nat} {d : Dt} {out : List Dt} (e : compGo f (l.drop i) = some out) (hd : l[i]? = some d) :
    ∃ y, f d = some y ∧ ∃ rest, compGo f (l.drop (i + 1)) = some rest ∧ out = y.toList ++ rest := by
  obtain ⟨hl, he⟩ := List.getElem?_eq_some_iff.mp hd
  rw [List.drop_eq_getElem_cons hl, he] at e
  unfold compGo at e
  split at e
  · cases e
  · rename_i q; exact ⟨Option.none, q, out, e, rfl⟩
  · rename_i y q
    obtain ⟨r, hr, rfl⟩ := Option.map_eq_some_iff.mp e
    exact ⟨some y, q, r, hr, rfl⟩
inductive KeepsW (W : List Addr) (s s' : Shared) : Prop
  | mk (h : Heap) (tk : Nat) (e : s' = { s with heap := h, toks := tk }) (k : ∀ b o, b ∉ W → s.heap.get? b = some o → h.get? b = some o) (l : ∀ b ∈ W, (∃ o, s.heap.get? b = some o) → ∃ o, h.get? b = some o)
theorem KeepsW.of {W : List Addr} {s s' : Shared} (k : Keeps s s') : KeepsW W s s' := by
  obtain ⟨h, t, rfl, e⟩ := k
  exact ⟨h, t, rfl, fun b o _ q => e b o q, fun b _ ⟨o, q⟩ => ⟨o, e b o q⟩⟩
theorem KeepsW.trans {W : List Addr} {a b c : Shared} (x : KeepsW W a b) (y : KeepsW W b c) : KeepsW W a c := by
  obtain ⟨h1, t1, rfl, k1, l1⟩ := x
  obtain ⟨h2, t2, rfl, k2, l2⟩ := y
  exact ⟨h2, t2, rfl, fun b o n e => k2 b o n (k1 b o n e), fun b m e => l2 b m (l1 b m e)⟩
theorem KeepsW.nil {s s' : Shared} (k : KeepsW [] s s') : Keeps s s' := by
  obtain ⟨h, t, rfl, e, _⟩ := k
  exact ⟨h, t, rfl, fun b o q => e b o (by simp) q⟩
theorem KeepsW.out {W : List Addr} {s s' : Shared} (k : KeepsW W s s') : ∀ b o, b ∉ W → s.heap.get? b = some o → s'.heap.get? b = some o := by
  obtain ⟨h, t, rfl, e, _⟩ := k; exact e
theorem KeepsW.live {W : List Addr} {s s' : Shared} (k : KeepsW W s s') {X : List Addr} (L : Live s.heap X) : Live s'.heap X := by
  obtain ⟨h, t, rfl, e, l⟩ := k
  intro a ha
  by_cases q : a ∈ W
  · exact l a q (L a ha)
  · obtain ⟨o, ho⟩ := L a ha; exact ⟨o, e a o q ho⟩
structure EnvW (W : List Addr) (env : Env) : Prop where
  loc : env.locals ∉ W
  cel : ∀ x c, env.cells.lookup x = some c → c ∉ W
structure GdW (K : Frag) (W : List Addr) : Prop where
  k : ∀ a o, K.lookup a = some o → a ∉ W
  g : mainGlobals ∉ W
  b : builtinsNs ∉ W
  c : cStatics ∉ W
theorem EnvW.nil {env : Env} : EnvW [] env := ⟨(fun q => nomatch q), (fun _ _ _ q => nomatch q)⟩
theorem GdW.nil {K : Frag} : GdW K [] := ⟨(fun _ _ _ q => nomatch q), (fun q => nomatch q), (fun q => nomatch q), (fun q => nomatch q)⟩
theorem V.keepsW {W X : List Addr} {s s' : Shared} (k : KeepsW W s s') (hW : ∀ b ∈ W, b ∈ X) {d : Dt} {v : Value} (x : V s.heap X d v) : V s'.heap X d v :=
  V.keep (fun b o hb e => k.out b o (fun q => hb (hW b q)) e) d v x
theorem VL.keepsW {W X : List Addr} {s s' : Shared} (k : KeepsW W s s') (hW : ∀ b ∈ W, b ∈ X) {d : List Dt} {v : List Value} (x : VL s.heap X d v) : VL s'.heap X d v :=
  VL.keep (fun b o hb e => k.out b o (fun q => hb (hW b q)) e) d v x
theorem Gd.keepsW {K : Frag} {W : List Addr} {s s' : Shared} (k : KeepsW W s s') (g : GdW K W) (x : Gd K s.heap) : Gd K s'.heap where
  kin := fun a o e => k.out a o (g.k a o e) (x.kin a o e)
  g := let ⟨mg, e⟩ := x.g; ⟨mg, e.at' fun o q => k.out _ o g.g q⟩
  b := let ⟨mb, e, r⟩ := x.b; ⟨mb, e.at' fun o q => k.out _ o g.b q, r⟩
  lim := let ⟨mc, e, r⟩ := x.lim; ⟨mc, e.at' fun o q => k.out _ o g.c q, r⟩
theorem EnvOk.keepsW {W X : List Addr} {s s' : Shared} {env : Env} {ρ : List (Str × Dt)} (k : KeepsW W s s') (hW : ∀ b ∈ W, b ∈ X) (ew : EnvW W env) (x : EnvOk s.heap X env ρ) : EnvOk s'.heap X env ρ where
  kind := x.kind
  glob := x.glob
  blt := x.blt
  inX := x.inX
  live := k.live x.live
  loc := by
    refine bc fun nG => ?_
    obtain ⟨m, hn, hl⟩ := x.loc
    refine nG ?_
    exact ⟨m, hn.at' fun o q => k.out _ o ew.loc q, fun y d e hk => let ⟨v, a, b⟩ := hl y d e hk; ⟨v, a, b.keepsW k hW⟩⟩
  cel := fun y hy => by
    refine bc fun nG => ?_
    obtain ⟨c, ov, a, b, cx, e⟩ := x.cel y hy
    obtain ⟨o, ho, hd⟩ := b
    refine nG ?_
    exact ⟨c, ov, a, ⟨o, k.out _ o (ew.cel y c a) ho, hd⟩, cx, fun d hd => let ⟨v, p, q⟩ := e d hd; ⟨v, p, q.keepsW k hW⟩⟩
structure Eff (W : List Addr) (J : Nat → Heap → List Addr → Prop) : Prop where
  keep : ∀ i h h' X, (∀ b o, b ∉ X ∨ b ∈ W → h.get? b = some o → h'.get? b = some o) → J i h X → J i h' X
  more : ∀ i h X Y, (∀ b, b ∈ Y → b ∉ X → h.get? b = Option.none) → J i h X → J i h Y
theorem Eff.none : Eff [] (fun _ _ _ => True) := ⟨fun _ _ _ _ _ _ => trivial, fun _ _ _ _ _ _ => trivial⟩
theorem compEnv_okW {h h' : Heap} {X Y W : List Addr} {env : Env} {ρ : List (Str × Dt)} {sc : List (Str × NameKind)} {csc : Scope} {x : Str} {d : Dt} {v : Value} {C : Addr} {m : Str → Option Value}
    (N : EnvOk h X env ρ) (S : ScOk sc env) (F : CompFacts sc csc.names ρ x) (hk : csc.kind = .function)
    (hY : ∀ b ∈ Y, h.get? b = Option.none) (hC : C ∈ Y) (hlive : Live h' Y) (hn : h'.Ns C m) (hm : m x = some v) (hv : V h' (Y ++ X) d v)
    (hWX : ∀ b ∈ W, b ∈ X) (EW : EnvW W env) (wl : ∀ b ∈ W, (∃ o, h.get? b = some o) → ∃ o, h'.get? b = some o)
    (keep : ∀ b o, b ∉ Y → b ∉ W → h.get? b = some o → h'.get? b = some o) : EnvOk h' (Y ++ X) (compEnvC csc (clOf env.cells csc.names []) C env) ((x, d) :: ρ) := by
  have up : ∀ {d' : Dt} {u : Value}, V h X d' u → V h' (Y ++ X) d' u := fun {d'} {u} hu => by
    refine V.keep (h := h) (fun b o hb e => keep b o (fun q => hb (List.mem_append_left _ q)) (fun q => hb (List.mem_append_right _ (hWX b q))) e) d' u (V.more (fun b hb hn => ?_) d' u hu)
    rcases List.mem_append.mp hb with q | q
    · exact hY b q
    · exact absurd q hn
  refine ⟨hk, N.glob, N.blt, List.mem_append_left _ hC, fun a ha => ?_, ⟨m, hn, fun y d' e hy => ?_⟩, fun y hy => ?_⟩
  · rcases List.mem_append.mp ha with q | q
    · exact hlive a q
    · by_cases qw : a ∈ W
      · exact wl a qw (N.live a q)
      · obtain ⟨o, ho⟩ := N.live a q
        exact ⟨o, keep a o (fun z => by rw [hY a z] at ho; cases ho) qw ho⟩
  · rw [compEnv_kind] at hy
    refine bc fun nG => ?_
    obtain ⟨k, hk1, hk2⟩ := Option.map_eq_some_iff.mp hy
    refine nG ?_
    have hloc : k = .local := by
      split at hk2
      · cases hk2
      · exact hk2
    subst hloc
    rw [List.lookup_cons] at e
    cases hyx : y == x with
    | true =>
      rw [hyx] at e
      cases e
      rw [beq_iff_eq.mp hyx]
      exact ⟨v, hm, hv⟩
    | false =>
      rw [hyx] at e
      rcases F.own y (mem_of_lookup hk1) with q | q
      · rw [q] at hyx; simp at hyx
      · rw [q] at e; cases e
  · rw [compEnv_kind] at hy
    have hfree : csc.names.lookup y = some .free := by
      have key : ∃ k, csc.names.lookup y = some k ∧ (k = .cell ∨ k = .free) := by
        rcases hy with hy | hy <;> obtain ⟨k, hk1, hk2⟩ := Option.map_eq_some_iff.mp hy <;> refine ⟨k, hk1, ?_⟩ <;> split at hk2
        · rename_i hc
          simp only [Bool.and_eq_true] at hc
          exact .inr (by simpa using hc.1.1)
        · exact .inl hk2
        · cases hk2
        · exact .inr hk2
      refine bc fun nG => ?_
      obtain ⟨k, hk1, hk2⟩ := key
      refine nG ?_
      rcases hk2 with rfl | rfl
      · exact absurd rfl (F.nocell _ (mem_of_lookup hk1))
      · exact hk1
    have hcap := F.free y (mem_of_lookup hfree)
    refine bc fun nG => ?_
    obtain ⟨c, ov, hc1, hc2, hc3, hc4⟩ := N.cel y (isCap_env S hcap)
    obtain ⟨o, ho, hd⟩ := hc2
    refine nG ?_
    have hcY : c ∉ Y := fun q => by rw [hY c q] at ho; cases ho
    refine ⟨c, ov, ?_, ⟨o, keep c o hcY (EW.cel y c hc1) ho, hd⟩, List.mem_append_right _ hc3, fun d' e => ?_⟩
    · show (clOf env.cells csc.names []).lookup y = some c
      exact clOf_lookup env.cells hc1 csc.names [] (fun d q => by simp at q) (.inl (mem_of_lookup hfree))
    · rw [List.lookup_cons] at e
      cases hyx : y == x with
      | true =>
        rw [beq_iff_eq.mp hyx, F.x] at hfree
        cases hfree
      | false =>
        rw [hyx] at e
        refine bc fun nG => ?_
        obtain ⟨u, hu1, hu2⟩ := hc4 d' e
        refine nG ?_
        exact ⟨u, hu1, up hu2⟩
theorem clOf_sub (cells : List (Str × Addr)) : ∀ (names : List (Str × NameKind)) (acc : List (Str × Addr)) (y : Str) (c : Addr), (∀ n, (n, NameKind.free) ∈ names → ∃ c, cells.lookup n = some c) → (clOf cells names acc).lookup y = some c → acc.lookup y = some c ∨ cells.lookup y = some c := by
  intro names
  induction names with
  | nil => intro acc y c _ h; exact .inl h
  | cons p r ih =>
    obtain ⟨n, k⟩ := p
    intro acc y c hc h
    unfold clOf at h
    split at h
    · rename_i hk
      rcases ih _ _ _ (fun n hn => hc n (.tail _ hn)) h with q | q
      · rw [List.lookup_cons] at q
        cases hm : y == n with
        | true =>
          rw [hm] at q
          have hk' : k = .free := by simpa using hk
          subst hk'
          obtain ⟨c', hc'⟩ := hc n (.head _)
          rw [hc'] at q
          rw [beq_iff_eq.mp hm, hc']
          exact .inr (by simpa using q)
        | false => rw [hm] at q; exact .inl q
      · exact .inr q
    · exact ih _ _ _ (fun n hn => hc n (.tail _ hn)) h
noncomputable def Sh (s s' : Shared) : Prop := ∃ h tk, s' = { s with heap := h, toks := tk }
theorem Sh.trans {a b c : Shared} (x : Sh a b) (y : Sh b c) : Sh a c := by
  obtain ⟨h, t, rfl⟩ := x; obtain ⟨h', t', rfl⟩ := y; exact ⟨h', t', rfl⟩
theorem Sh.to {s s' : Shared} {h : Heap} {tk : Nat} (x : Sh s s') : Sh s { s' with heap := h, toks := tk } := x.trans ⟨h, tk, rfl⟩
theorem KeepsW.sh {W : List Addr} {s s' : Shared} (k : KeepsW W s s') : Sh s s' := by obtain ⟨h, t, e, _⟩ := k; exact ⟨h, t, e⟩
theorem Keeps.sh {s s' : Shared} (k : Keeps s s') : Sh s s' := let ⟨h, t, e, _⟩ := k; ⟨h, t, e⟩
theorem KeepsW.liv {W : List Addr} {s s' : Shared} (k : KeepsW W s s') : ∀ b ∈ W, (∃ o, s.heap.get? b = some o) → ∃ o, s'.heap.get? b = some o := by obtain ⟨h, t, rfl, _, l⟩ := k; exact l
theorem KeepsW.mk' {W : List Addr} {s s' : Shared} (x : Sh s s') (k : ∀ b o, b ∉ W → s.heap.get? b = some o → s'.heap.get? b = some o) (l : ∀ b ∈ W, (∃ o, s.heap.get? b = some o) → ∃ o, s'.heap.get? b = some o) : KeepsW W s s' := by
  obtain ⟨h, t, rfl⟩ := x; exact ⟨h, t, rfl, k, l⟩
inductive CInv (J : Nat → Heap → List Addr → Prop) (St : Nat → Heap → Prop) (f : Dt → Option (Option Dt)) (items out : List Dt) (C D I : Addr) (X W : List Addr) (s₁ s₂ : Shared) (k : Nat) (s' : Shared) : Prop
  | mk (m' : Str → Option Value) (ys : List Value) (dn rest : List Dt) (i : Nat) (sh : Sh s₂ s') (hst : St i s'.heap) (hacc : s'.heap.PlainList D (List.toArray ys)) (hn : s'.heap.Ns C m')
    (hVL : VL s'.heap ([C, D, I] ++ X) dn ys) (hgo : compGo f (items.drop i) = some rest) (hout : out = dn ++ rest) (hdn : dn.length ≤ i) (hi : i ≤ items.length) (hk : k = items.length + 1 - i) (oi : ∃ oi, s'.heap.get? I = some oi)
    (hkeep : ∀ b o, b ∉ [C, D, I] → b ∉ W → s₁.heap.get? b = some o → s'.heap.get? b = some o) (hl : ∀ b ∈ W, (∃ o, s₁.heap.get? b = some o) → ∃ o, s'.heap.get? b = some o) (hJ : J i s'.heap ([C, D, I] ++ X))
theorem comp_turns {elt target iter : Expr} {ifs : List Expr} {scope : Scope} {pos : Pos} {it acc : Value} {R : Result → Shared → Prop} (I : Nat → Shared → Prop)
    (turn : ∀ n s, I n s → wpAny (model prog w) A (pyNext it) (fun r s₁ => match r with
      | none => R (.ok .next) s₁
      | some v => wpAny (model prog w) A (letOwnedTupleGo target it v) (fun _ s₁' => wpAny (model prog w) A (assign target env v) (fun _ s₂ =>
          wpAny (model prog w) A (forIn ifs true fun c r => if r = true then do let ok ← isTrue c env (eval c env); pure (ForInStep.yield ok) else pure (ForInStep.yield r)) (fun ok s₃ =>
            if ok = true then wpAny (model prog w) A (eval elt env) (fun x s₄ =>
              wpAny (model prog w) A (call (.builtin "list.append") [acc, x]) (fun _ s₅ => ∃ m, m < n ∧ I m s₅) (notedBy (model prog w) A env fun e s' => R (.error e) s') s₄) (notedBy (model prog w) A env fun e s' => R (.error e) s') s₃
            else ∃ m, m < n ∧ I m s₃) (notedBy (model prog w) A env fun e s' => R (.error e) s') s₂) (notedBy (model prog w) A env fun e s' => R (.error e) s') s₁')
          (notedBy (model prog w) A env fun e s' => R (.error e) s') s₁) (notedBy (model prog w) A env fun e s' => R (.error e) s') s)
    (n : Nat) (h : I n s) : codeAny (model prog w) A (.compLoop (.ListComp elt [⟨target, iter, ifs, 0⟩] scope pos) 0 it acc env) R s := by
  refine codeAny_loop rfl I (fun n s hI => ?_) n h
  show wpAny _ A ((compTurn (.ListComp elt [⟨target, iter, ifs, 0⟩] scope pos) 0 it acc env).onRaise (fun x => do noteFrame x env; theTreesLotGoes x)) _ _ s
  refine wpAny_noted ?_
  rw [compTurn_list]
  refine wpAny_bind (wpAny_standAt (wpAny_bind (wpAny_mono (turn n s hI) (fun r s₁ h₁ => ?_) fun _ _ h' => h')))
  cases r with
  | none => exact wpAny_pure h₁
  | some v =>
    refine wpAny_bind (wpAny_mono h₁ (fun _ s₂ h₂ => wpAny_bind (wpAny_mono h₂ (fun _ s₃ h₃ => wpAny_bind (wpAny_mono h₃ (fun ok s₄ h₄ => ?_) fun _ _ h' => h')) fun _ _ h' => h')) fun _ _ h' => h')
    cases ok with
    | false => exact wpAny_pure ⟨rfl, h₄⟩
    | true => exact wpAny_bind (wpAny_bind (wpAny_mono h₄ (fun x s₅ h₅ => wpAny_bind (wpAny_mono h₅ (fun _ s₆ h₆ => wpAny_pure (wpAny_pure ⟨rfl, h₆⟩)) fun _ _ h' => h')) fun _ _ h' => h'))
noncomputable def TgOk (prog : Program) (w : World) (A : Around) (csc : Scope) (env : Env) (x : Str) (tg : Expr) (it d d' : Dt) : Prop :=
  ∀ (v : Value) (s' : Shared) (C I : Addr) (m' : Str → Option Value) (X' : List Addr) (E' : Value → Shared → Prop) (Q' : Unit → Shared → Prop), V s'.heap X' d v → s'.heap.Ns C m' → C ∈ X' → ((∃ l, it = .list l) → ∃ l j, s'.heap.IsListIter I l j) →
    (∀ v' h₃ m₃ tk, V h₃ X' d' v' → h₃.Ns C m₃ → m₃ x = some v' → (∀ b o, b ≠ C → s'.heap.get? b = some o → h₃.get? b = some o) → Q' () { s' with heap := h₃, toks := tk }) →
    wpAny (model prog w) A (letOwnedTupleGo tg (.ref I) v) (fun _ s₁ => wpAny (model prog w) A (assign tg (compEnvC csc (clOf env.cells csc.names []) C env) v) Q' E' s₁) E' s'
theorem TgOk.name {csc : Scope} {x : Str} {px : Pos} {it d : Dt} (hx : csc.names.lookup x = some .local) (hk : csc.kind = .function) : TgOk prog w A csc env x (.Name x px) it d d := fun v s' C I m' X' E' Q' hv hn hC _ hQ =>
  wpAny_pure (wpAny_assign_Name (wpAny_storeName_local (lookup_relabel_local hx) hn (fun h₃ hn₃ hs₃ => hQ v _ _ _ (V.keep (fun b o hb e => hs₃.extBut b o (fun q => hb (q ▸ hC)) e) _ _ hv) hn₃ (by simp) fun b o hb e => hs₃.extBut b o hb e) (by simp [compEnvC, relabel, hk])))
structure LcEnd (s : Shared) (X W : List Addr) (J : Nat → Heap → List Addr → Prop) (n : Nat) (out : List Dt) (s' : Shared) (D C : Addr) (m' : Str → Option Value) : Prop where
  k : KeepsW W s s'
  ns : s'.heap.Ns C m'
  fr : s.heap.get? C = Option.none
  ne : C ≠ D
  nW : C ∉ W
  v : V s'.heap (C :: X) (.list out) (.ref D)
  j : J n s'.heap (C :: X)
noncomputable def LcOk (prog : Program) (w : World) (A : Around) (E : Value → Shared → Prop) (s : Shared) (env : Env) (X W : List Addr) (J : Nat → Heap → List Addr → Prop) (n : Nat) (out : List Dt) (elt tg iter : Expr) (ifs : List Expr) (csc : Scope) (pos : Pos) : Prop :=
  ∀ (pos' : Pos) (use : Option (Value → Sem Unit)) (Q : Value → Shared → Prop), (∀ (s' : Shared) (D C : Addr) (m' : Str → Option Value), LcEnd s X W J n out s' D C m' → compPost (model prog w) A E use Q (.ref D) C (.ok .next) s') →
    wpAny (model prog w) A (comprehension (.ListComp elt [⟨tg, iter, ifs, 0⟩] csc pos) csc env pos' (newList []) false (eval iter env) use) Q E s
theorem comp_core2 {K : Frag} {elt iter tg : Expr} {x : Str} {dd : Dt → Dt} {ifs : List Expr} {csc : Scope} {pos : Pos} {sc : List (Str × NameKind)} {ρ : List (Str × Dt)} {X W : List Addr} {J : Nat → Heap → List Addr → Prop} {it : Dt} {items out : List Dt} {f : Dt → Option (Option Dt)}
    (S : ScOk sc env) (N : EnvOk s.heap X env ρ) (G : Gd K s.heap) (hh : A.handled = none) (hok : compOk sc csc.names ρ x = true) (hk : csc.kind = .function) (hsz : items.length ≤ 1000)
    (hs : ∀ x, foldedSetIterable iter env x = pure x) (hWX : ∀ b ∈ W, b ∈ X) (EW : EnvW W env) (KW : GdW K W) (FJ : Eff W J) (hA : ∀ d ∈ items, TgOk prog w A csc env x tg it d (dd d))
    (hiter : wpAny (model prog w) A (eval iter env) (fun v s₁ => KeepsW W s s₁ ∧ V s₁.heap X it v ∧ J 0 s₁.heap X) E s) (hit : itemsD it = some items) (ho : compGo f items = some out)
    (hN : ∀ (i : Nat) d, items[i]? = some d → f d = some Option.none → ∀ h X', J i h X' → J (i + 1) h X')
    (hT : ∀ d ∈ items, ∀ y, f d = some y → ∀ (cenv : Env) (s' : Shared) (X' : List Addr) (E' : Value → Shared → Prop), EnvOk s'.heap X' cenv ((x, dd d) :: ρ) → ScOk csc.names cenv → Gd K s'.heap →
      wpAny (model prog w) A (forIn ifs true fun c r => if r = true then do let ok ← isTrue c cenv (eval c cenv); pure (ForInStep.yield ok) else pure (ForInStep.yield r)) (fun ok s₃ => Keeps s' s₃ ∧ ok = y.isSome) E' s')
    (hE : ∀ (i : Nat) d, items[i]? = some d → ∀ y, f d = some (some y) → ∀ (cenv : Env) (s' : Shared) (X' : List Addr) (E' : Value → Shared → Prop), EnvOk s'.heap X' cenv ((x, dd d) :: ρ) → ScOk csc.names cenv → Gd K s'.heap → EnvW W cenv → (∀ b ∈ W, b ∈ X') → (cenv.code = env.code ∧ cenv.qual = env.qual) → J i s'.heap X' → (∀ b o, b ∉ W → s.heap.get? b = some o → s'.heap.get? b = some o) →
      wpAny (model prog w) A (eval elt cenv) (fun r s₃ => KeepsW W s' s₃ ∧ V s₃.heap X' y r ∧ J (i + 1) s₃.heap X') E' s') :
    LcOk prog w A E s env X W J items.length out elt tg iter ifs csc pos := by
  intro pos' use Q fin
  have F := compFacts hok
  have hcells : ∀ n, (n, NameKind.free) ∈ csc.names → ∃ c, env.cells.lookup n = some c := fun n hn => by
    obtain ⟨c, ov, hc, _⟩ := N.cel n (isCap_env S (F.free n hn))
    exact ⟨c, hc⟩
  have hclos : closureFor csc env = pure (clOf env.cells csc.names []) := closureFor_cl hcells
  refine wpAny_comprehension_free rfl hs hclos hk F.names (mono3 hiter fun v s₁ k₁ hv hJ₁ => ?_)
  have N₁ := N.keepsW k₁ hWX EW
  have G₁ := Gd.keepsW k₁ KW G
  refine wpAny_mono (iter_walks (X := X) hv hit hh) (fun itv s₂ h₂ => ?_) fun _ _ e => e
  obtain ⟨fp, P, St, rfl, W', hst, hfp, ⟨oI, hoI, hlI⟩, k₂, hlv, hP, hLI⟩ := h₂
  have hI : s₁.heap.objs.size < s₂.heap.objs.size := by rw [hoI, Heap.size_push]; exact Nat.lt_succ_self _
  refine wpAny_newObj_type (wpAny_newFunctionEnv F.nocell (by intro y hy; simp at hy) (fun h₁ hns₁ hsb₁ => ?_) hk)
  dsimp only at hns₁ hsb₁ ⊢
  generalize hH2 : s₂.heap.push { cls := .type "list", dict := none, data := .seq ([] : List Value).toArray } = H2 at hns₁ hsb₁ ⊢
  have hC : H2.objs.size = s₂.heap.objs.size + 1 := by rw [← hH2, Heap.size_push]
  generalize hCC : H2.objs.size = C at hns₁ hsb₁ hC ⊢
  generalize hDD : s₂.heap.objs.size = D at hC hI ⊢
  generalize hII : s₁.heap.objs.size = I at hI W' hLI ⊢
  have hDC : D ≠ C := by rw [hC]; exact Nat.ne_of_lt (Nat.lt_succ_self _)
  have hIC : I ≠ C := by rw [hC]; exact Nat.ne_of_lt (Nat.lt_succ_of_lt hI)
  have hID : I ≠ D := Nat.ne_of_lt hI
  have hfp' : ∀ b ∈ fp, b < D := by rw [← hDD]; exact fun b hb => (hfp b hb).1
  have hDf : D ∉ fp := fun hm => Nat.lt_irrefl _ (hfp' _ hm)
  have hCf : C ∉ fp := fun hm => Nat.lt_irrefl D (Nat.lt_trans (Nat.lt_succ_self D) (by have q := hfp' _ hm; rwa [hC] at q))
  have hIf : I ∈ fp := W'.sub I (by simp)
  have old : ∀ b o, s₂.heap.get? b = some o → h₁.get? b = some o := fun b o e => by
    have hb := ltN (show b < D by rw [← hDD]; exact Heap.lt_size e)
    refine hsb₁.extBut b o (Nat.ne_of_lt (Nat.lt_trans hb (by rw [hC]; exact Nat.lt_succ_self _))) (Heap.get?_push_of_some _ ?_)
    rw [← hH2]
    exact Heap.get?_push_of_some _ e
  have hacc : h₁.PlainList D (List.toArray []) := by
    refine ⟨_, hsb₁.extBut _ _ hDC (Heap.get?_push_of_some _ (show H2.get? D = some { cls := .type "list", data := .seq (List.toArray []) 0 } from ?_))⟩
    rw [← hH2, ← hDD]
    exact Heap.get?_push_size _ rfl
  have hst₁ : St 0 h₁ := W'.frame _ _ _ hst fun b _ o e => old b o e
  have freshI : s₁.heap.get? I = Option.none := fresh_none _ (Nat.le_of_eq hII)
  have freshD : s₁.heap.get? D = Option.none := fresh_none _ (Nat.le_trans (Nat.le_of_eq hII) (Nat.le_of_lt hI))
  have freshC : s₁.heap.get? C = Option.none := fresh_none _ (Nat.le_trans (Nat.le_of_eq hII) (Nat.le_trans (Nat.le_of_lt hI) (by rw [hC]; exact Nat.le_succ _)))
  have hYn : ∀ b ∈ [C, D, I], s₁.heap.get? b = Option.none := fun b hb => by
    simp only [List.mem_cons, List.not_mem_nil, or_false] at hb
    rcases hb with rfl | rfl | rfl <;> assumption
  have hYW : ∀ b ∈ [C, D, I], b ∉ W := fun b hb q => by
    obtain ⟨o, ho⟩ := N₁.live b (hWX b q)
    rw [hYn b hb] at ho; cases ho
  have hfpW : ∀ b ∈ fp, b ∉ W := fun b hb q => by
    rcases (hfp b hb).2 with e | e
    · exact hYW I (by simp) (by rw [← hII, ← e]; exact q)
    · exact e (hWX b q)
  have upV : ∀ {d' : Dt} {u : Value}, V s₁.heap X d' u → V s₁.heap ([C, D, I] ++ X) d' u := fun {d'} {u} hu => V.more (fun b hb hn => by
    rcases List.mem_append.mp hb with q | q
    · exact hYn b q
    · exact absurd q hn) d' u hu
  have upJ : ∀ {i : Nat}, J i s₁.heap X → J i s₁.heap ([C, D, I] ++ X) := fun {i} hj => FJ.more _ _ _ _ (fun b hb hn => by
    rcases List.mem_append.mp hb with q | q
    · exact hYn b q
    · exact absurd q hn) hj
  have keepO : ∀ b o, s₁.heap.get? b = some o → s₂.heap.get? b = some o := (Keeps.ext k₂)
  have hWX' : ∀ b ∈ W, b ∈ [C, D, I] ++ X := fun b hb => List.mem_append_right _ (hWX b hb)
  have loop : ∀ s₃ : Shared, s₃ = { s₂ with heap := h₁, toks := s₂.toks + ([] : List (Str × Value)).length } →
      codeAny (model prog w) A (.compLoop (.ListComp elt [⟨tg, iter, ifs, 0⟩] csc pos) 0 (.ref I) (.ref D) (compEnvC csc (clOf env.cells csc.names []) C env))
        (compPost (model prog w) A E use Q (.ref D) C) s₃ := by
    rintro s₃ rfl
    refine comp_turns (CInv J St f items out C D I X W s₁ s₂) ?_ (items.length + 1)
      ⟨_, [], [], out, 0, ⟨_, _, rfl⟩, hst₁, hacc, hns₁, by unfold VL; rfl, by simpa using ho, rfl, Nat.le_refl _, Nat.zero_le _, rfl, ⟨oI, old _ _ (hII ▸ hlI)⟩, fun b o _ _ e => old b o (keepO b o e), fun b _ e => let ⟨o, q⟩ := e; ⟨o, old b o (keepO b o q)⟩, FJ.keep _ _ _ _ (fun b o _ e => old b o (keepO b o e)) (upJ hJ₁)⟩
    rintro k s' ⟨m', ys, dn, rest, i, sh, hst', hacc', hn', hVL, hgo, hout, hdn, hi, rfl, ⟨oi, hoi⟩, hkeep, hlw, hJ⟩
    have hCw : C ∉ [I] := by simp [Ne.symm hIC]
    have hDw : D ∉ [I] := by simp [Ne.symm hID]
    by_cases hlt : i < items.length
    · refine W'.item i _ _ _ hlt hst' fun v h₂ tk₂ hPv hst₂ hk₂ => ?_
      obtain ⟨d, hd, hVd⟩ := hP i v hPv
      have hmem : d ∈ items := List.mem_of_getElem? hd
      obtain ⟨y, hy, rest', hgo', hrest⟩ := compGo_step hgo hd
      have hVd₂ : V h₂ ([C, D, I] ++ X) d v := V.keep (fun b o hb e => hk₂ b o (fun q => hb (List.mem_append_left _ (by rw [List.mem_singleton.mp q]; simp))) (hkeep b o (fun q => hb (List.mem_append_left _ q)) (fun q => hb (hWX' b q)) e)) d v (upV hVd)
      refine hA d hmem v { s' with heap := h₂, toks := tk₂ } C I m' ([C, D, I] ++ X) _ _ hVd₂ (hn'.at' fun o e => hk₂ _ o hCw e) (by simp) (fun e => hLI e _ _ hst₂) fun v' h₃ m₃ tk₃ hv' hn₃ hm₃ hs₃ => ?_
      have keep₃ : ∀ b o, b ∉ [C, D, I] → s'.heap.get? b = some o → h₃.get? b = some o := fun b o hb e => by
        simp only [List.mem_cons, List.not_mem_nil, or_false, not_or] at hb
        exact hs₃ b o hb.1 (hk₂ b o (by simp [hb.2.2]) e)
      have hst₃ : St (i + 1) h₃ := W'.frame _ _ _ hst₂ fun b hb o e => hs₃ b o (fun h => hCf ((show b = C from h) ▸ hb)) e
      have hacc₃ : h₃.PlainList D (List.toArray ys) := (hacc'.at fun o e => hk₂ _ o hDw e).at fun o e => hs₃ _ _ hDC e
      obtain ⟨oi₃, hoi₃⟩ : ∃ o, h₃.get? I = some o := by
        rw [← hII]; exact hlv (i + 1) h₃ hst₃
      have hVL₃ : VL h₃ ([C, D, I] ++ X) dn ys := VL.keep (fun b o hb e => keep₃ b o (fun q => hb (List.mem_append_left _ q)) e) dn ys hVL
      have hkeep₃ : ∀ b o, b ∉ [C, D, I] → b ∉ W → s₁.heap.get? b = some o → h₃.get? b = some o := fun b o hb hw e => keep₃ b o hb (hkeep b o hb hw e)
      have hlw₃ : ∀ b ∈ W, (∃ o, s₁.heap.get? b = some o) → ∃ o, h₃.get? b = some o := fun b hb e => let ⟨o, q⟩ := hlw b hb e; ⟨o, keep₃ b o (fun z => hYW b z hb) q⟩
      have hJ₃ : J i h₃ ([C, D, I] ++ X) := FJ.keep _ _ _ _ (fun b o hb e => keep₃ b o (fun z => hb.elim (fun n => n (List.mem_append_left _ z)) (fun n => hYW b z n)) e) hJ
      have hlive₃ : Live h₃ [C, D, I] := fun a ha => by
        simp only [List.mem_cons, List.not_mem_nil, or_false] at ha
        rcases ha with rfl | rfl | rfl
        · obtain ⟨o, _, _, ho, _⟩ := hn₃; exact ⟨o, ho⟩
        · obtain ⟨n, ho⟩ := hacc₃; exact ⟨_, ho⟩
        · exact ⟨oi₃, hoi₃⟩
      have N₃ : EnvOk h₃ ([C, D, I] ++ X) (compEnvC csc (clOf env.cells csc.names []) C env) ((x, dd d) :: ρ) :=
        compEnv_okW N₁ S F hk hYn (by simp) hlive₃ hn₃ hm₃ hv' hWX EW hlw₃ hkeep₃
      have EW₃ : EnvW W (compEnvC csc (clOf env.cells csc.names []) C env) := ⟨hYW C (by simp), fun y c hc => by
        rcases clOf_sub env.cells csc.names [] y c hcells hc with q | q
        · cases q
        · exact EW.cel y c q⟩
      have G₃ : Gd K h₃ := Gd.keepsW (s := s₁) (s' := { s₁ with heap := h₃ }) (W := W) ⟨h₃, s₁.toks, rfl, fun b o n e => hkeep₃ b o (fun q => by rw [hYn b q] at e; cases e) n e, hlw₃⟩ KW G₁
      refine mono2 (hT d hmem y hy _ _ _ _ N₃ (compEnv_sc _ _ _ _) G₃) fun ok s₄ k₄ qq1 => ?_
      obtain rfl := qq1
      have e₄ := Keeps.ext k₄
      cases y with
      | none =>
        simp only [Option.isSome_none, Bool.false_eq_true, if_false]
        refine ⟨items.length + 1 - (i + 1), dec_lt hlt, _, ys, dn, rest', i + 1, sh.to.trans (Keeps.sh k₄), W'.frame _ _ _ hst₃ fun b _ o e => e₄ b o e, hacc₃.at fun o e => e₄ _ o e, hn₃.keeps e₄, hVL₃.ext e₄, hgo', ?_, Nat.le_succ_of_le hdn, hlt, rfl, ⟨oi₃, e₄ _ _ hoi₃⟩, fun b o hb hw e => e₄ b o (hkeep₃ b o hb hw e), fun b hb e => let ⟨o, q⟩ := hlw₃ b hb e; ⟨o, e₄ b o q⟩, hN i d hd hy _ _ (FJ.keep _ _ _ _ (fun b o _ e => e₄ b o e) hJ₃)⟩
        rw [hout, hrest]; simp
      | some y =>
        simp only [Option.isSome_some, if_true]
        refine mono3 (hE i d hd y hy _ _ _ _ (N₃.ext e₄) (compEnv_sc _ _ _ _) (G₃.ext e₄) EW₃ hWX' ⟨rfl, rfl⟩ (FJ.keep _ _ _ _ (fun b o _ e => e₄ b o e) hJ₃) (fun b o hw e => e₄ b o (hkeep₃ b o (fun q => by have e1 := k₁.out b o hw e; rw [hYn b q] at e1; cases e1) hw (k₁.out b o hw e)))) fun r s₅ k₅ hVr hJ₅ => ?_
        have e₅ := k₅.out
        have l₅ := k₅.liv
        have hys : (List.toArray ys).size ≤ sizeLine := by
          have := hVL.length
          rw [List.size_toArray, sizeLine_eq]; lia
        have hDW : D ∉ W := hYW D (by simp)
        have hCW : C ∉ W := hYW C (by simp)
        have hIW : I ∉ W := hYW I (by simp)
        refine wpAny_list_append_plain (hsz := hys) ((hacc₃.at fun o e => e₄ _ o e).at fun o e => e₅ _ o hDW e) fun h₆ hl₆ hs₆ => ?_
        have keep₆ : ∀ b o, b ∉ [C, D, I] → s₅.heap.get? b = some o → h₆.get? b = some o := fun b o hb e => by
          simp only [List.mem_cons, List.not_mem_nil, or_false, not_or] at hb
          exact hs₆.extBut b o hb.2.1 e
        refine ⟨items.length + 1 - (i + 1), dec_lt hlt, _, ys ++ [r], dn ++ [y], rest', i + 1, ((sh.to.trans (Keeps.sh k₄)).trans k₅.sh).trans ⟨_, _, rfl⟩, ?_, by simpa using hl₆, ((hn₃.keeps e₄).at' fun o e => e₅ _ o hCW e).sameBut hs₆ (Ne.symm hDC), ?_, hgo', ?_, (by rw [List.length_append]; exact Nat.succ_le_succ hdn), hlt, rfl, ?_, fun b o hb hw e => keep₆ b o hb (e₅ b o hw (e₄ b o (hkeep₃ b o hb hw e))), fun b hb e => ?_, ?_⟩
        · exact W'.frame _ _ _ hst₃ fun b hb o e => hs₆.extBut b o (fun h => hDf (h ▸ hb)) (e₅ b o (hfpW b hb) (e₄ b o e))
        · exact VL.keep (fun b o hb e => keep₆ b o (fun q => hb (List.mem_append_left _ q)) e) _ _ ((VL.keepsW k₅ hWX' (hVL₃.ext e₄)).snoc hVr)
        · rw [hout, hrest]; simp
        · exact ⟨oi₃, hs₆.extBut _ _ hID (e₅ _ _ hIW (e₄ _ _ hoi₃))⟩
        · obtain ⟨o, q⟩ := hlw₃ b hb e
          obtain ⟨o', q'⟩ := l₅ b hb ⟨o, e₄ b o q⟩
          exact ⟨o', keep₆ b o' (fun z => hYW b z hb) q'⟩
        · exact FJ.keep _ _ _ _ (fun b o hb e => keep₆ b o (fun z => hb.elim (fun n => n (List.mem_append_left _ z)) (fun n => hYW b z n)) e) hJ₅
    · have hin : i = items.length := Nat.le_antisymm hi (Nat.not_lt.mp hlt)
      subst hin
      refine W'.done _ _ _ hst' fun h₂ tk₂ hk₂ => ?_
      rw [List.drop_length] at hgo
      unfold compGo at hgo
      cases hgo
      rw [List.append_nil] at hout
      subst hout
      have keep₂ : ∀ b o, b ∉ [I] → s'.heap.get? b = some o → h₂.get? b = some o := fun b o hb e => hk₂ b o hb e
      have hIW : I ∉ W := hYW I (by simp)
      refine fin _ D C m' ⟨KeepsW.trans k₁ ?_, hn'.at' fun o e => hk₂ _ o hCw e, ?_, Ne.symm hDC, hYW C (by simp), ?_, ?_⟩
      · refine KeepsW.mk' ((Keeps.sh k₂).trans sh.to) (fun b o n e => ?_) fun b hb e => ?_
        · have hb : b ∉ [C, D, I] := fun q => by rw [hYn b q] at e; cases e
          exact keep₂ b o (fun q => hb (by simp only [List.mem_cons, List.not_mem_nil, or_false] at q ⊢; exact .inr (.inr q))) (hkeep b o hb n e)
        · obtain ⟨o, q⟩ := hlw b hb e
          exact ⟨o, keep₂ b o (fun z => hIW (by simp only [List.mem_cons, List.not_mem_nil, or_false] at z; rw [← z]; exact hb)) q⟩
      · obtain ⟨hh1, tt1, e1, q1, q2⟩ := k₁
        cases hs : s.heap.get? C with
        | none => rfl
        | some o =>
          have := q1 C o (hYW C (by simp)) hs
          rw [e1] at freshC
          rw [show hh1.get? C = Option.none from freshC] at this
          cases this
      · unfold V
        refine ⟨D, ys, rfl, fun q => ?_, (hacc'.at fun o e => hk₂ _ o hDw e).isList, VL.less (fun b hb => ?_) (VL.keep (fun b o hb e => keep₂ b o (fun q => hb (List.mem_append_left _ (by simp only [List.mem_cons, List.not_mem_nil, or_false] at q ⊢; exact .inr (.inr q)))) e) _ _ hVL)⟩
        · rcases List.mem_cons.mp q with q | q
          · exact hDC q
          · obtain ⟨o, ho⟩ := N₁.live D q
            rw [freshD] at ho; cases ho
        · rcases List.mem_cons.mp hb with q | q
          · rw [q]; simp
          · exact List.mem_append_right _ q
      · refine FJ.more _ _ ([C, D, I] ++ X) _ (fun b hb hn => absurd ?_ hn) (FJ.keep _ _ _ _ (fun b o hb e => keep₂ b o (fun q => ?_) e) hJ)
        · rcases List.mem_cons.mp hb with q | q
          · rw [q]; simp
          · exact List.mem_append_right _ q
        · have q' : b = I := by simpa using q
          rcases hb with n | n
          · exact n (by rw [q']; simp)
          · exact hIW (q' ▸ n)
  exact codeAny_compStart_list (loop _ rfl) (W'.self 0 _ _ _ hst₁ (loop _ rfl))
theorem lc_eval {X W : List Addr} {J : Nat → Heap → List Addr → Prop} {nn : Nat} {out : List Dt} {elt tg iter : Expr} {ifs : List Expr} {csc : Scope} {pos : Pos} (FJ : Eff W J) (h : LcOk prog w A E s env X W J nn out elt tg iter ifs csc pos) :
    wpAny (model prog w) A (eval (.ListComp elt [⟨tg, iter, ifs, 0⟩] csc pos) env) (fun v s' => KeepsW W s s' ∧ V s'.heap X (.list out) v ∧ J nn s'.heap X) E s := by
  rw [eval_ListComp]
  refine h _ Option.none _ fun s' D C' m' L => ⟨m', L.ns, fun h' hs => ?_⟩
  refine bc fun nG => ?_
  obtain ⟨⟨h₁, t₁, rfl, e₁, l₁⟩, _, hC, _, hCW, hV, hJ⟩ := L
  refine nG ?_
  refine ⟨⟨h', t₁, rfl, fun b o nb e => hs.extBut b o (noAt hC e) (e₁ b o nb e), fun b hb e => let ⟨o, ho⟩ := l₁ b hb e; ⟨o, hs.extBut b o (fun q => hCW (q ▸ hb)) ho⟩⟩, ?_, ?_⟩
  · exact V.less (fun b hb => .tail _ hb) (V.keep (fun b o hb e => hs.extBut b o (fun q => hb (q ▸ .head _)) e) _ _ hV)
  · refine FJ.more _ _ (C' :: X) X (fun b hb hn => absurd (List.mem_cons_of_mem _ hb) hn) (FJ.keep _ _ _ _ (fun b o hb e => hs.extBut b o (fun q => ?_) e) hJ)
    exact hb.elim (fun hb => hb (q ▸ .head _)) fun hb => hCW (q ▸ hb)
theorem comp_sound {K : Frag} {elt iter : Expr} {x : Str} {px : Pos} {ifs : List Expr} {csc : Scope} {pos : Pos} {sc : List (Str × NameKind)} {ρ : List (Str × Dt)} {X : List Addr} {it : Dt} {items out : List Dt} {f : Dt → Option (Option Dt)}
    (S : ScOk sc env) (N : EnvOk s.heap X env ρ) (G : Gd K s.heap) (hh : A.handled = none) (hok : compOk sc csc.names ρ x = true) (hk : csc.kind = .function) (hsz : items.length ≤ 1000)
    (hs : ∀ x, foldedSetIterable iter env x = pure x)
    (hiter : wpAny (model prog w) A (eval iter env) (fun v s₁ => Keeps s s₁ ∧ V s₁.heap X it v) E s) (hit : itemsD it = some items) (ho : compGo f items = some out)
    (hT : ∀ d ∈ items, ∀ y, f d = some y → ∀ (cenv : Env) (s' : Shared) (X' : List Addr) (E' : Value → Shared → Prop), EnvOk s'.heap X' cenv ((x, d) :: ρ) → ScOk csc.names cenv → Gd K s'.heap →
      wpAny (model prog w) A (forIn ifs true fun c r => if r = true then do let ok ← isTrue c cenv (eval c cenv); pure (ForInStep.yield ok) else pure (ForInStep.yield r)) (fun ok s₃ => Keeps s' s₃ ∧ ok = y.isSome) E' s')
    (hE : ∀ d ∈ items, ∀ y, f d = some (some y) → ∀ (cenv : Env) (s' : Shared) (X' : List Addr) (E' : Value → Shared → Prop), EnvOk s'.heap X' cenv ((x, d) :: ρ) → ScOk csc.names cenv → Gd K s'.heap →
      wpAny (model prog w) A (eval elt cenv) (fun r s₃ => Keeps s' s₃ ∧ V s₃.heap X' y r) E' s') :
    wpAny (model prog w) A (eval (.ListComp elt [⟨.Name x px, iter, ifs, 0⟩] csc pos) env) (fun v s' => Keeps s s' ∧ V s'.heap X (.list out) v) E s := by
  exact wpAny_mono (lc_eval Eff.none (comp_core2 (dd := fun d => d) (W := []) (J := fun _ _ _ => True) S N G hh hok hk hsz hs (fun b hb => nomatch hb) EnvW.nil GdW.nil Eff.none (fun _ _ => TgOk.name (compFacts hok).x hk)
    (wpAny_mono hiter (fun v s₁ q => ⟨KeepsW.of q.1, q.2, trivial⟩) fun _ _ x => x) hit ho (fun _ _ _ _ _ _ _ => trivial) hT
    (fun i d hd y hy cenv s' X' E' N' S' G' _ _ _ _ _ => wpAny_mono (hE d (List.mem_of_getElem? hd) y hy cenv s' X' E' N' S' G') (fun r s₃ q => ⟨KeepsW.of q.1, q.2, trivial⟩) fun _ _ x => x)))
    (fun v s' q => ⟨q.1.nil, q.2.1⟩) fun _ _ x => x
end Mine
end
section
open PySem PySem.W PyProof.Rows
set_option maxRecDepth 100000
namespace Mine
variable {prog : Program} {w : World} {A : Around} {E : Value → Shared → Prop} {s : Shared} {env : Env}
noncomputable def Bn (K : Frag) : Prop := ∀ f ∈ bltNames ++ tyNames, nsIn K mainGlobals f = some Option.none
noncomputable def ESe (cf : Orc) (K : Frag) (prog : Program) (w : World) (m n : Nat) : Prop :=
  ∀ (sc : List (Str × NameKind)) (ρ : List (Str × Dt)) (e : Expr) (d : Dt) (env : Env) (A : Around) (E : Value → Shared → Prop) (s : Shared) (X : List Addr), ev cf n sc ρ e = some d → ScOk sc env → EnvOk s.heap X env ρ → Gd K s.heap → Rm A m →
    wpAny (model prog w) A (eval e env) (fun v s' => Keeps s s' ∧ V s'.heap X d v) E s
noncomputable def ESs (cf : Orc) (K : Frag) (prog : Program) (w : World) (m n : Nat) : Prop :=
  ∀ (sc : List (Str × NameKind)) (ρ : List (Str × Dt)) (es : List Expr) (ds : List Dt) (env : Env) (A : Around) (E : Value → Shared → Prop) (s : Shared) (X : List Addr) (pos : Pos), evs cf n sc ρ es = some ds → ScOk sc env → EnvOk s.heap X env ρ → Gd K s.heap → Rm A m →
    (backTo pos (starEach es env)).any (·.1) = false ∧ wpAny (model prog w) A (spliced (backTo pos (starEach es env))) (fun vs s' => Keeps s s' ∧ VL s'.heap X ds vs) E s
noncomputable def ESk (cf : Orc) (K : Frag) (prog : Program) (w : World) (m n : Nat) : Prop :=
  ∀ (sc : List (Str × NameKind)) (ρ : List (Str × Dt)) (kws : List Keyword) (ks : List (Str × Dt)) (env : Env) (A : Around) (E : Value → Shared → Prop) (s : Shared) (X : List Addr) (pos : Pos), evk cf n sc ρ kws = some ks → ScOk sc env → EnvOk s.heap X env ρ → Gd K s.heap → Rm A m →
    (backToKw pos (keywordEach kws env)).all (·.1.isSome) = true ∧ (backToKw pos (keywordEach kws env)).filterMap (·.1) = ks.map (·.1) ∧
      wpAny (model prog w) A (evalAll ((backToKw pos (keywordEach kws env)).map (·.2))) (fun vs s' => Keeps s s' ∧ VL s'.heap X (ks.map (·.2)) vs) E s
noncomputable def ESt (cf : Orc) (K : Frag) (prog : Program) (w : World) (m n : Nat) : Prop :=
  ∀ (sc : List (Str × NameKind)) (ρ : List (Str × Dt)) (e : Expr) (b : Bool) (env : Env) (A : Around) (E : Value → Shared → Prop) (s : Shared) (X : List Addr), tst cf n sc ρ e = some b → ScOk sc env → EnvOk s.heap X env ρ → Gd K s.heap → Rm A m →
    wpAny (model prog w) A (isTrue e env (eval e env)) (fun r s' => Keeps s s' ∧ r = b) E s
noncomputable def ESa (cf : Orc) (K : Frag) (prog : Program) (w : World) (m n : Nat) : Prop :=
  ∀ (sc : List (Str × NameKind)) (ρ : List (Str × Dt)) (op : BoolOp) (es : List Expr) (b : Bool) (env : Env) (A : Around) (E : Value → Shared → Prop) (s : Shared) (X : List Addr), tsts cf n sc ρ op es = some b → ScOk sc env → EnvOk s.heap X env ρ → Gd K s.heap → Rm A m →
    wpAny (model prog w) A (allTrue op es env) (fun r s' => Keeps s s' ∧ r = b) E s
theorem set_ev {cf : Orc} {n : Nat} {sc : List (Str × NameKind)} {ρ : List (Str × Dt)} {e : Expr} {d : Dt} (h : ev cf n sc ρ e = some d) (env : Env) : ∀ x, foldedSetIterable e env x = pure x := by
  intro x
  cases n with
  | zero => cases h
  | succ n =>
    cases e with
    | Set _ _ _ => exact nope h
    | _ => rfl
theorem evs_step {cf : Orc} {K : Frag} {m n : Nat} (he : ESe cf K prog w m n) (hs : ESs cf K prog w m n) : ESs cf K prog w m (n + 1) := by
  intro sc ρ es ds env A E s X pos h S N G R
  cases es with
  | nil =>
    obtain rfl : [] = ds := Option.some.inj h
    refine ⟨rfl, ?_⟩
    show wpAny _ _ (spliced []) _ _ _
    exact PySem.Calls.spliced_nil ⟨Keeps.refl' s, by unfold VL; rfl⟩
  | cons e r =>
    rw [evs_cons] at h
    split at h
    · rename_i d dr h1 h2
      cases h
      rw [notStar_ev h1, backTo_cons]
      have hrest := fun s X N G => hs sc ρ r dr env A E s X pos h2 S N G R
      refine ⟨?_, ?_⟩
      · rw [List.any_cons, (hrest s X N G).1]; rfl
      · refine PySem.Calls.spliced_cons (mono2 (he sc ρ e d env A E s X h1 S N G R) fun v s₁ k₁ hv => ?_)
        refine mono2 (hrest s₁ X (N.ext (Keeps.ext k₁)) (G.ext (Keeps.ext k₁))).2 fun vs s₂ k₂ hvs => ?_
        refine ⟨Keeps.trans' k₁ k₂, ?_⟩
        unfold VL
        exact ⟨v, vs, rfl, hv.ext (Keeps.ext k₂), hvs⟩
    · cases h
theorem evk_step {cf : Orc} {K : Frag} {m n : Nat} (he : ESe cf K prog w m n) (hs : ESk cf K prog w m n) : ESk cf K prog w m (n + 1) := by
  intro sc ρ kws ks env A E s X pos h S N G R
  cases kws with
  | nil =>
    obtain rfl : [] = ks := Option.some.inj h
    exact ⟨rfl, rfl, wpAny_evalAll_nil ⟨Keeps.refl' s, by unfold VL; rfl⟩⟩
  | cons kw r =>
    obtain ⟨nm, e, kp⟩ := kw
    cases nm with
    | none => exact nope h
    | some x =>
      rw [evk_cons] at h
      split at h
      · rename_i d dr h1 h2
        cases h
        have hrest := fun s X N G => hs sc ρ r dr env A E s X pos h2 S N G R
        refine ⟨?_, ?_, ?_⟩
        · show (true && (backToKw pos (keywordEach r env)).all (·.1.isSome)) = true
          rw [(hrest s X N G).1]; rfl
        · show x :: (backToKw pos (keywordEach r env)).filterMap (·.1) = x :: dr.map (·.1)
          rw [(hrest s X N G).2.1]
        · refine wpAny_evalAll_cons ?_
          show wpAny _ _ (eval e env >>= fun v => standAt pos >>= fun _ => pure v) _ _ _
          refine wpAny_bind (mono2 (he sc ρ e d env A E s X h1 S N G R) fun v s₁ k₁ hv => ?_)
          refine wpAny_bind (wpAny_standAt (wpAny_pure ?_))
          refine mono2 (hrest s₁ X (N.ext (Keeps.ext k₁)) (G.ext (Keeps.ext k₁))).2.2 fun vs s₂ k₂ hvs => ?_
          refine ⟨Keeps.trans' k₁ k₂, ?_⟩
          show VL _ _ (d :: dr.map (·.2)) _
          unfold VL
          exact ⟨v, vs, rfl, hv.ext (Keeps.ext k₂), hvs⟩
      · cases h
theorem tsts_step {cf : Orc} {K : Frag} {m n : Nat} (ht : ESt cf K prog w m n) (ha : ESa cf K prog w m n) : ESa cf K prog w m (n + 1) := by
  intro sc ρ op es b env A E s X h S N G R
  cases es with
  | nil =>
    obtain rfl : (op == .And) = b := Option.some.inj h
    exact wpAny_pure ⟨Keeps.refl' s, rfl⟩
  | cons e r =>
    rw [tsts_cons] at h
    split at h
    · rename_i c h1
      show wpAny _ _ (isTrue e env (eval e env) >>= fun x => (match op, x with | .And, false => pure false | .Or, true => pure true | _, _ => allTrue op r env)) _ _ _
      refine wpAny_bind (mono2 (ht sc ρ e c env A E s X h1 S N G R) fun x s₁ k₁ qq1 => ?_)
      obtain rfl := qq1
      cases op <;> cases x
      · cases h; exact wpAny_pure ⟨k₁, rfl⟩
      · refine wpAny_mono (ha sc ρ .And r b env A E s₁ X h S (N.ext (Keeps.ext k₁)) (G.ext (Keeps.ext k₁)) R) (fun y s₂ h₂ => ⟨Keeps.trans' k₁ h₂.1, h₂.2⟩) fun _ _ x => x
      · refine wpAny_mono (ha sc ρ .Or r b env A E s₁ X h S (N.ext (Keeps.ext k₁)) (G.ext (Keeps.ext k₁)) R) (fun y s₂ h₂ => ⟨Keeps.trans' k₁ h₂.1, h₂.2⟩) fun _ _ x => x
      · cases h; exact wpAny_pure ⟨k₁, rfl⟩
    · cases h
theorem Rm.units {A : Around} {m : Nat} (R : Rm A m) : A.units + 100 < cLine := by have := R.2.2; lia
theorem tk_plain {e : Expr} (h : tk e = .plain) (env : Env) : isTrue e env (eval e env) = (do let v ← eval e env; standAt e.pos; holding [v] (truthy v)) := by
  cases e with
  | BoolOp _ _ _ => cases h
  | IfExp _ _ _ _ => cases h
  | Compare _ _ _ _ => cases h
  | UnaryOp op _ _ => cases op with
    | Not => cases h
    | _ => rfl
  | _ => rfl
inductive TKs : Expr → Prop where
  | no {x p} : TKs (.UnaryOp .Not x p)
  | many {op vs p} : TKs (.BoolOp op vs p)
  | cmp {l ops rs p} : TKs (.Compare l ops rs p)
  | out {e} (h : tk e = .out) : TKs e
  | plain {e} (h : tk e = .plain) : TKs e
theorem tks (e : Expr) : TKs e := by
  cases e with
  | BoolOp _ _ _ => exact .many
  | IfExp _ _ _ _ => exact .out rfl
  | Compare _ _ _ _ => exact .cmp
  | UnaryOp op _ _ => cases op with
    | Not => exact .no
    | _ => exact .plain rfl
  | _ => exact .plain rfl
theorem tst_plain {cf : Orc} {n : Nat} {sc : List (Str × NameKind)} {ρ : List (Str × Dt)} {e : Expr} (h : tk e = .plain) : tst cf (n + 1) sc ρ e = (match ev cf n sc ρ e with | some d => truthD d | Option.none => Option.none) := by
  show (match tk e with
    | .no x => (tst cf n sc ρ x).map (!·)
    | .many op vs => tsts cf n sc ρ op vs
    | .out => Option.none
    | .cmp l ops rs => _
    | .plain => _) = _
  rw [h]
  all_goals rfl
theorem tst_out {cf : Orc} {n : Nat} {sc : List (Str × NameKind)} {ρ : List (Str × Dt)} {e : Expr} (h : tk e = .out) : tst cf (n + 1) sc ρ e = Option.none := by
  show (match tk e with
    | .no x => (tst cf n sc ρ x).map (!·)
    | .many op vs => tsts cf n sc ρ op vs
    | .out => Option.none
    | .cmp l ops rs => _
    | .plain => _) = _
  rw [h]
theorem tst_cmp_x {cf : Orc} {n : Nat} {sc : List (Str × NameKind)} {ρ : List (Str × Dt)} {l : Expr} {ops : List CmpOp} {rs : List Expr} {p : Pos} {b : Bool} (h : tst cf (n + 1) sc ρ (.Compare l ops rs p) = some b) : (∃ op r, ops = [op] ∧ rs = [r]) ∨ (∃ op op' r r', ops = [op, op'] ∧ rs = [r, r']) := by
  rcases ops with _ | ⟨op, _ | ⟨op', _ | ⟨op'', ops⟩⟩⟩
  · exact nope h
  · rcases rs with _ | ⟨r, _ | _⟩
    · exact nope h
    · exact .inl ⟨_, _, rfl, rfl⟩
    · exact nope h
  · rcases rs with _ | ⟨r, _ | ⟨r', _ | _⟩⟩
    · exact nope h
    · exact nope h
    · exact .inr ⟨_, _, _, _, rfl, rfl⟩
    · exact nope h
  · exact nope h
theorem tst_step {cf : Orc} {K : Frag} {m n : Nat} (he : ESe cf K prog w m n) (ht : ESt cf K prog w m n) (ha : ESa cf K prog w m n) : ESt cf K prog w m (n + 1) := by
  intro sc ρ e b env A E s X h S N G R
  have plain : ∀ d, ev cf n sc ρ e = some d → truthD d = some b → isTrue e env (eval e env) = (do let v ← eval e env; standAt e.pos; holding [v] (truthy v)) →
      wpAny (model prog w) A (isTrue e env (eval e env)) (fun r s' => Keeps s s' ∧ r = b) E s := fun d h1 h2 hp =>
    PyProof.Rows.isTrue_plain (wpAny_mono (he sc ρ e d env A E s X h1 S N G R) (fun v s₁ h₁ => truthD_sound h2 h₁.2 ⟨h₁.1, rfl⟩) fun _ _ x => x) hp
  cases tks e with
  | no =>
    rename_i x p
    rw [tst_not] at h
    obtain ⟨c, hc, rfl⟩ := Option.map_eq_some_iff.mp h
    exact wpAny_isTrue_Not (wpAny_mono (ht sc ρ x c env A E s X hc S N G R) (fun r s₁ h₁ => ⟨h₁.1, by rw [h₁.2]⟩) fun _ _ x => x)
  | many => exact ha sc ρ _ _ b env A E s X h S N G R
  | out hk => rw [tst_out hk] at h; cases h
  | plain hk =>
    rw [tst_plain hk] at h
    split at h
    · rename_i d h1; exact plain d h1 h (tk_plain hk env)
    · cases h
  | cmp =>
    rename_i l ops cs p
    rcases tst_cmp_x h with ⟨op, r, rfl, rfl⟩ | ⟨op, op', r, r', rfl, rfl⟩
    · rw [tst_cmp1] at h
      split at h
      · rename_i x y h1 h2
        refine wpAny_isTrue_Compare1 (wpAny_mono (he sc ρ l x env A E s X h1 S N G R) (fun v s₁ q₁ => ?_) fun _ _ x => x) (noMarks h2 op)
        obtain ⟨k₁, hv⟩ := q₁
        refine mono2 (he sc ρ r y env A E s₁ X h2 S (N.ext (Keeps.ext k₁)) (G.ext (Keeps.ext k₁)) R) fun u s₂ k₂ hu => ?_
        exact cmpD_sound h (hv.ext (Keeps.ext k₂)) hu R.units (wpAny_truthy_bool ⟨Keeps.trans' k₁ k₂, rfl⟩)
      · cases h
    · rw [tst_cmp2] at h
      split at h
      · rename_i x y z h1 h2 h3
        have mk : lastMarks [op, op'] [r, r'] = false := by
          have := noMarks h3 op'
          simpa [lastMarks] using this
        refine isTrue_chain (wpAny_mono (he sc ρ l x env A E s X h1 S N G R) (fun v s₁ q₁ => ?_) fun _ _ x => x) mk
        obtain ⟨k₁, hv⟩ := q₁
        refine test_link (mono2 (he sc ρ r y env A E s₁ X h2 S (N.ext (Keeps.ext k₁)) (G.ext (Keeps.ext k₁)) R) fun u s₂ k₂ hu => ?_)
        have k₁₂ := Keeps.trans' k₁ k₂
        cases hc : cmpD op x y with
        | none => rw [hc] at h; cases h
        | some k =>
          rw [hc] at h
          refine cmpD_sound hc (hv.ext (Keeps.ext k₂)) hu R.units (wpAny_truthy_bool ?_)
          cases k with
          | false => cases h; exact ⟨k₁₂, rfl⟩
          | true =>
            refine test_last (wpAny_mono (he sc ρ r' z env A E s₂ X h3 S (N.ext (Keeps.ext k₁₂)) (G.ext (Keeps.ext k₁₂)) R) (fun u' s₃ q₃ => ?_) fun _ _ x => x)
            obtain ⟨k₃, hu'⟩ := q₃
            exact cmpD_sound h (hu.ext (Keeps.ext k₃)) hu' R.units (wpAny_truthy_bool ⟨Keeps.trans' k₁₂ k₃, rfl⟩)
      · cases h
end Mine
end
section
open PySem PySem.W PyProof.Rows
set_option maxRecDepth 100000
namespace Mine
section
variable {cf : Orc} {n : Nat} {sc : List (Str × NameKind)} {ρ : List (Str × Dt)}
end
variable {prog : Program} {w : World} {A : Around} {E : Value → Shared → Prop} {s : Shared} {env : Env}
theorem blt_boot {f : Str} (hf : f ∈ bltNames) : ∃ v, bootBuiltins f = some v ∧ bltV f = some v ∧ FnV h v ∧ f ≠ "__name__" := by
  simp only [bltNames, List.mem_cons, List.not_mem_nil, or_false] at hf
  rcases hf with rfl | rfl | rfl | rfl | rfl | rfl
  · exact ⟨.builtin "len", by decide +kernel, by decide +kernel, trivial, by decide +kernel⟩
  · exact ⟨.type "range", by decide +kernel, by decide +kernel, trivial, by decide +kernel⟩
  · exact ⟨.builtin "sum", by decide +kernel, by decide +kernel, trivial, by decide +kernel⟩
  · exact ⟨.type "bytes", by decide +kernel, by decide +kernel, trivial, by decide +kernel⟩
  · exact ⟨.builtin "chr", by decide +kernel, by decide +kernel, trivial, by decide +kernel⟩
  · exact ⟨.type "type", by decide +kernel, by decide +kernel, trivial, by decide +kernel⟩
theorem kind_glob {sc : List (Str × NameKind)} {x : Str} (S : ScOk sc env) (h : (sc.lookup x == some .globalImplicit) = true) : env.kindOf x = some .globalImplicit := by
  rcases S x _ (by simpa using h) with q | q
  · exact q
  · cases q.1
theorem name_step {cf : Orc} {K : Frag} {n : Nat} {sc : List (Str × NameKind)} {ρ : List (Str × Dt)} {x : Str} {p : Pos} {d : Dt} {X : List Addr} (B : Bn K) (C : CG K cf) (h : ev cf (n + 1) sc ρ (.Name x p) = some d) (S : ScOk sc env) (N : EnvOk s.heap X env ρ) (G : Gd K s.heap) :
    wpAny (model prog w) A (eval (.Name x p) env) (fun v s' => Keeps s s' ∧ V s'.heap X d v) E s := by
  rw [ev_name] at h
  split at h
  · cases h
  · rename_i hd
    simp only [Bool.or_eq_true, not_or, Bool.not_eq_true] at hd
    split at h
    · rename_i hl
      rw [arm_eval_Name]
      refine wpAny_bind (wpAny_standAt ?_)
      have hd1 := hd.1
      rw [if_neg (show ¬ ((x == ("__debug__" : Str)) = true) by intro q; rw [show (x == ("__debug__" : Str)) = false from hd1] at q; cases q)]
      exact loc_load S N hl h hd.2 fun v hv => ⟨Keeps.refl' s, hv⟩
    · split at h
      · rename_i hk
        have hk' := kind_glob S hk
        have ty : ∀ (y : Str) (T : String), y ∈ tyNames → bootBuiltins y = some (.type T) → y ≠ "__name__" → (x == y) = true → d = .ty T → wpAny (model prog w) A (eval (.Name x p) env) (fun v s' => Keeps s s' ∧ V s'.heap X d v) E s := fun y T hy hb hne e hdt => by
          have e' : x = y := by simpa using e
          subst e' hdt
          exact blt_name G N hk' (B _ (List.mem_append_right _ hy)) hb hne hd.1 ⟨Keeps.refl' s, by unfold V; rfl⟩
        split at h
        · rename_i e; exact ty _ "bytes" (by decide +kernel) (by decide +kernel) (by decide +kernel) e (by cases h; rfl)
        · split at h
          · rename_i e; exact ty _ "str" (by decide +kernel) (by decide +kernel) (by decide +kernel) e (by cases h; rfl)
          · split at h
            · rename_i e; exact ty _ "bool" (by decide +kernel) (by decide +kernel) (by decide +kernel) e (by cases h; rfl)
            · split at h
              · rename_i e; exact ty _ "bytearray" (by decide +kernel) (by decide +kernel) (by decide +kernel) e (by cases h; rfl)
              · obtain ⟨v, hv, hV⟩ := C x d h
                exact glob_name G N hk' hv hd.1 ⟨Keeps.refl' s, hV _ _⟩
      · cases h
theorem part_step {cf : Orc} {K : Frag} {m n : Nat} (he : ESe cf K prog w m n) {sc : List (Str × NameKind)} {ρ : List (Str × Dt)} {e : Option Expr} {o : Option Int} {X : List Addr} (h : partD (e.map (ev cf n sc ρ)) = some o) (S : ScOk sc env) (N : EnvOk s.heap X env ρ) (G : Gd K s.heap) (R : Rm A m) :
    wpAny (model prog w) A (evalPart e env) (fun v s' => Keeps s s' ∧ IsPart v o) E s := by
  cases e with
  | none => rw [Option.map_none] at h; unfold partD at h; cases h; exact wpAny_pure ⟨Keeps.refl' s, .none⟩
  | some e =>
    rw [Option.map_some] at h
    cases hv : ev cf n sc ρ e with
    | none => rw [hv] at h; cases h
    | some d =>
      rw [hv] at h
      cases d with
      | int i =>
        cases h
        refine wpAny_mono (he sc ρ e _ env A E s X hv S N G R) (fun v s₁ h₁ => ⟨h₁.1, ?_⟩) fun _ _ x => x
        have := h₁.2
        unfold V at this
        obtain ⟨t, rfl⟩ := this
        exact .int i t
      | _ => cases h
theorem subscripted_slice {lo hi st : Option Expr} {p : Pos} {o i : Value} : ∃ ops, subscripted (.Slice lo hi st p) false o i = operate ops (getItem o i) := by
  cases st with
  | none => exact ⟨_, rfl⟩
  | some _ => exact ⟨_, rfl⟩
theorem slice_step {cf : Orc} {K : Frag} {m n : Nat} (he : ESe cf K prog w m n) {sc : List (Str × NameKind)} {ρ : List (Str × Dt)} {v : Expr} {lo hi st : Option Expr} {p pos : Pos} {d : Dt} {X : List Addr} (h : ev cf (n + 1) sc ρ (.Subscript v (.Slice lo hi st p) pos) = some d) (S : ScOk sc env) (N : EnvOk s.heap X env ρ) (G : Gd K s.heap) (R : Rm A m) :
    wpAny (model prog w) A (eval (.Subscript v (.Slice lo hi st p) pos) env) (fun v s' => Keeps s s' ∧ V s'.heap X d v) E s := by
  rw [ev_slice] at h
  split at h
  · rename_i l hl
    split at h
    · rename_i a b c ha hb hc
      split at h
      · rename_i hz
        cases h
        refine Subscript_ (mono2 (he sc ρ v _ env A E s X hl S N G R) fun r s₁ k₁ hr => ?_)
        refine wpAny_Slice (mono2 (part_step he ha S (N.ext (Keeps.ext k₁)) (G.ext (Keeps.ext k₁)) R) fun va s₂ k₂ pa => ?_)
        have k₁₂ := Keeps.trans' k₁ k₂
        refine mono2 (part_step he hb S (N.ext (Keeps.ext k₁₂)) (G.ext (Keeps.ext k₁₂)) R) fun vb s₃ k₃ pb => ?_
        have k₁₃ := Keeps.trans' k₁₂ k₃
        refine mono2 (part_step he hc S (N.ext (Keeps.ext k₁₃)) (G.ext (Keeps.ext k₁₃)) R) fun vc s₄ k₄ pc => ?_
        have k₁₄ := Keeps.trans' k₁₃ k₄
        have hr₄ : V s₄.heap X (.list l) r := ((hr.ext (Keeps.ext k₂)).ext (Keeps.ext k₃)).ext (Keeps.ext k₄)
        unfold V at hr₄
        obtain ⟨q, ws, rfl, hq, hlist, hw⟩ := hr₄
        have L := (N.ext (Keeps.ext k₁₄)).live
        obtain ⟨ops, hops⟩ := subscripted_slice (lo := lo) (hi := hi) (st := st) (p := p) (o := .ref q) (i := .ref s₄.heap.objs.size)
        refine tail_any (ops := ops) (Heap.IsList.typeIs (hlist.push _)) slot_list_getitem.lookup (wpAny_getItem_list_slice (hlist.push _) (Heap.IsSliceOf.new ..) pa pb pc hz.1 ?_ (by rw [List.size_toArray, hw.length, sizeLine_eq]; lia)) hops
        have e1 : slicePick ws.toArray a b c = (List.filterMap (fun i => ws[i]?) (sliceRange (sliceBounds a b c l.length).1 (sliceBounds a b c l.length).2.1 (sliceBounds a b c l.length).2.2)).toArray := by
          unfold slicePick
          rw [List.size_toArray, hw.length]
          simp
        rw [e1]
        have x1 : Ext s₄.heap (s₄.heap.push { cls := .type "slice", data := .fields #[va, vb, vc] }) := fun b o e => Heap.get?_push_of_some _ e
        refine ⟨Keeps.trans' k₁₄ (Keeps.of_heap (Ext.trans x1 fun b o e => Heap.get?_push_of_some _ e)), ?_⟩
        exact list_push (L.ext x1) (filterMap_idx (hw.ext x1) _)
      · cases h
    · cases h
  · cases h
end Mine
end
section
open PySem PySem.W PyProof.Rows
set_option maxRecDepth 100000
namespace Mine
variable {prog : Program} {w : World} {A : Around} {E : Value → Shared → Prop} {s : Shared} {env : Env}
theorem lc_hd {cf : Orc} {n : Nat} {sc : List (Str × NameKind)} {ρ : List (Str × Dt)} {elt : Expr} {gs : List Comprehension} {csc : Scope} {p : Pos} {d : Dt} (h : ev cf (n + 1) sc ρ (.ListComp elt gs csc p) = some d) : ∃ z, compHd gs = some z := by
  cases hz : compHd gs with
  | some z => exact ⟨z, rfl⟩
  | none =>
    have e : ev cf (n + 1) sc ρ (.ListComp elt gs csc p) = Option.none := by
      show (match compHd gs with | some z => _ | Option.none => Option.none) = Option.none
      rw [hz]
    rw [e] at h; cases h
theorem sliceOf_x {i : Expr} {lo hi st : Option Expr} (h : sliceOf i = some (lo, hi, st)) : ∃ p, i = .Slice lo hi st p := by
  cases i with
  | Slice _ _ _ p => cases h; exact ⟨p, rfl⟩
  | _ => exact nope h
theorem ev_sub {cf : Orc} {n : Nat} {sc : List (Str × NameKind)} {ρ : List (Str × Dt)} {v i : Expr} {p : Pos} (h : sliceOf i = Option.none) : ev cf (n + 1) sc ρ (.Subscript v i p) = (match ev cf n sc ρ v, ev cf n sc ρ i with
      | some a, some b => itemD a b
      | _, _ => Option.none) := by
  show (match sliceOf i with | some z => _ | Option.none => _) = _
  rw [h]
  all_goals rfl
theorem sub_starred {cf : Orc} {n : Nat} {sc : List (Str × NameKind)} {ρ : List (Str × Dt)} {i : Expr} {d : Dt} (h : ev cf n sc ρ i = some d) (o iv : Value) : subscripted i false o iv = operate [o, iv] (getItem o iv) := by
  cases n with
  | zero => cases h
  | succ n =>
    cases i with
    | Slice _ _ _ _ => exact nope h
    | _ => rfl
theorem sub_step {cf : Orc} {K : Frag} {m n : Nat} (he : ESe cf K prog w m n) {sc : List (Str × NameKind)} {ρ : List (Str × Dt)} {v i : Expr} {pos : Pos} {a b d : Dt} {X : List Addr} (h1 : ev cf n sc ρ v = some a) (h2 : ev cf n sc ρ i = some b) (h3 : itemD a b = some d) (S : ScOk sc env) (N : EnvOk s.heap X env ρ) (G : Gd K s.heap) (R : Rm A m) :
    wpAny (model prog w) A (eval (.Subscript v i pos) env) (fun v s' => Keeps s s' ∧ V s'.heap X d v) E s := by
  refine Subscript_ (mono2 (he sc ρ v _ env A E s X h1 S N G R) fun r s₁ k₁ hr => ?_)
  refine mono2 (he sc ρ i _ env A E s₁ X h2 S (N.ext (Keeps.ext k₁)) (G.ext (Keeps.ext k₁)) R) fun u s₂ k₂ hu => ?_
  have hr₂ := hr.ext (Keeps.ext k₂)
  obtain ⟨T, id, hT, hl⟩ := item_type h3 hr₂
  exact tail_any hT hl (itemD_sound h3 hr₂ hu fun r s' k hV => ⟨Keeps.trans' (Keeps.trans' k₁ k₂) k, hV⟩) (sub_starred h2 _ _)
theorem base_ok {o : Expr} (hb : baseOk o = true) (name : Str) (env : Env) : attributeBase o name env (eval o env) = eval o env := by
  cases o with
  | Constant => rfl
  | Name => rfl
  | Call f a k pos =>
    obtain ⟨h1, h2⟩ := Bool.and_eq_true_iff.mp (show (a.isEmpty && k.isEmpty && noSup f) = true from hb)
    obtain ⟨h3, h4⟩ := Bool.and_eq_true_iff.mp h1
    obtain rfl := List.isEmpty_iff.mp h3
    obtain rfl := List.isEmpty_iff.mp h4
    unfold noSup at h2
    cases hn : nm0 f with
    | none => rw [hn] at h2; cases h2
    | some id =>
      rw [hn] at h2
      obtain ⟨p, rfl⟩ := nm0_x hn
      unfold attributeBase
      dsimp only
      rw [show (id != ("super" : Str)) = true from h2]
      rfl
  | _ => exact nof hb
theorem meth_step {cf : Orc} {K : Frag} {m n : Nat} (he : ESe cf K prog w m n) {sc : List (Str × NameKind)} {ρ : List (Str × Dt)} {o a : Expr} {name : Str} {apos pos : Pos} {d : Dt} {X : List Addr} (h : ev cf (n + 1) sc ρ (.Call (.Attribute o name apos) [a] [] pos) = some d) (S : ScOk sc env) (N : EnvOk s.heap X env ρ) (G : Gd K s.heap) (R : Rm A m) :
    wpAny (model prog w) A (eval (.Call (.Attribute o name apos) [a] [] pos) env) (fun v s' => Keeps s s' ∧ V s'.heap X d v) E s := by
  rw [ev_meth] at h
  split at h
  · rename_i hc
    simp only [Bool.and_eq_true] at hc
    split at h
    · rename_i x y h1 h2
      refine Call_method1 (base_ok hc.1 _ _) (notStar_ev h2 [] env) hc.2 (mono2 (he sc ρ o x env A E s X h1 S N G R) fun ov s₁ k₁ hov => ?_)
      have ha := fun E => he sc ρ a y env A E s₁ X h2 S (N.ext (Keeps.ext k₁)) (G.ext (Keeps.ext k₁)) R
      unfold methD at h
      split at h
      · rename_i hn
        have hn' : name = Str.ofString "join" := by simpa using hn
        subst hn'
        split at h
        · rename_i x l
          split at h
          · rename_i hl
            obtain ⟨ss, hss, h⟩ := Option.bind_eq_some_iff.mp h
            split at h
            · rename_i hj
              cases h
              unfold V at hov
              obtain ⟨t, rfl⟩ := hov
              refine SB.join (mono2 (ha E) fun v s₂ k₂ hv => ?_)
              unfold V at hv
              obtain ⟨q, ws, rfl, hq, hlist, hw⟩ := hv
              obtain ⟨p, rfl, hp⟩ := allStrs_vals hss hw
              exact ⟨q, p, rfl, hlist, ss, hp, hj, fun t' k => ⟨Keeps.trans' (Keeps.trans' k₁ k₂) (Keeps.tok k), by unfold V; exact ⟨_, rfl⟩⟩⟩
            · cases h
          · cases h
        · cases h
      · split at h
        · rename_i hn
          have hn' : name = Str.ofString "index" := by simpa using hn
          subst hn'
          split at h
          · rename_i x z
            split at h
            · rename_i hj
              cases h
              unfold V at hov
              obtain ⟨t, rfl⟩ := hov
              refine SB.indexFound (mono2 (ha E) fun v s₂ k₂ hv => ?_)
              unfold V at hv
              obtain ⟨u, rfl⟩ := hv
              exact ⟨z, u, rfl, hj, ⟨Keeps.trans' (Keeps.trans' k₁ k₂) (Keeps.tok _), by unfold V; exact ⟨_, rfl⟩⟩⟩
            · cases h
          · cases h
        · cases h
    · cases h
  · cases h
theorem comp_step {cf : Orc} {K : Frag} {m n : Nat} (he : ESe cf K prog w m n) (ht : ESt cf K prog w m n) {sc : List (Str × NameKind)} {ρ : List (Str × Dt)} {elt iter : Expr} {x : Str} {px pos : Pos} {ifs : List Expr} {csc : Scope} {d : Dt} {X : List Addr} (h : ev cf (n + 1) sc ρ (.ListComp elt [⟨.Name x px, iter, ifs, 0⟩] csc pos) = some d) (S : ScOk sc env) (N : EnvOk s.heap X env ρ) (G : Gd K s.heap) (R : Rm A m) :
    wpAny (model prog w) A (eval (.ListComp elt [⟨.Name x px, iter, ifs, 0⟩] csc pos) env) (fun v s' => Keeps s s' ∧ V s'.heap X d v) E s := by
  rw [ev_comp] at h
  split at h
  · rename_i it h1
    split at h
    · rename_i items h2
      split at h
      · rename_i hc
        simp only [Bool.and_eq_true, decide_eq_true_eq, beq_iff_eq] at hc
        obtain ⟨out, ho, rfl⟩ := Option.map_eq_some_iff.mp h
        refine comp_sound S N G R.1 hc.1.1 hc.1.2 hc.2 (set_ev h1 env) (he sc ρ iter it env A E s X h1 S N G R) h2 ho ?_ ?_
        · intro d hd y hy cenv s' X' E' N' S' G'
          unfold compF at hy
          split at hy
          · obtain ⟨z, hz, rfl⟩ := Option.map_eq_some_iff.mp hy
            exact wpAny_tests_nil ⟨Keeps.refl' _, rfl⟩
          · rename_i c
            refine wpAny_tests_one ?_
            split at hy
            · rename_i hb
              obtain ⟨z, hz, rfl⟩ := Option.map_eq_some_iff.mp hy
              exact ht _ _ c true cenv A E' s' X' hb S' N' G' R
            · rename_i hb
              cases hy
              exact ht _ _ c false cenv A E' s' X' hb S' N' G' R
            · cases hy
          · cases hy
        · intro d hd y hy cenv s' X' E' N' S' G'
          have : ev cf n csc.names ((x, d) :: ρ) elt = some y := by
            unfold compF at hy
            split at hy
            · obtain ⟨z, hz, e⟩ := Option.map_eq_some_iff.mp hy
              cases e; exact hz
            · split at hy
              · obtain ⟨z, hz, e⟩ := Option.map_eq_some_iff.mp hy
                cases e; exact hz
              · cases hy
              · cases hy
            · cases hy
          exact he _ _ elt y cenv A E' s' X' this S' N' G' R
      · cases h
    · cases h
  · cases h
theorem call_step {cf : Orc} {K : Frag} {m n : Nat} (B : Bn K) (C : CF K prog w m cf) (hs : ESs cf K prog w m n) (hk : ESk cf K prog w m n) {sc : List (Str × NameKind)} {ρ : List (Str × Dt)} {f : Str} {args : List Expr} {kws : List Keyword} {p pos : Pos} {d : Dt} {X : List Addr} (h : ev cf (n + 1) sc ρ (.Call (.Name f p) args kws pos) = some d) (S : ScOk sc env) (N : EnvOk s.heap X env ρ) (G : Gd K s.heap) (R : Rm A m) :
    wpAny (model prog w) A (eval (.Call (.Name f p) args kws pos) env) (fun v s' => Keeps s s' ∧ V s'.heap X d v) E s := by
  rw [ev_call] at h
  split at h
  · cases h
  · rename_i hd
    rw [Bool.not_eq_true] at hd
    split at h
    · rename_i hg
      have hkg := kind_glob S hg
      split at h
      · rename_i ds ks h1 h2
        have hall := hk sc ρ kws ks env A E s X pos h2 S N G R
        have hsp := hs sc ρ args ds env A E s X pos h1 S N G R
        have go : ∀ fv, (∀ h, K.In h → FnV h fv) → (∀ (s' : Shared) (vs kvs : List Value), Keeps s s' → VL s'.heap X ds vs → VL s'.heap X (ks.map (·.2)) kvs → wpAny (model prog w) A (call fv vs ((ks.map (·.1)).zip kvs)) (fun r s'' => Keeps s s'' ∧ V s''.heap X d r) E s') →
            wpAny (model prog w) A (callWith pos fv [] (backTo pos (starEach args env)) (backToKw pos (keywordEach kws env))) (fun v s' => Keeps s s' ∧ V s'.heap X d v) E s := fun fv hfv hcall => by
          have hplain : ((backTo pos (starEach args env)).any (·.1) || (backToKw pos (keywordEach kws env)).any (·.1.isNone)) = false := by
            rw [hsp.1, Bool.false_or]
            have := hall.1
            rw [List.all_eq_true] at this
            rw [List.any_eq_false]
            intro q hq
            have := this q hq
            cases hq1 : q.1 with
            | none => rw [hq1] at this; cases this
            | some _ => simp
          refine callWith_of (P := K.In) hplain (fun h hK => (hfv h hK).keeps) ?_
          refine evalArgs_any hsp.1 hall.1 (mono2 hsp.2 fun vs s₁ k₁ hvs => ?_)
          refine mono2 (hk sc ρ kws ks env A E s₁ X pos h2 S (N.ext (Keeps.ext k₁)) (G.ext (Keeps.ext k₁)) R).2.2 fun kvs s₂ k₂ hkvs => ?_
          have k₁₂ := Keeps.trans' k₁ k₂
          refine ⟨(G.ext (Keeps.ext k₁₂)).kin, ?_⟩
          rw [hall.2.1]
          exact hcall s₂ vs kvs k₁₂ (hvs.ext (Keeps.ext k₂)) hkvs
        refine wpAny_Call_Name_kw ?_
        split at h
        · rename_i hb
          have hb' : f ∈ bltNames := by simpa using hb
          split at h
          · rename_i hks
            have hks' : ks = [] := by simpa using hks
            subst hks'
            obtain ⟨fv, e1, e2, e3, e4⟩ := blt_boot (h := s.heap) hb'
            refine blt_name G N hkg (B f (List.mem_append_left _ hb')) e1 e4 hd (go fv (fun h _ => ?_) fun s' vs kvs k hvs hkvs => ?_)
            · obtain ⟨fv', q1, q2, q3, q4⟩ := blt_boot (h := h) hb'
              rw [e1] at q1; cases q1; exact q3
            · have : kvs = [] := by unfold VL at hkvs; exact hkvs
              subst this
              refine wpAny_mono (bltD_sound h e2 (N.ext (Keeps.ext k)).live hvs R.1) (fun r s'' q => ⟨Keeps.trans' k q.1, q.2⟩) fun _ _ x => x
          · cases h
        · obtain ⟨fv, e1, e2, e3⟩ := C f ds ks d h
          refine glob_name G N hkg e1 hd (go fv e2 fun s' vs kvs k hvs hkvs => ?_)
          exact wpAny_mono (e3 A E s' X vs kvs R (G.ext (Keeps.ext k)) (N.ext (Keeps.ext k)).live hvs hkvs) (fun r s'' q => ⟨Keeps.trans' k q.1, q.2⟩) fun _ _ x => x
      · cases h
    · cases h
theorem ev_step {cf : Orc} {K : Frag} {m n : Nat} (B : Bn K) (CG' : CG K cf) (C : CF K prog w m cf) (he : ESe cf K prog w m n) (hs : ESs cf K prog w m n) (hk : ESk cf K prog w m n) (ht : ESt cf K prog w m n) : ESe cf K prog w m (n + 1) := by
  intro sc ρ e d env A E s X h S N G R
  cases e with
  | Constant c k p =>
    cases c with
    | none => exact wpAny_Constant_none (okD (show some Dt.none = some d from h) ⟨Keeps.refl' s, Eq.refl _⟩)
    | bool b => exact wpAny_Constant_bool (okD (show some (Dt.bool b) = some d from h) ⟨Keeps.refl' s, Eq.refl _⟩)
    | int i => exact fun _ _ _ => okI (show some (Dt.int i) = some d from h)
    | str x => exact wpAny_Constant_str (okS (show some (Dt.str x) = some d from h))
    | bytes b => exact fun _ _ _ => okD h ⟨Keeps.tok _, Exists.intro _ rfl⟩
    | _ => exact nope h
  | Name x p => exact name_step B CG' h S N G
  | BinOp l op r p =>
    rw [ev_bin] at h
    split at h
    · rename_i a b h1 h2
      refine wpAny_BinOp (mono2 (he sc ρ l a env A E s X h1 S N G R) fun v s₁ k₁ hv => ?_)
      refine mono2 (he sc ρ r b env A E s₁ X h2 S (N.ext (Keeps.ext k₁)) (G.ext (Keeps.ext k₁)) R) fun u s₂ k₂ hu => ?_
      have k₁₂ := Keeps.trans' k₁ k₂
      exact wpAny_mono (binD_sound h (N.ext (Keeps.ext k₁₂)).live (hv.ext (Keeps.ext k₂)) hu) (fun r s₃ q₃ => ⟨Keeps.trans' k₁₂ q₃.1, q₃.2⟩) fun _ _ x => x
    · cases h
  | UnaryOp op x p =>
    cases op with
    | USub =>
      rw [ev_neg] at h
      split at h
      · rename_i i h1
        cases h
        refine wpAny_UnaryOp (mono2 (he sc ρ x _ env A E s X h1 S N G R) fun v s₁ k₁ hv => ?_)
        unfold V at hv
        obtain ⟨t, rfl⟩ := hv
        exact PyProof.Rows.neg_int ⟨Keeps.trans' k₁ (Keeps.tok _), by unfold V; exact ⟨_, rfl⟩⟩
      · cases h
    | _ => exact nope h
  | IfExp t a b p =>
    rw [ev_if] at h
    split at h
    · rename_i hb
      refine wpAny_IfExp (mono2 (ht sc ρ t true env A E s X hb S N G R) fun r s₁ k₁ qq1 => ?_)
      obtain rfl := qq1
      exact wpAny_mono (he sc ρ a d env A E s₁ X h S (N.ext (Keeps.ext k₁)) (G.ext (Keeps.ext k₁)) R) (fun r s₂ q₂ => ⟨Keeps.trans' k₁ q₂.1, q₂.2⟩) fun _ _ x => x
    · rename_i hb
      refine wpAny_IfExp (mono2 (ht sc ρ t false env A E s X hb S N G R) fun r s₁ k₁ qq1 => ?_)
      obtain rfl := qq1
      exact wpAny_mono (he sc ρ b d env A E s₁ X h S (N.ext (Keeps.ext k₁)) (G.ext (Keeps.ext k₁)) R) (fun r s₂ q₂ => ⟨Keeps.trans' k₁ q₂.1, q₂.2⟩) fun _ _ x => x
    · cases h
  | Compare l ops cs p =>
    rcases ops with _ | ⟨op, _ | ⟨op', ops⟩⟩ <;> rcases cs with _ | ⟨r, _ | ⟨r', cs⟩⟩
    all_goals first
      | (exact nope h)
      | skip
    rw [ev_cmp] at h
    split at h
    · rename_i a b h1 h2
      obtain ⟨c, hc, rfl⟩ := Option.map_eq_some_iff.mp h
      refine wpAny_Compare1 (wpAny_mono (he sc ρ l a env A E s X h1 S N G R) (fun v s₁ q₁ => ?_) fun _ _ x => x) (noMarks h2 op)
      obtain ⟨k₁, hv⟩ := q₁
      refine mono2 (he sc ρ r b env A E s₁ X h2 S (N.ext (Keeps.ext k₁)) (G.ext (Keeps.ext k₁)) R) fun u s₂ k₂ hu => ?_
      exact cmpD_sound hc (hv.ext (Keeps.ext k₂)) hu R.units ⟨Keeps.trans' k₁ k₂, by unfold V; rfl⟩
    · cases h
  | List es p =>
    rw [ev_list] at h
    split at h
    · rename_i hle
      obtain ⟨ds, hds, rfl⟩ := Option.map_eq_some_iff.mp h
      refine PyProof.Rows.List_ (mono2 (hs sc ρ es ds env A E s X p hds S N G R).2 fun vs s₁ k₁ hvs => ?_)
      refine wpAny_newList ⟨Keeps.trans' k₁ (Keeps.of_heap fun b o e => Heap.get?_push_of_some _ e), list_push (N.ext (Keeps.ext k₁)).live hvs⟩ ?_
      have : ∀ (es : List Expr) (n : Nat) (ds : List Dt), evs cf n sc ρ es = some ds → ds.length = es.length := by
        intro es
        induction es with
        | nil => intro n ds h; cases n with
          | zero => cases h
          | succ n => rw [evs_nil] at h; cases h; rfl
        | cons e r ih => intro n ds h; cases n with
          | zero => cases h
          | succ n =>
            rw [evs_cons] at h
            split at h
            · rename_i q; cases h; simp [ih _ _ q]
            · cases h
      rw [hvs.length, this es n ds hds, sizeLine_eq]; lia
    · cases h
  | ListComp elt gens csc p =>
    obtain ⟨z, hz⟩ := lc_hd h
    obtain rfl := compHd_x hz
    exact comp_step he ht h S N G R
  | Call f args kws p =>
    cases f with
    | Name x px => exact call_step B C hs hk h S N G R
    | Attribute o name apos =>
      rcases args with _ | ⟨a, _ | ⟨a', args⟩⟩ <;> rcases kws with _ | ⟨k, kws⟩
      all_goals first
        | (exact nope h)
        | skip
      exact meth_step he h S N G R
    | _ => exact nope h
  | Subscript v i p =>
    cases hs : sliceOf i with
    | some z =>
      obtain ⟨lo, hi, st⟩ := z
      obtain ⟨sp, rfl⟩ := sliceOf_x hs
      exact slice_step he h S N G R
    | none =>
      rw [ev_sub hs] at h
      split at h
      · rename_i a b h1 h2
        exact sub_step he h1 h2 h S N G R
      · cases h
  | _ => exact nope h
theorem ev_sound {cf : Orc} {K : Frag} {m : Nat} (B : Bn K) (CG' : CG K cf) (C : CF K prog w m cf) : ∀ n, ESe cf K prog w m n ∧ ESs cf K prog w m n ∧ ESk cf K prog w m n ∧ ESt cf K prog w m n ∧ ESa cf K prog w m n
  | 0 => by
    refine ⟨?_, ?_, ?_, ?_, ?_⟩
    · intro sc ρ e d env A E s X h; exact nope h
    · intro sc ρ e d env A E s X pos h; exact nope h
    · intro sc ρ e d env A E s X pos h; exact nope h
    · intro sc ρ e d env A E s X h; exact nope h
    · intro sc ρ op e d env A E s X h; exact nope h
  | n + 1 => by
    obtain ⟨he, hs, hk, ht, ha⟩ := ev_sound B CG' C n
    exact ⟨ev_step B CG' C he hs hk ht, evs_step he hs, evk_step he hk, tst_step he ht ha, tsts_step ht ha⟩
end Mine
end
section
open PySem PySem.W PyProof.Rows
namespace Mine
end Mine
end
section
open PySem PySem.W PyProof.Rows
set_option genInjectivity false
set_option genSizeOfSpec false
set_option maxRecDepth 100000
namespace Mine
noncomputable def upd : List (Str × Dt) → Str → Dt → List (Str × Dt)
  | [], x, d => [(x, d)]
  | (y, v) :: r, x, d => if y == x then (x, d) :: r else (y, v) :: upd r x d
theorem upd_lookup (x y : Str) (d : Dt) : ∀ ρ : List (Str × Dt), (upd ρ x d).lookup y = if y == x then some d else ρ.lookup y
  | [] => by
    unfold upd
    rw [List.lookup_cons]
    cases h : y == x <;> simp
  | (z, v) :: r => by
    unfold upd
    by_cases hz : (z == x) = true
    · rw [if_pos hz, List.lookup_cons, List.lookup_cons]
      have e : z = x := by simpa using hz
      subst e
      cases h : y == z <;> simp
    · rw [if_neg hz, List.lookup_cons, List.lookup_cons, upd_lookup x y d r]
      cases h : y == z with
      | true =>
        have e : y = z := by simpa using h
        subst e
        simp [hz]
      | false => rfl
inductive Fl where
  | next
  | cont
  | brk
  | ret (d : Dt)
noncomputable abbrev Sg := List (Str × Dt) × List Int
noncomputable def forGo (f : Dt → Sg → Option (Fl × Sg)) : List Dt → Sg → Option (Fl × Sg)
  | [], σ => some (.next, σ)
  | d :: r, σ => match f d σ with
    | some (.next, σ') => forGo f r σ'
    | some (.cont, σ') => forGo f r σ'
    | some (.brk, σ') => some (.next, σ')
    | some (.ret v, σ') => some (.ret v, σ')
    | Option.none => Option.none
noncomputable def whileGo (t : Sg → Option Bool) (f : Sg → Option (Fl × Sg)) : Nat → Sg → Option (Fl × Sg)
  | 0, _ => Option.none
  | n + 1, σ => match t σ with
    | some true => (match f σ with
      | some (.next, σ') => whileGo t f n σ'
      | some (.cont, σ') => whileGo t f n σ'
      | some (.brk, σ') => some (.next, σ')
      | some (.ret v, σ') => some (.ret v, σ')
      | Option.none => Option.none)
    | some false => some (.next, σ)
    | Option.none => Option.none
noncomputable def canSet (sc : List (Str × NameKind)) (x : Str) : Bool := sc.lookup x == some .local || sc.lookup x == some .cell
noncomputable def isOwn (oa : Option Addr) (sc : List (Str × NameKind)) (ρ : List (Str × Dt)) (y : Str) : Bool := y != Str.ofString "__debug__" && y != Str.ofString "__classdict__" && isLoc sc y && (match ρ.lookup y, oa with
  | some (.opq (.ref b)), some a => a == b
  | _, _ => false)
noncomputable def tgt (ts : List Expr) : Option Str := match ts with
  | [t] => (match t with
    | .Name x _ => some x
    | _ => Option.none)
  | _ => Option.none
theorem tgt_x {ts : List Expr} {x : Str} (h : tgt ts = some x) : ∃ p, ts = [.Name x p] := by
  rcases ts with _ | ⟨t, _ | _⟩
  · cases h
  · cases t with
    | Name x p => cases h; exact ⟨p, rfl⟩
    | _ => exact nope h
  · cases h
noncomputable def nm1 (e : Expr) : Option Str := match e with
  | .Name x _ => some x
  | _ => Option.none
theorem nm1_x {e : Expr} {x : Str} (h : nm1 e = some x) : ∃ p, e = .Name x p := by
  cases e with
  | Name x p => cases h; exact ⟨p, rfl⟩
  | _ => exact nope h
noncomputable def ownRet (e : Expr) : Option (Str × Str) := match e with
  | .Call f args kws _ => (match nm1 f with
    | some f => (match tgt args with
      | some y => (match kws with
        | [] => some (f, y)
        | _ => Option.none)
      | Option.none => Option.none)
    | Option.none => Option.none)
  | _ => Option.none
theorem ownRet_x {e : Expr} {f y : Str} (h : ownRet e = some (f, y)) : ∃ p py q, e = .Call (.Name f p) [.Name y py] [] q := by
  cases e with
  | Call g args kws q =>
    have h : (match (generalizing := false) nm1 g with
      | some f => (match (generalizing := false) tgt args with
        | some y => (match (generalizing := false) kws with
          | [] => some (f, y)
          | _ => Option.none)
        | Option.none => Option.none)
      | Option.none => Option.none) = some (f, y) := h
    cases h1 : nm1 g with
    | none => rw [h1] at h; cases h
    | some f' =>
      rw [h1] at h
      cases h2 : tgt args with
      | none => rw [h2] at h; cases h
      | some y' =>
        rw [h2] at h
        cases kws with
        | nil =>
          cases h
          obtain ⟨p, rfl⟩ := nm1_x h1
          obtain ⟨py, rfl⟩ := tgt_x h2
          exact ⟨p, py, q, rfl⟩
        | cons _ _ => cases h
  | _ => exact nope h
structure ApC where
  y : Str
  ap : Str
  apos : Pos
  e : Expr
  pos : Pos
noncomputable def apHd (e : Expr) : Option ApC := match e with
  | .Call f args kws pos => (match f with
    | .Attribute o ap apos => (match nm1 o with
      | some y => (match args with
        | [e] => (match kws with
          | [] => some ⟨y, ap, apos, e, pos⟩
          | _ => Option.none)
        | _ => Option.none)
      | Option.none => Option.none)
    | _ => Option.none)
  | _ => Option.none
theorem apHd_x {e : Expr} {z : ApC} (h : apHd e = some z) : ∃ py, e = .Call (.Attribute (.Name z.y py) z.ap z.apos) [z.e] [] z.pos := by
  cases e with
  | Call f args kws pos => cases f with
    | Attribute o ap apos =>
      have h : (match (generalizing := false) nm1 o with
        | some y => (match (generalizing := false) args with
          | [e] => (match (generalizing := false) kws with
            | [] => some (⟨y, ap, apos, e, pos⟩ : ApC)
            | _ => Option.none)
          | _ => Option.none)
        | Option.none => Option.none) = some z := h
      cases h1 : nm1 o with
      | none => rw [h1] at h; cases h
      | some y =>
        rw [h1] at h
        rcases args with _ | ⟨e, _ | _⟩
        · cases h
        · cases kws with
          | nil =>
            cases h
            obtain ⟨py, rfl⟩ := nm1_x h1
            exact ⟨py, rfl⟩
          | cons _ _ => cases h
        · cases h
    | _ => exact nope h
  | _ => exact nope h
mutual
noncomputable def ex1 (cf : Orc) (oa : Option Addr) : Nat → List (Str × NameKind) → Sg → Stmt → Option (Fl × Sg)
  | 0, _, _, _ => Option.none
  | n + 1, sc, σ, st => match st with
    | .Assign ts e _ => (match tgt ts with
      | some x => if canSet sc x then (ev cf n sc σ.1 e).map fun d => (.next, (upd σ.1 x d, σ.2)) else Option.none
      | Option.none => Option.none)
    | .If t a b _ => match tst cf n sc σ.1 t with
      | some true => exs cf oa n sc σ a
      | some false => exs cf oa n sc σ b
      | Option.none => Option.none
    | .Return v _ => (match v with
      | some e => (match ownRet e with
        | some z => if z.1 == Str.ofString "bytes" && sc.lookup z.1 == some .globalImplicit && isOwn oa sc σ.1 z.2 then
            (if σ.2.length ≤ 1000 ∧ σ.2.all (fun n => decide (0 ≤ n ∧ n < 256)) = true then some (.ret (.bytes (σ.2.map fun n => n.toNat.toUInt8)), σ) else Option.none)
          else (ev cf n sc σ.1 e).map fun d => (.ret d, σ)
        | Option.none => (ev cf n sc σ.1 e).map fun d => (.ret d, σ))
      | Option.none => Option.none)
    | .Continue _ => some (.cont, σ)
    | .Expr e _ => (match apHd e with
      | some z => if z.ap == Str.ofString "append" && (z.apos.endLine == z.pos.line) && isOwn oa sc σ.1 z.y && decide (σ.2.length ≤ 1000) then (match ev cf n sc σ.1 z.e with
        | some (.int i) => some (.next, (σ.1, σ.2 ++ [i]))
        | _ => Option.none) else Option.none
      | Option.none => Option.none)
    | .For t iter body orelse _ => (match nm1 t with
      | some x => (match orelse with
        | [] => if canSet sc x then (match ev cf n sc σ.1 iter with
          | some it => (match itemsD it with
            | some items => forGo (fun d σ => exs cf oa n sc (upd σ.1 x d, σ.2) body) items σ
            | Option.none => Option.none)
          | Option.none => Option.none) else Option.none
        | _ => Option.none)
      | Option.none => Option.none)
    | .While t body orelse _ => (match orelse with
      | [] => whileGo (fun σ => tst cf n sc σ.1 t) (fun σ => exs cf oa n sc σ body) n σ
      | _ => Option.none)
    | _ => Option.none
noncomputable def exs (cf : Orc) (oa : Option Addr) : Nat → List (Str × NameKind) → Sg → List Stmt → Option (Fl × Sg)
  | 0, _, _, _ => Option.none
  | n + 1, sc, σ, b => match b with
    | [] => some (.next, σ)
    | st :: r => match ex1 cf oa n sc σ st with
      | some (.next, σ') => exs cf oa n sc σ' r
      | some (f, σ') => some (f, σ')
      | Option.none => Option.none
end
section
variable {cf : Orc} {oa : Option Addr} {n : Nat} {sc : List (Str × NameKind)} {σ : Sg}
theorem ex_assign {x : Str} {px p : Pos} {e : Expr} : ex1 cf oa (n + 1) sc σ (.Assign [.Name x px] e p) = if canSet sc x then (ev cf n sc σ.1 e).map fun d => (.next, (upd σ.1 x d, σ.2)) else Option.none := rfl
theorem ex_if {t : Expr} {a b : List Stmt} {p : Pos} : ex1 cf oa (n + 1) sc σ (.If t a b p) = (match tst cf n sc σ.1 t with
      | some true => exs cf oa n sc σ a
      | some false => exs cf oa n sc σ b
      | Option.none => Option.none) := rfl
theorem ex_append {y ap : Str} {py apos pos p : Pos} {e : Expr} : ex1 cf oa (n + 1) sc σ (.Expr (.Call (.Attribute (.Name y py) ap apos) [e] [] pos) p) = (if ap == Str.ofString "append" && (apos.endLine == pos.line) && isOwn oa sc σ.1 y && decide (σ.2.length ≤ 1000) then (match ev cf n sc σ.1 e with
        | some (.int i) => some (.next, (σ.1, σ.2 ++ [i]))
        | _ => Option.none) else Option.none) := rfl
theorem ex_for {x : Str} {px p : Pos} {iter : Expr} {body : List Stmt} : ex1 cf oa (n + 1) sc σ (.For (.Name x px) iter body [] p) = (if canSet sc x then (match ev cf n sc σ.1 iter with
      | some it => (match itemsD it with
        | some items => forGo (fun d σ => exs cf oa n sc (upd σ.1 x d, σ.2) body) items σ
        | Option.none => Option.none)
      | Option.none => Option.none) else Option.none) := rfl
theorem ex_while {t : Expr} {body : List Stmt} {p : Pos} : ex1 cf oa (n + 1) sc σ (.While t body [] p) = whileGo (fun σ => tst cf n sc σ.1 t) (fun σ => exs cf oa n sc σ body) n σ := rfl
theorem ex_retown {f y : Str} {p py q r : Pos} : ex1 cf oa (n + 1) sc σ (.Return (some (.Call (.Name f p) [.Name y py] [] q)) r) = (if f == Str.ofString "bytes" && sc.lookup f == some .globalImplicit && isOwn oa sc σ.1 y then
          (if σ.2.length ≤ 1000 ∧ σ.2.all (fun n => decide (0 ≤ n ∧ n < 256)) = true then some (.ret (.bytes (σ.2.map fun n => n.toNat.toUInt8)), σ) else Option.none)
        else (ev cf n sc σ.1 (.Call (.Name f p) [.Name y py] [] q)).map fun d => (.ret d, σ)) := rfl
end
theorem exs_nil {cf : Orc} {oa : Option Addr} {n : Nat} {sc : List (Str × NameKind)} {σ : Sg} : exs cf oa (n + 1) sc σ [] = some (.next, σ) := rfl
theorem exs_cons {cf : Orc} {oa : Option Addr} {n : Nat} {sc : List (Str × NameKind)} {σ : Sg} {st : Stmt} {r : List Stmt} : exs cf oa (n + 1) sc σ (st :: r) = (match ex1 cf oa n sc σ st with
    | some (.next, σ') => exs cf oa n sc σ' r
    | some (f, σ') => some (f, σ')
    | Option.none => Option.none) := rfl
theorem ex_cont {cf : Orc} {oa : Option Addr} {n : Nat} {sc : List (Str × NameKind)} {σ : Sg} {p : Pos} : ex1 cf oa (n + 1) sc σ (.Continue p) = some (.cont, σ) := rfl
noncomputable def Wr (env : Env) (oa : Option Addr) : List Addr := env.locals :: (env.cells.map (·.2) ++ oa.toList)
structure Sep (X : List Addr) (env : Env) (oa : Option Addr) : Prop where
  sub : ∀ b ∈ Wr env oa, b ∈ X
  cl : ∀ x c, env.cells.lookup x = some c → c ≠ env.locals
  inj : ∀ x y c, env.cells.lookup x = some c → env.cells.lookup y = some c → x = y
  ol : ∀ a, oa = some a → a ≠ env.locals ∧ ∀ x c, env.cells.lookup x = some c → c ≠ a
structure StOk (h : Heap) (X : List Addr) (env : Env) (oa : Option Addr) (σ : Sg) : Prop where
  env : EnvOk h X env σ.1
  own : ∀ a, oa = some a → ∃ vs, h.PlainList a (List.toArray vs) ∧ IntsAre vs σ.2
noncomputable def FlOk (h : Heap) (X : List Addr) : Fl → Flow → Prop
  | .next, f => f = .next
  | .cont, f => f = .cont
  | .brk, f => f = .brk
  | .ret d, f => ∃ v, f = .ret v ∧ V h X d v
theorem StOk.ext {h h' : Heap} {X : List Addr} {env : Env} {oa : Option Addr} {σ : Sg} (x : StOk h X env oa σ) (k : Ext h h') : StOk h' X env oa σ :=
  ⟨x.env.ext k, fun a ha => let ⟨vs, p, i⟩ := x.own a ha; ⟨vs, p.at fun o e => k _ o e, i⟩⟩
theorem Wr.loc (env : Env) (oa : Option Addr) : env.locals ∈ Wr env oa := .head _
theorem Wr.cel {env : Env} {oa : Option Addr} {x : Str} {c : Addr} (h : env.cells.lookup x = some c) : c ∈ Wr env oa :=
  .tail _ (List.mem_append_left _ (List.mem_map.mpr ⟨_, mem_of_lookup h, rfl⟩))
theorem Wr.own {env : Env} {oa : Option Addr} {a : Addr} (h : oa = some a) : a ∈ Wr env oa := .tail _ (List.mem_append_right _ (by rw [h]; simp))
variable {prog : Program} {w : World} {A : Around} {E : Value → Shared → Prop} {s : Shared} {env : Env}
theorem KeepsW.sameBut {W : List Addr} {s : Shared} {c : Addr} {h' : Heap} (hc : c ∈ W) (hl : ∃ o, h'.get? c = some o) (hs : Heap.SameBut c s.heap h') (tk : Nat) : KeepsW W s { s with heap := h', toks := tk } :=
  ⟨h', tk, rfl, fun b o n e => hs.extBut b o (fun q => n (q ▸ hc)) e, fun b hb e => by
    by_cases q : b = c
    · rw [q]; exact hl
    · obtain ⟨o, ho⟩ := e; exact ⟨o, hs.extBut b o q ho⟩⟩
theorem Ns.ob {h : Heap} {a : Addr} {m : Str → Option Value} (hn : h.Ns a m) : ∃ o, h.get? a = some o := by obtain ⟨o, _, _, ho, _⟩ := hn; exact ⟨o, ho⟩
theorem set_loc {X W : List Addr} {oa : Option Addr} {σ : Sg} {x : Str} {d : Dt} {v : Value} (hk : env.kindOf x = some .local) (hW : env.locals ∈ W) (P : Sep X env oa) (N : StOk s.heap X env oa σ) (hv : V s.heap X d v) :
    wpAny (model prog w) A (storeName env x v) (fun _ s' => KeepsW W s s' ∧ StOk s'.heap X env oa (upd σ.1 x d, σ.2)) E s := by
  obtain ⟨m, hn, hm⟩ := N.env.loc
  refine wpAny_storeName_local hk hn (fun h' hn' hs => ?_) (by rw [N.env.kind]; rfl)
  have kw := KeepsW.sameBut (s := s) hW (Ns.ob hn') hs (s.toks + 1)
  have lX := P.sub _ (Wr.loc env oa)
  have kV : ∀ {d : Dt} {v : Value}, V s.heap X d v → V h' X d v := fun {d v} y => V.keep (fun b o hb e => hs.extBut b o (fun q => hb (q ▸ lX)) e) d v y
  have L : Live h' X := fun a ha => by
    by_cases q : a = env.locals
    · rw [q]; exact Ns.ob hn'
    · obtain ⟨o, ho⟩ := N.env.live a ha; exact ⟨o, hs.extBut a o q ho⟩
  refine ⟨kw, ⟨⟨N.env.kind, N.env.glob, N.env.blt, N.env.inX, L, ⟨_, hn', fun y d' e hy => ?_⟩, fun y hy => ?_⟩, fun a ha => (N.own a ha).imp fun _ q => ⟨q.1.at fun o e => hs.extBut a o (P.ol a ha).1 e, q.2⟩⟩⟩
  · rw [upd_lookup] at e
    by_cases q : (y == x) = true
    · rw [if_pos q] at e
      exact ⟨v, if_pos (eq_of_beq q), Option.some.inj e ▸ kV hv⟩
    · rw [if_neg q] at e
      obtain ⟨u, hu, hV⟩ := hm y d' e hy
      exact ⟨u, (if_neg fun z => q (beq_iff_eq.mpr z)).trans hu, kV hV⟩
  · obtain ⟨c, ov, hc1, ⟨o, ho, hd⟩, hc3, hc4⟩ := N.env.cel y hy
    refine ⟨c, ov, hc1, ⟨o, hs.extBut c o (P.cl y c hc1) ho, hd⟩, hc3, fun d' e => ?_⟩
    rw [upd_lookup, if_neg fun q => by
      rw [eq_of_beq q, hk] at hy
      rcases hy with hy | hy <;> cases hy] at e
    obtain ⟨u, hu, hV⟩ := hc4 d' e
    exact ⟨u, hu, kV hV⟩
theorem store_ok {sc : List (Str × NameKind)} {X : List Addr} {oa : Option Addr} {σ : Sg} {x : Str} {d : Dt} {v : Value} (hc : canSet sc x = true) (S : ScOk sc env) (P : Sep X env oa) (N : StOk s.heap X env oa σ) (hv : V s.heap X d v) :
    wpAny (model prog w) A (storeName env x v) (fun _ s' => KeepsW (Wr env oa) s s' ∧ StOk s'.heap X env oa (upd σ.1 x d, σ.2)) E s := by
  unfold canSet at hc
  rw [Bool.or_eq_true] at hc
  rcases hc with hc | hc
  · refine set_loc ?_ (Wr.loc env oa) P N hv
    rcases S x _ (by simpa using hc) with q | q
    · exact q
    · cases q.1
  · have hk : env.kindOf x = some .cell := by
      rcases S x _ (by simpa using hc) with q | q
      · exact q
      · cases q.1
    refine bc fun nG => ?_
    obtain ⟨c, ov, hc1, hc2, hc3, hc4⟩ := N.env.cel x (.inl hk)
    refine nG ?_
    refine wpAny_storeName_cell N.env.kind hk hc1 hc2 fun h' hn' hs => ?_
    have hL : ∃ o, h'.get? c = some o := by obtain ⟨o, ho, _⟩ := hn'; exact ⟨o, ho⟩
    have kw := KeepsW.sameBut (s := s) (Wr.cel (oa := oa) hc1) hL hs s.toks
    have keepX : ∀ b o, b ∉ X → s.heap.get? b = some o → h'.get? b = some o := fun b o hb e => hs.extBut b o (fun q => hb (q ▸ hc3)) e
    refine ⟨kw, ⟨⟨N.env.kind, N.env.glob, N.env.blt, N.env.inX, kw.live N.env.live, ?_, fun y hy => ?_⟩, fun a ha => ?_⟩⟩
    · refine bc fun nG => ?_
      obtain ⟨m, hn, hm⟩ := N.env.loc
      refine nG ?_
      refine ⟨m, hn.at' fun o e => hs.extBut _ o (Ne.symm (P.cl x c hc1)) e, fun y d' e hy => ?_⟩
      rw [upd_lookup] at e
      by_cases q : (y == x) = true
      · have e' : y = x := by simpa using q
        subst e'
        rw [hk] at hy; cases hy
      · rw [if_neg q] at e
        refine bc fun nG => ?_
        obtain ⟨u, hu, hV⟩ := hm y d' e hy
        refine nG ?_
        exact ⟨u, hu, V.keep keepX _ _ hV⟩
    · by_cases q : (y == x) = true
      · have e' : y = x := by simpa using q
        subst e'
        refine ⟨c, some v, hc1, hn', hc3, fun d' e => ?_⟩
        rw [upd_lookup, if_pos q] at e
        cases e
        exact ⟨v, rfl, V.keep keepX _ _ hv⟩
      · have e' : ¬ y = x := by simpa using q
        refine bc fun nG => ?_
        obtain ⟨c', ov', h1, ⟨o, ho, hd⟩, h3, h4⟩ := N.env.cel y hy
        refine nG ?_
        refine ⟨c', ov', h1, ⟨o, hs.extBut c' o (fun z => e' (P.inj y x c (z ▸ h1) hc1)) ho, hd⟩, h3, fun d' e => ?_⟩
        rw [upd_lookup, if_neg q] at e
        refine bc fun nG => ?_
        obtain ⟨u, hu, hV⟩ := h4 d' e
        refine nG ?_
        exact ⟨u, hu, V.keep keepX _ _ hV⟩
    · refine bc fun nG => ?_
      obtain ⟨vs, hp, hi⟩ := N.own a ha
      refine nG ?_
      exact ⟨vs, hp.at fun o e => hs.extBut a o (Ne.symm ((P.ol a ha).2 x c hc1)) e, hi⟩
end Mine
end
section
open PySem PySem.W PyProof.Rows
set_option maxRecDepth 100000
namespace Mine
variable {prog : Program} {w : World} {A : Around} {E : Value → Shared → Prop} {s : Shared} {env : Env}
structure PS (X : List Addr) (env : Env) (oa : Option Addr) (σ' : Sg) (fl : Fl) (s : Shared) (f : Flow) (s' : Shared) : Prop where
  k : KeepsW (Wr env oa) s s'
  st : StOk s'.heap X env oa σ'
  fl : FlOk s'.heap X fl f
theorem PS.pre {X : List Addr} {oa : Option Addr} {σ' : Sg} {fl : Fl} {s₁ s₂ : Shared} {f : Flow} (k : KeepsW (Wr env oa) s s₁) (q : PS X env oa σ' fl s₁ f s₂) : PS X env oa σ' fl s f s₂ := ⟨k.trans q.k, q.st, q.fl⟩
theorem monoP {M : Model} {t : Sem Flow} {X : List Addr} {oa : Option Addr} {σ' : Sg} {fl : Fl} {s s₁ : Shared} {Q : Flow → Shared → Prop} (h : wpAny M A t (PS X env oa σ' fl s) E s₁) (H : ∀ f s', KeepsW (Wr env oa) s s' → StOk s'.heap X env oa σ' → FlOk s'.heap X fl f → Q f s') : wpAny M A t Q E s₁ := wpAny_mono h (fun f s' q => H f s' q.k q.st q.fl) fun _ _ x => x
noncomputable def SS1 (cf : Orc) (oa : Option Addr) (K : Frag) (prog : Program) (w : World) (m n : Nat) : Prop :=
  ∀ (sc : List (Str × NameKind)) (σ : Sg) (st : Stmt) (fl : Fl) (σ' : Sg) (env : Env) (A : Around) (E : Value → Shared → Prop) (s : Shared) (X : List Addr), ex1 cf oa n sc σ st = some (fl, σ') → ScOk sc env → Sep X env oa → StOk s.heap X env oa σ → Gd K s.heap → GdW K (Wr env oa) → Rm A m →
    wpAny (model prog w) A (exec st env) (PS X env oa σ' fl s) E s
noncomputable def SSs (cf : Orc) (oa : Option Addr) (K : Frag) (prog : Program) (w : World) (m n : Nat) : Prop :=
  ∀ (sc : List (Str × NameKind)) (σ : Sg) (st : List Stmt) (fl : Fl) (σ' : Sg) (env : Env) (A : Around) (E : Value → Shared → Prop) (s : Shared) (X : List Addr), exs cf oa n sc σ st = some (fl, σ') → ScOk sc env → Sep X env oa → StOk s.heap X env oa σ → Gd K s.heap → GdW K (Wr env oa) → Rm A m →
    wpAny (model prog w) A (execs st env) (PS X env oa σ' fl s) E s
theorem exs_step {cf : Orc} {oa : Option Addr} {K : Frag} {m n : Nat} (h1 : SS1 cf oa K prog w m n) (hs : SSs cf oa K prog w m n) : SSs cf oa K prog w m (n + 1) := by
  intro sc σ st fl σ' env A E s X h S P N G GW R
  cases st with
  | nil =>
    rw [exs_nil] at h
    cases h
    exact wpAny_execs_nil ⟨KeepsW.of (Keeps.refl' s), N, rfl⟩
  | cons st r =>
    rw [exs_cons] at h
    cases he : ex1 cf oa n sc σ st with
    | none => rw [he] at h; cases h
    | some p =>
      obtain ⟨f1, σ1⟩ := p
      rw [he] at h
      refine wpAny_execs_cons (monoP (h1 sc σ st f1 σ1 env A E s X he S P N G GW R) fun f s₁ k₁ N₁ F₁ => ?_)
      cases f1 with
      | next =>
        have : f = .next := F₁
        subst this
        exact wpAny_mono (hs sc σ1 r fl σ' env A E s₁ X h S P N₁ (Gd.keepsW k₁ GW G) GW R) (fun f s₂ q => q.pre k₁) fun _ _ x => x
      | cont => have : f = .cont := F₁; subst this; cases h; exact ⟨k₁, N₁, rfl⟩
      | brk => have : f = .brk := F₁; subst this; cases h; exact ⟨k₁, N₁, rfl⟩
      | ret d =>
        obtain ⟨v, rfl, hv⟩ := F₁
        cases h; exact ⟨k₁, N₁, ⟨v, rfl, hv⟩⟩
theorem of_sing {α : Type} {b I : α} {l : List α} (q : b ∈ [I]) : b ∈ I :: l := by
  have e : b = I := by simpa using q
  rw [e]; exact .head _
theorem KeepsW.sub {W W' : List Addr} {s s' : Shared} (h : ∀ b ∈ W, b ∈ W') (k : KeepsW W s s') : KeepsW W' s s' := by
  obtain ⟨h1, t1, rfl, e1, l1⟩ := k
  exact ⟨h1, t1, rfl, fun b o n e => e1 b o (fun q => n (h b q)) e, fun b hb e => by
    by_cases q : b ∈ W
    · exact l1 b q e
    · obtain ⟨o, ho⟩ := e; exact ⟨o, e1 b o q ho⟩⟩
theorem Wr.of {oa : Option Addr} {b : Addr} (h : b = env.locals ∨ (∃ y, env.cells.lookup y = some b) ∨ oa = some b) : b ∈ Wr env oa := by
  rcases h with rfl | ⟨y, hy⟩ | h
  · exact Wr.loc _ _
  · exact Wr.cel hy
  · exact Wr.own h
theorem StOk.move {h h' : Heap} {X Y : List Addr} {oa : Option Addr} {σ : Sg} (N : StOk h X env oa σ) (kV : ∀ {d : Dt} {v : Value}, V h X d v → V h' Y d v) (iY : env.locals ∈ Y) (L : Live h' Y) (cY : ∀ y c, env.cells.lookup y = some c → c ∈ X → c ∈ Y)
    (kw : ∀ b o, (b = env.locals ∨ (∃ y, env.cells.lookup y = some b) ∨ oa = some b) → h.get? b = some o → h'.get? b = some o) : StOk h' Y env oa σ where
  env := by
    refine ⟨N.env.kind, N.env.glob, N.env.blt, iY, L, N.env.loc.imp fun m q => ⟨q.1.at' fun o e => kw _ o (.inl rfl) e, fun y d e hy => (q.2 y d e hy).imp fun _ z => ⟨z.1, kV z.2⟩⟩, fun y hy => ?_⟩
    obtain ⟨c, ov, a, ⟨o, ho, hd⟩, cx, e⟩ := N.env.cel y hy
    exact ⟨c, ov, a, ⟨o, kw _ o (.inr (.inl ⟨_, a⟩)) ho, hd⟩, cY _ _ a cx, fun d q => (e d q).imp fun _ z => ⟨z.1, kV z.2⟩⟩
  own := fun a ha => (N.own a ha).imp fun _ q => ⟨q.1.at fun o e => kw _ o (.inr (.inr ha)) e, q.2⟩
theorem StOk.frame {h h' : Heap} {X : List Addr} {oa : Option Addr} {σ : Sg} (P : Sep X env oa) (N : StOk h X env oa σ) (k : ∀ b o, b ∉ X ∨ b ∈ Wr env oa → h.get? b = some o → h'.get? b = some o) (L : Live h' X) : StOk h' X env oa σ :=
  N.move (fun x => V.keep (fun b o hb e => k b o (.inl hb) e) _ _ x) N.env.inX L (fun _ _ _ q => q) fun b o hb e => k b o (.inr (Wr.of hb)) e
theorem StOk.growW {h h' : Heap} {X Y : List Addr} {oa : Option Addr} {σ : Sg} (N : StOk h X env oa σ) (hY : ∀ b ∈ Y, h.get? b = Option.none) (k : ∀ b o, b ∉ X ∨ b ∈ Wr env oa → h.get? b = some o → h'.get? b = some o) (L : Live h' (Y ++ X)) : StOk h' (Y ++ X) env oa σ :=
  N.move (fun x => V.keep (fun b o hb e => k b o (.inl fun q => hb (List.mem_append_right _ q)) e) _ _ (V.more (fun b hb hn => (List.mem_append.mp hb).elim (hY b) fun q => absurd q hn) _ _ x)) (List.mem_append_right _ N.env.inX) L (fun _ _ _ q => List.mem_append_right _ q) fun b o hb e => k b o (.inr (Wr.of hb)) e
theorem StOk.grow {h h' : Heap} {X Y : List Addr} {oa : Option Addr} {σ : Sg} (N : StOk h X env oa σ) (hY : ∀ b ∈ Y, h.get? b = Option.none) (k : Ext h h') (L : Live h' Y) : StOk h' (Y ++ X) env oa σ :=
  N.growW hY (fun b o _ e => k b o e) fun a ha => (List.mem_append.mp ha).elim (L a) fun q => let ⟨o, ho⟩ := N.env.live a q; ⟨o, k _ _ ho⟩
theorem StOk.shrink {h : Heap} {X Y : List Addr} {oa : Option Addr} {σ : Sg} (P : Sep X env oa) (sub : ∀ b ∈ X, b ∈ Y) (N : StOk h Y env oa σ) : StOk h X env oa σ :=
  N.move (fun x => V.less sub x) (P.sub _ (Wr.loc env oa)) (fun a ha => N.env.live a (sub a ha)) (fun _ _ a _ => P.sub _ (Wr.cel a)) fun _ _ _ e => e
theorem StOk.drop {h h' : Heap} {X : List Addr} {C : Addr} {oa : Option Addr} {σ : Sg} (P : Sep X env oa) (hCX : C ∉ X) (N : StOk h ([C] ++ X) env oa σ) (kk : ∀ b o, b ≠ C → h.get? b = some o → h'.get? b = some o) : StOk h' X env oa σ :=
  have sub : ∀ b ∈ X, b ≠ C := fun b hb q => hCX (q ▸ hb)
  N.move (fun x => V.less (fun b hb => List.mem_append_right _ hb) (V.keep (fun b o hb e => kk b o (fun q => hb (by rw [q]; exact .head _)) e) _ _ x)) (P.sub _ (Wr.loc env oa))
    (fun a ha => let ⟨o, ho⟩ := N.env.live a (List.mem_append_right _ ha); ⟨o, kk a o (sub a ha) ho⟩) (fun _ _ a _ => P.sub _ (Wr.cel a)) fun b o hb e => kk b o (sub _ (P.sub _ (Wr.of hb))) e
theorem EnvOk.notin {h : Heap} {X : List Addr} {ρ : List (Str × Dt)} {I : Addr} (N : EnvOk h X env ρ) (hI : h.get? I = Option.none) : I ∉ X := fun q => let ⟨_, ho⟩ := N.live I q; nomatch hI.symm.trans ho
theorem Sep.grow {X Y : List Addr} {oa : Option Addr} (P : Sep X env oa) (sub : ∀ b ∈ X, b ∈ Y) : Sep Y env oa := ⟨fun b hb => sub b (P.sub b hb), P.cl, P.inj, P.ol⟩
theorem swaps_of_ev {cf : Orc} {n : Nat} {sc : List (Str × NameKind)} {ρ : List (Str × Dt)} {e : Expr} {d : Dt} (h : ev cf n sc ρ e = some d) (x : Str) (px : Pos) (line : Nat) (env : Env) : swapsWith e (some (.Name x px)) line env = pure false ∨ (swapsWith e (some (.Name x px)) line env = pure true ∧ ∃ elt y py iter ifs csc pos, e = .ListComp elt [⟨.Name y py, iter, ifs, 0⟩] csc pos) := by
  cases n with
  | zero => cases h
  | succ n =>
    cases e with
    | ListComp elt gens csc p =>
      refine bc fun nG => ?_
      obtain ⟨⟨y, py, iter, ifs⟩, hz⟩ := lc_hd h
      obtain rfl := compHd_x hz
      have e1 : ∃ b : Bool, swapsWith (.ListComp elt [⟨.Name y py, iter, ifs, 0⟩] csc p) (some (.Name x px)) line env = pure b := ⟨_, rfl⟩
      obtain ⟨b, hb⟩ := e1
      refine nG ?_
      cases b with
      | false => exact .inl hb
      | true => exact .inr ⟨hb, _, _, _, _, _, _, _, rfl⟩
    | SetComp => exact nope h
    | DictComp => exact nope h
    | _ => exact .inl rfl
theorem assign_lc {oa : Option Addr} {sc : List (Str × NameKind)} {σ : Sg} {x : Str} {px p : Pos} {X W : List Addr} {J : Nat → Heap → List Addr → Prop} {nn : Nat} {out : List Dt} {elt tg iter : Expr} {ifs : List Expr} {csc : Scope} {pos : Pos}
    (hc : canSet sc x = true) (S : ScOk sc env) (P : Sep X env oa) (N : StOk s.heap X env oa σ) (hWX : ∀ b ∈ W, b ∈ X) (EW : ∀ b ∈ W, b ∉ Wr env oa) (FJ : Eff W J) (hsw : swapsWith (.ListComp elt [⟨tg, iter, ifs, 0⟩] csc pos) (some (.Name x px)) p.line env = pure true)
    (h : LcOk prog w A E s env X W J nn out elt tg iter ifs csc pos) :
    wpAny (model prog w) A (exec (.Assign [.Name x px] (.ListComp elt [⟨tg, iter, ifs, 0⟩] csc pos) p) env) (fun f s' => f = .next ∧ KeepsW (W ++ Wr env oa) s s' ∧ StOk s'.heap X env oa (upd σ.1 x (.list out), σ.2) ∧ J nn s'.heap X) E s := by
  rw [exec_Assign_Name_used x px _ p hsw]
  refine wpAny_bind (wpAny_standAt (wpAny_bind ?_))
  rw [arm_evalThenUse_ListComp]
  refine wpAny_bind (h _ _ _ fun s' D C' m' L => ?_)
  obtain ⟨k, hn', hC, hCD, hCW, hV, hJ⟩ := L
  have hCX : C' ∉ X := N.env.notin hC
  have hCWr : C' ∉ Wr env oa := fun q => hCX (P.sub _ q)
  have N' : StOk s'.heap ([C'] ++ X) env oa σ := N.growW (fun b hb => by rw [List.mem_singleton.mp hb]; exact hC) (fun b o hb e => k.out b o (fun q => hb.elim (fun n => n (hWX b q)) (EW b q)) e)
    fun a ha => (List.mem_append.mp ha).elim (fun q => by rw [List.mem_singleton.mp q]; exact let ⟨o, _, _, ho, _⟩ := hn'; ⟨o, ho⟩) (k.live N.env.live a)
  show wpAny _ _ (assign (.Name x px) env (.ref D)) _ _ _
  refine wpAny_assign_Name (mono2 (store_ok hc S (P.grow fun b hb => List.mem_append_right _ hb) N' hV) fun _ s'' k₂ N₂ => ?_)
  refine ⟨m', hn'.at' fun o e => k₂.out C' o hCWr e, fun h' hs => wpAny_pure (wpAny_pure ⟨rfl, ?_, StOk.drop P hCX N₂ fun b o hb e => hs.extBut b o hb e, ?_⟩)⟩
  · obtain ⟨h₂, t₂, rfl, q₂, l₂⟩ := (k.sub fun b hb => List.mem_append_left (Wr env oa) hb).trans (k₂.sub fun b hb => List.mem_append_right W hb)
    exact ⟨h', t₂, rfl, fun b o nb e => hs.extBut b o (noAt hC e) (q₂ b o nb e), fun b hb e => let ⟨o, ho⟩ := l₂ b hb e; ⟨o, hs.extBut b o (fun q => (List.mem_append.mp hb).elim (fun z => hCW (q ▸ z)) fun z => hCWr (q ▸ z)) ho⟩⟩
  · refine FJ.more _ _ (C' :: X) X (fun b hb hn => absurd (List.mem_cons_of_mem _ hb) hn) (FJ.keep _ _ _ _ (fun b o hb e => ?_) hJ)
    exact hs.extBut b o (fun q => hb.elim (fun hb => hb (q ▸ .head _)) fun hb => hCW (q ▸ hb)) (k₂.out b o (fun z => hb.elim (fun hb => hb (.tail _ (P.sub b z))) fun hb => EW b hb z) e)
theorem assign_step {cf : Orc} {oa : Option Addr} {K : Frag} {m n : Nat} (B : Bn K) (CG' : CG K cf) (C : CF K prog w m cf) {sc : List (Str × NameKind)} {σ : Sg} {x : Str} {px p : Pos} {e : Expr} {d : Dt} {X : List Addr} (hc : canSet sc x = true) (he : ev cf n sc σ.1 e = some d) (S : ScOk sc env) (P : Sep X env oa) (N : StOk s.heap X env oa σ) (G : Gd K s.heap) (R : Rm A m) :
    wpAny (model prog w) A (exec (.Assign [.Name x px] e p) env) (PS X env oa (upd σ.1 x d, σ.2) .next s) E s := by
  rcases swaps_of_ev he x px p.line env with hsw | ⟨hsw, elt, y, py, iter, ifs, csc, pos, rfl⟩
  · rw [exec_Assign_Name env x px e p hsw]
    refine wpAny_bind (wpAny_standAt (wpAny_bind (mono2 ((ev_sound B CG' C n).1 sc σ.1 e d env A E s X he S N.env G R) fun v s₁ k₁ hv => ?_)))
    refine wpAny_bind (wpAny_standAt (wpAny_bind (wpAny_bindName (wpAny_mono (store_ok hc S P (N.ext (Keeps.ext k₁)) hv) (fun _ s₂ q => ?_) fun _ _ x => x))))
    exact wpAny_pure ⟨(KeepsW.of k₁).trans q.1, q.2, rfl⟩
  · cases n with
    | zero => cases he
    | succ n =>
      obtain ⟨he', hs', hk', ht', ha'⟩ := ev_sound (prog := prog) (w := w) (m := m) B CG' C n
      rw [ev_comp] at he
      split at he
      · rename_i it h1
        split at he
        · rename_i items h2
          split at he
          · rename_i hcc
            simp only [Bool.and_eq_true, decide_eq_true_eq, beq_iff_eq] at hcc
            obtain ⟨out, ho, rfl⟩ := Option.map_eq_some_iff.mp he
            refine wpAny_mono (assign_lc (W := []) (J := fun _ _ _ => True) hc S P N (fun b hb => nomatch hb) (fun b hb => nomatch hb) Eff.none hsw (comp_core2 (dd := fun d => d) S N.env G R.1 hcc.1.1 hcc.1.2 hcc.2 (set_ev h1 env) (fun b hb => nomatch hb) EnvW.nil GdW.nil Eff.none (fun _ _ => TgOk.name (compFacts hcc.1.1).x hcc.1.2)
              (wpAny_mono (he' sc σ.1 iter it env A E s X h1 S N.env G R) (fun v s₁ q => ⟨KeepsW.of q.1, q.2, trivial⟩) fun _ _ x => x) h2 ho (fun _ _ _ _ _ _ _ => trivial) ?_ ?_)) (fun f s' q => ⟨q.2.1, q.2.2.1, q.1⟩) fun _ _ x => x
            · intro d hd y' hy cenv s' X' E' N' S' G'
              unfold compF at hy
              split at hy
              · obtain ⟨z, hz, rfl⟩ := Option.map_eq_some_iff.mp hy
                exact wpAny_tests_nil ⟨Keeps.refl' _, rfl⟩
              · rename_i c
                refine wpAny_tests_one ?_
                split at hy
                · rename_i hb
                  obtain ⟨z, hz, rfl⟩ := Option.map_eq_some_iff.mp hy
                  exact ht' _ _ c true cenv A E' s' X' hb S' N' G' R
                · rename_i hb
                  cases hy
                  exact ht' _ _ c false cenv A E' s' X' hb S' N' G' R
                · cases hy
              · cases hy
            · intro i d hd y' hy cenv s' X' E' N' S' G' _ _ _ _ _
              have : ev cf n csc.names ((y, d) :: σ.1) elt = some y' := by
                unfold compF at hy
                split at hy
                · obtain ⟨z, hz, e⟩ := Option.map_eq_some_iff.mp hy
                  cases e; exact hz
                · split at hy
                  · obtain ⟨z, hz, e⟩ := Option.map_eq_some_iff.mp hy
                    cases e; exact hz
                  · cases hy
                  · cases hy
                · cases hy
              exact wpAny_mono (he' _ _ elt y' cenv A E' s' X' this S' N' G' R) (fun v s₁ q => ⟨KeepsW.of q.1, q.2, trivial⟩) fun _ _ x => x
          · cases he
        · cases he
      · cases he
end Mine
end
section
open PySem PySem.W PyProof.Rows
set_option maxRecDepth 100000
namespace Mine
variable {prog : Program} {w : World} {A : Around} {E : Value → Shared → Prop} {s : Shared} {env : Env}
section
variable {cf : Orc} {oa : Option Addr} {n : Nat} {sc : List (Str × NameKind)} {σ : Sg}
end
theorem own_name {oa : Option Addr} {sc : List (Str × NameKind)} {ρ : List (Str × Dt)} {X : List Addr} {y : Str} {p : Pos} {Q : Value → Shared → Prop} (h : isOwn oa sc ρ y = true) (S : ScOk sc env) (N : EnvOk s.heap X env ρ) (hq : ∀ a, oa = some a → Q (.ref a) s) :
    wpAny (model prog w) A (eval (.Name y p) env) Q E s := by
  unfold isOwn at h
  simp only [Bool.and_eq_true, bne_iff_ne, ne_eq] at h
  refine bc fun nG => ?_
  obtain ⟨⟨⟨h1, h2⟩, h3⟩, h4⟩ := h
  refine nG ?_
  split at h4
  · rename_i b a hb
    have e : a = b := by simpa using h4
    subst e
    rw [arm_eval_Name]
    refine wpAny_bind (wpAny_standAt ?_)
    have h1' : (y == ("__debug__" : Str)) = false := by
      cases q : y == ("__debug__" : Str) with
      | false => rfl
      | true => exact absurd (by simpa using q) h1
    rw [h1']
    refine loc_load S N h3 hb ?_ fun v hv => ?_
    · cases q : y == ("__classdict__" : Str) with
      | false => rfl
      | true => exact absurd (by simpa using q) h2
    · unfold V at hv
      rw [hv]; exact hq a rfl
  · cases h4
theorem ints_snoc {vs : List Value} {ns : List Int} {n : Int} {t : Tok} (h : IntsAre vs ns) : IntsAre (vs ++ [.int n t]) (ns ++ [n]) := by
  induction h with
  | nil => exact .cons _ _ .nil
  | cons n t r ih => exact .cons _ _ ih
theorem own_append {D : Addr} {oa : Option Addr} {X W : List Addr} {ρ : List (Str × Dt)} {acc : List Int} {n : Int} {t : Tok} {Q : Value → Shared → Prop} (hW : D ∈ W) (hD : oa = some D) (P : Sep X env oa) (N : StOk s.heap X env oa (ρ, acc)) (hl : acc.length ≤ 100000)
    (h : ∀ v h', KeepsW W s { s with heap := h' } → StOk h' X env oa (ρ, acc ++ [n]) → Q v { s with heap := h' }) :
    wpAny (model prog w) A (call (.builtin "list.append") [.ref D, .int n t]) Q E s := by
  obtain ⟨vs, hp, hi⟩ := N.own D hD
  have hlen : vs.length = acc.length := hi.length
  refine wpAny_list_append_plain (hsz := by rw [List.size_toArray, sizeLine_eq]; lia) hp fun h' hp' hs => ?_
  have hL : ∃ o, h'.get? D = some o := hp'.elim fun _ e => ⟨_, e⟩
  have aX := P.sub _ (Wr.own (env := env) hD)
  have L : Live h' X := fun a ha => by
    by_cases q : a = D
    · rw [q]; exact hL
    · obtain ⟨o, ho⟩ := N.env.live a ha; exact ⟨o, hs.extBut a o q ho⟩
  have N0 : StOk s.heap X env none (ρ, acc) := ⟨N.env, fun _ h => nomatch h⟩
  have N1 := N0.move (fun x => V.keep (fun b o hb e => hs.extBut b o (fun q => hb (q ▸ aX)) e) _ _ x) N.env.inX L (fun _ _ _ q => q) fun b o hb e => hs.extBut b o (by
    rcases hb with rfl | ⟨y, hy⟩ | hb
    · exact Ne.symm (P.ol D hD).1
    · exact (P.ol D hD).2 y b hy
    · exact nomatch hb) e
  exact h _ h' (KeepsW.sameBut (s := s) hW hL hs s.toks) ⟨N1.env, fun b hb => ⟨vs ++ [.int n t], Option.some.inj (hD.symm.trans hb) ▸ (by simpa using hp'), ints_snoc hi⟩⟩
theorem append_step {cf : Orc} {oa : Option Addr} {K : Frag} {m n : Nat} (B : Bn K) (CG' : CG K cf) (C : CF K prog w m cf) {sc : List (Str × NameKind)} {σ σ' : Sg} {fl : Fl} {y ap : Str} {py apos pos p : Pos} {e : Expr} {X : List Addr}
    (h : ex1 cf oa (n + 1) sc σ (.Expr (.Call (.Attribute (.Name y py) ap apos) [e] [] pos) p) = some (fl, σ')) (S : ScOk sc env) (P : Sep X env oa) (N : StOk s.heap X env oa σ) (G : Gd K s.heap) (R : Rm A m) :
    wpAny (model prog w) A (exec (.Expr (.Call (.Attribute (.Name y py) ap apos) [e] [] pos) p) env) (PS X env oa σ' fl s) E s := by
  rw [ex_append] at h
  split at h
  · rename_i hc
    simp only [Bool.and_eq_true, decide_eq_true_eq] at hc
    refine bc fun nG => ?_
    obtain ⟨⟨⟨hap, hl⟩, ho⟩, hlen⟩ := hc
    refine nG ?_
    have hap' : ap = Str.ofString "append" := by simpa using hap
    subst hap'
    split at h
    · rename_i i he
      cases h
      have hst := notStar_ev he [] env
      refine wpAny_Expr_any (wpAny_Call_append rfl ?_ hl (by rw [hst]; rfl) (own_name ho S N.env fun a ha => ?_)) ?_ rfl
      · rw [hst]; rfl
      · refine bc fun nG => ?_
        obtain ⟨vs, hp, hi⟩ := N.own a ha
        obtain ⟨nn, hob⟩ := id hp
        refine nG ?_
        refine ⟨a, List.toArray vs, rfl, ⟨_, nn, hob, rfl, rfl, rfl⟩, mono2 ((ev_sound B CG' C n).1 sc σ.1 e _ env A E s X he S N.env G R) fun v s₁ k₁ hv => ?_⟩
        obtain ⟨t, rfl⟩ := hv
        exact own_append (Wr.own (env := env) ha) ha P (N.ext (Keeps.ext k₁)) (Nat.le_trans hlen (by decide)) fun _ h' kw N' => ⟨(KeepsW.of k₁).trans kw, N', rfl⟩
      · unfold interactive; rw [N.env.kind]; rfl
    · cases h
  · cases h
theorem retown_step {cf : Orc} {oa : Option Addr} {K : Frag} {m n : Nat} (B : Bn K) (CG' : CG K cf) (C : CF K prog w m cf) {sc : List (Str × NameKind)} {σ σ' : Sg} {fl : Fl} {f y : Str} {p py q r : Pos} {X : List Addr}
    (h : ex1 cf oa (n + 1) sc σ (.Return (some (.Call (.Name f p) [.Name y py] [] q)) r) = some (fl, σ')) (S : ScOk sc env) (N : StOk s.heap X env oa σ) (G : Gd K s.heap) (R : Rm A m) :
    wpAny (model prog w) A (exec (.Return (some (.Call (.Name f p) [.Name y py] [] q)) r) env) (PS X env oa σ' fl s) E s := by
  rw [ex_retown] at h
  refine wpAny_Return_some ?_
  split at h
  · rename_i hc
    simp only [Bool.and_eq_true] at hc
    obtain ⟨⟨hf, hg⟩, ho⟩ := hc
    have hf' : f = Str.ofString "bytes" := by simpa using hf
    subst hf'
    split at h
    · rename_i hok
      cases h
      refine wpAny_Call_Name_kw (blt_name G N.env (kind_glob S hg) (B _ (by decide +kernel)) (v := .type "bytes") (by decide +kernel) (by decide +kernel) (by decide +kernel) ?_)
      refine callWith_of (P := fun h => True) rfl (fun h _ => FnV.keeps (h := h) (f := .type "bytes") trivial) ?_
      refine evalArgs_any rfl rfl (PySem.Calls.spliced_cons (own_name ho S N.env fun a ha => PySem.Calls.spliced_nil (wpAny_evalAll_nil ⟨trivial, ?_⟩)))
      obtain ⟨vs, hp, hi⟩ := N.own a ha
      have hlen : vs.length = σ.2.length := hi.length
      refine call_bytes_ints hp.isList hi (fun n hn => of_decide_eq_true (List.all_eq_true.mp hok.2 n hn)) (by rw [hlen, sizeLine_eq]; lia) R.1 fun h' t k hk => ?_
      refine ⟨KeepsW.of (Keeps.heap' _ hk), N.ext hk, ⟨_, rfl, ?_⟩⟩
      unfold V
      exact ⟨_, rfl⟩
    · cases h
  · obtain ⟨d, hd, e⟩ := Option.map_eq_some_iff.mp h
    cases e
    exact wpAny_mono ((ev_sound B CG' C n).1 sc σ.1 _ _ env A E s X hd S N.env G R) (fun v s₁ q => ⟨KeepsW.of q.1, N.ext (Keeps.ext q.1), ⟨v, rfl, q.2⟩⟩) fun _ _ x => x
theorem while_step {cf : Orc} {oa : Option Addr} {K : Frag} {m n : Nat} (B : Bn K) (CG' : CG K cf) (C : CF K prog w m cf) (hs : SSs cf oa K prog w m n) {sc : List (Str × NameKind)} {σ σ' : Sg} {fl : Fl} {t : Expr} {body : List Stmt} {p : Pos} {X : List Addr} :
    ∀ (k : Nat), whileGo (fun σ => tst cf n sc σ.1 t) (fun σ => exs cf oa n sc σ body) k σ = some (fl, σ') → ScOk sc env → Sep X env oa → StOk s.heap X env oa σ → Gd K s.heap → GdW K (Wr env oa) → Rm A m →
    wpAny (model prog w) A (exec (.While t body [] p) env) (PS X env oa σ' fl s) E s := by
  intro k h S P N G GW R
  refine wpAny_While (codeAny_whileLoop (fun k s' => ∃ σ₁, whileGo (fun σ => tst cf n sc σ.1 t) (fun σ => exs cf oa n sc σ body) k σ₁ = some (fl, σ') ∧ KeepsW (Wr env oa) s s' ∧ StOk s'.heap X env oa σ₁) ?_ k ⟨σ, h, KeepsW.of (Keeps.refl' s), N⟩)
  rintro k s' ⟨σ₁, h₁, k₁, N₁⟩
  cases k with
  | zero => cases h₁
  | succ k =>
    unfold whileGo at h₁
    have G₁ := Gd.keepsW k₁ GW G
    split at h₁
    · rename_i ht
      refine mono2 ((ev_sound B CG' C n).2.2.2.1 sc σ₁.1 t true env A _ s' X ht S N₁.env G₁ R) fun b s₂ k₂ qq1 => ?_
      obtain rfl := qq1
      rw [if_pos rfl]
      have k₁₂ := k₁.trans (KeepsW.of k₂)
      split at h₁
      · rename_i σ₂ he
        refine monoP (hs sc σ₁ body _ σ₂ env A _ s₂ X he S P (N₁.ext (Keeps.ext k₂)) (G₁.ext (Keeps.ext k₂)) GW R) fun f s₃ k₃ N₃ F₃ => ?_
        have : f = .next := F₃
        subst this
        exact ⟨k, Nat.lt_succ_self _, σ₂, h₁, k₁₂.trans k₃, N₃⟩
      · rename_i σ₂ he
        refine monoP (hs sc σ₁ body _ σ₂ env A _ s₂ X he S P (N₁.ext (Keeps.ext k₂)) (G₁.ext (Keeps.ext k₂)) GW R) fun f s₃ k₃ N₃ F₃ => ?_
        have : f = .cont := F₃
        subst this
        exact ⟨k, Nat.lt_succ_self _, σ₂, h₁, k₁₂.trans k₃, N₃⟩
      · rename_i σ₂ he
        cases h₁
        refine monoP (hs sc σ₁ body _ _ env A _ s₂ X he S P (N₁.ext (Keeps.ext k₂)) (G₁.ext (Keeps.ext k₂)) GW R) fun f s₃ k₃ N₃ F₃ => ?_
        have : f = .brk := F₃
        subst this
        exact ⟨k₁₂.trans k₃, N₃, rfl⟩
      · rename_i v σ₂ he
        cases h₁
        refine monoP (hs sc σ₁ body _ _ env A _ s₂ X he S P (N₁.ext (Keeps.ext k₂)) (G₁.ext (Keeps.ext k₂)) GW R) fun f s₃ k₃ N₃ qq2 => ?_
        obtain ⟨u, rfl, hu⟩ := qq2
        exact ⟨k₁₂.trans k₃, N₃, ⟨u, rfl, hu⟩⟩
      · cases h₁
    · rename_i ht
      cases h₁
      refine mono2 ((ev_sound B CG' C n).2.2.2.1 sc _ t false env A _ s' X ht S N₁.env G₁ R) fun b s₂ k₂ qq1 => ?_
      obtain rfl := qq1
      rw [if_neg (by decide)]
      exact wpAny_execs_nil ⟨k₁.trans (KeepsW.of k₂), N₁.ext (Keeps.ext k₂), rfl⟩
    · cases h₁
theorem forGo_step {f : Dt → Sg → Option (Fl × Sg)} {l : List Dt} {i : Nat} {d : Dt} {σ : Sg} {r : Fl × Sg} (e : forGo f (l.drop i) σ = some r) (hd : l[i]? = some d) :
    ∃ q, f d σ = some q ∧ (match q with
      | (.next, σ') => forGo f (l.drop (i + 1)) σ' = some r
      | (.cont, σ') => forGo f (l.drop (i + 1)) σ' = some r
      | (.brk, σ') => r = (.next, σ')
      | (.ret v, σ') => r = (.ret v, σ')) := by
  obtain ⟨hl, he⟩ := List.getElem?_eq_some_iff.mp hd
  rw [List.drop_eq_getElem_cons hl, he] at e
  unfold forGo at e
  split at e
  · rename_i q; exact ⟨_, q, e⟩
  · rename_i q; exact ⟨_, q, e⟩
  · rename_i q; cases e; exact ⟨_, q, rfl⟩
  · rename_i q; cases e; exact ⟨_, q, rfl⟩
  · cases e
inductive KeepsD (I : Addr) (W : List Addr) (s s' : Shared) : Prop
  | mk (h : Heap) (tk : Nat) (e : s' = { s with heap := h, toks := tk }) (k : ∀ b o, b ≠ I → b ∉ W → s.heap.get? b = some o → h.get? b = some o) (l : ∀ b ∈ W, (∃ o, s.heap.get? b = some o) → ∃ o, h.get? b = some o)
theorem KeepsD.back {I : Addr} {W : List Addr} {s₁ s₂ s' : Shared} (k₁ : Keeps s s₁) (k₂ : Keeps s₁ s₂) (hI : s₁.heap.get? I = Option.none) (k : KeepsD I W s₂ s') : KeepsW W s s' := by
  have k₀ := Keeps.trans' k₁ k₂
  obtain ⟨hc, tc, rfl, ec, lc⟩ := k
  obtain ⟨hb, tb, rfl, eb⟩ := k₀
  exact ⟨hc, tc, rfl, fun b o nb e => ec b o (noAt hI (Keeps.ext k₁ b o e)) nb (eb b o e), fun b hb e => lc b hb (let ⟨o, q⟩ := e; ⟨o, eb b o q⟩)⟩
theorem KeepsW.toD {I : Addr} {W : List Addr} {s' : Shared} (k : KeepsW (I :: W) s s') : KeepsD I W s s' := by
  obtain ⟨hc, tc, rfl, ec, lc⟩ := k
  exact ⟨hc, tc, rfl, fun b o n nb e => ec b o (fun q => (List.mem_cons.mp q).elim n nb) e, fun b hb e => lc b (.tail _ hb) e⟩
theorem KeepsW.dropI {I : Addr} {W : List Addr} {s' : Shared} {h : Heap} {tk : Nat} (k : KeepsW (I :: W) s s') (hI : I ∉ W) (hk : ∀ b o, b ∉ [I] → s'.heap.get? b = some o → h.get? b = some o) : KeepsD I W s { s' with heap := h, toks := tk } := by
  obtain ⟨hc, tc, rfl, ec, lc⟩ := k
  exact ⟨h, tk, rfl, fun b o n nb e => hk b o (fun q => n (List.mem_singleton.mp q)) (ec b o (fun q => (List.mem_cons.mp q).elim n nb) e), fun b hb e => let ⟨o, ho⟩ := lc b (.tail _ hb) e; ⟨o, hk b o (fun q => hI (List.mem_singleton.mp q ▸ hb)) ho⟩⟩
theorem KeepsW.turn {I : Addr} {W : List Addr} {h : Heap} {tk : Nat} (hI : ∃ o, h.get? I = some o) (hk : ∀ b o, b ∉ [I] → s.heap.get? b = some o → h.get? b = some o) : KeepsW (I :: W) s { s with heap := h, toks := tk } :=
  ⟨h, tk, rfl, fun b o nb e => hk b o (fun q => nb (of_sing q)) e, fun b _ e => by
    by_cases q : b = I
    · rw [q]; exact hI
    · obtain ⟨o, ho⟩ := e; exact ⟨o, hk b o (fun z => q (List.mem_singleton.mp z)) ho⟩⟩
theorem KeepsW.up {I : Addr} {W : List Addr} {s s' : Shared} (k : KeepsW W s s') : KeepsW (I :: W) s s' := k.sub fun _ h => .tail _ h
theorem StOk.grow1 {h h' : Heap} {X : List Addr} {oa : Option Addr} {σ : Sg} {I : Addr} {o : Obj} (N : StOk h X env oa σ) (hI : h.get? I = Option.none) (k : Ext h h') (ho : h'.get? I = some o) : StOk h' ([I] ++ X) env oa σ :=
  N.grow (fun b hb => by rw [List.mem_singleton.mp hb]; exact hI) k fun b hb => by rw [List.mem_singleton.mp hb]; exact ⟨o, ho⟩
theorem StOk.turn {h h' : Heap} {X : List Addr} {oa : Option Addr} {σ : Sg} {I : Addr} (P : Sep X env oa) (hIX : I ∉ X) (N : StOk h ([I] ++ X) env oa σ) (hI : ∃ o, h'.get? I = some o) (hk : ∀ b o, b ∉ [I] → h.get? b = some o → h'.get? b = some o) : StOk h' ([I] ++ X) env oa σ :=
  StOk.frame (P.grow fun b hb => List.mem_append_right _ hb) N (fun b o hb e => hk b o (fun q => by
    rw [List.mem_singleton.mp q] at hb
    exact hb.elim (fun n => n (List.mem_append_left _ (.head _))) fun n => hIX (P.sub _ n)) e) fun a ha => by
      by_cases q : a = I
      · rw [q]; exact hI
      · obtain ⟨o, ho⟩ := N.env.live a ha; exact ⟨o, hk a o (fun z => q (List.mem_singleton.mp z)) ho⟩
theorem GdW.cons {K : Frag} {h : Heap} {W : List Addr} {I : Addr} (GW : GdW K W) (G : Gd K h) (hI : h.get? I = Option.none) : GdW K (I :: W) := by
  have key : ∀ a o, h.get? a = some o → a ∉ W → a ∉ I :: W := fun a o e n q => (List.mem_cons.mp q).elim (noAt hI e) n
  exact ⟨fun a o e => key a o (G.kin a o e) (GW.k a o e), let ⟨_, o, _, _, e, _⟩ := G.g; key _ o e GW.g, let ⟨_, ⟨o, _, _, e, _⟩, _⟩ := G.b; key _ o e GW.b, let ⟨_, ⟨o, _, _, e, _⟩, _⟩ := G.lim; key _ o e GW.c⟩
inductive FInv (X : List Addr) (items : List Dt) (I : Addr) (env : Env) (oa : Option Addr) (f : Dt → Sg → Option (Fl × Sg)) (r : Option (Fl × Sg)) (St : Nat → Heap → Prop) (s₂ : Shared) (k : Nat) (s' : Shared) : Prop
  | mk (i : Nat) (σ₁ : Sg) (e : k = items.length + 1 - i) (hi : i ≤ items.length) (hst : St i s'.heap) (N : StOk s'.heap ([I] ++ X) env oa σ₁) (K : KeepsW (I :: Wr env oa) s₂ s') (go : forGo f (items.drop i) σ₁ = r)
theorem for_step {cf : Orc} {oa : Option Addr} {K : Frag} {m n : Nat} (B : Bn K) (CG' : CG K cf) (C : CF K prog w m cf) (hs : SSs cf oa K prog w m n) {sc : List (Str × NameKind)} {σ σ' : Sg} {fl : Fl} {x : Str} {px p : Pos} {iter : Expr} {body : List Stmt} {X : List Addr}
    (h : ex1 cf oa (n + 1) sc σ (.For (.Name x px) iter body [] p) = some (fl, σ')) (S : ScOk sc env) (P : Sep X env oa) (N : StOk s.heap X env oa σ) (G : Gd K s.heap) (GW : GdW K (Wr env oa)) (R : Rm A m) :
    wpAny (model prog w) A (exec (.For (.Name x px) iter body [] p) env) (PS X env oa σ' fl s) E s := by
  rw [ex_for] at h
  split at h
  · rename_i hcs
    split at h
    · rename_i it h1
      split at h
      · rename_i items h2
        refine wpAny_For (wpAny_mono ((ev_sound B CG' C n).1 sc σ.1 iter it env A E s X h1 S N.env G R) (fun v s₁ q => ?_) fun _ _ x => x) (set_ev h1 env)
        obtain ⟨k₁, hv⟩ := q
        have N₁ := N.ext (Keeps.ext k₁)
        have G₁ := G.ext (Keeps.ext k₁)
        refine wpAny_mono (iter_walks (X := X) hv h2 R.1) (fun itv s₂ q₂ => ?_) fun _ _ e => e
        obtain ⟨fp, PP, St, rfl, W', hst, hfp, ⟨oI, hoI, hlI⟩, k₂, hlv, hP⟩ := q₂
        generalize hII : s₁.heap.objs.size = I at W' ⊢
        have hIn : s₁.heap.get? I = Option.none := fresh_none _ (Nat.le_of_eq hII)
        have hlI' : s₂.heap.get? I = some oI := hII ▸ hlI
        have hIX : I ∉ X := N₁.env.notin hIn
        have hIW : I ∉ Wr env oa := fun q => hIX (P.sub _ q)
        have P' : Sep ([I] ++ X) env oa := P.grow fun b hb => List.mem_append_right _ hb
        have N₂ : StOk s₂.heap ([I] ++ X) env oa σ := N₁.grow1 hIn (Keeps.ext k₂) hlI'
        have G₂ := G₁.ext (Keeps.ext k₂)
        have hfpW : ∀ b ∈ fp, b ∉ Wr env oa := fun b hb q => by
          rcases (hfp b hb).2 with e | e
          · exact hIW (by rw [← hII, ← e]; exact q)
          · exact e (P.sub b q)
        have back : ∀ (s' : Shared) (σ₁ : Sg) (fl : Fl) (f : Flow), KeepsD I (Wr env oa) s₂ s' → StOk s'.heap X env oa σ₁ → FlOk s'.heap ([I] ++ X) fl f → PS X env oa σ₁ fl s f s' := fun s' σ₁ fl f k n fo => by
          refine ⟨KeepsD.back k₁ k₂ hIn k, n, ?_⟩
          cases fl with
          | next => exact fo
          | cont => exact fo
          | brk => exact fo
          | ret d => obtain ⟨u, e, hu⟩ := fo; exact ⟨u, e, V.less (fun b hb => List.mem_append_right _ hb) hu⟩
        refine codeAny_forLoop (FInv X items I env oa (fun d σ => exs cf oa n sc (upd σ.1 x d, σ.2) body) (some (fl, σ')) St s₂) ?_ (items.length + 1)
          ⟨0, σ, rfl, Nat.zero_le _, hst, N₂, KeepsW.of (Keeps.refl' _), by simpa using h⟩
        rintro k s' ⟨i, σ₁, rfl, hi, hst', N', K', hgo⟩
        by_cases hlt : i < items.length
        · refine W'.item i _ _ _ hlt hst' fun v h₃ tk₃ hPv hst₃ hk₃ => ?_
          obtain ⟨d, hd, hVd⟩ := hP i v hPv
          obtain ⟨⟨f1, σ2⟩, hq, hr⟩ := forGo_step hgo hd
          have hI₃ : ∃ o, h₃.get? I = some o := by rw [← hII]; exact hlv (i + 1) h₃ hst₃
          have K₃ : KeepsW (I :: Wr env oa) s₂ { s' with heap := h₃, toks := tk₃ } := K'.trans (KeepsW.turn hI₃ hk₃)
          have N₃ : StOk h₃ ([I] ++ X) env oa σ₁ := StOk.turn P hIX N' hI₃ hk₃
          have GW' : GdW K (I :: Wr env oa) := GW.cons G₁ hIn
          have G₃ := Gd.keepsW K₃ GW' G₂
          have hVd₃ : V h₃ ([I] ++ X) d v := by
            have a1 : V s₁.heap ([I] ++ X) d v := V.more (fun b hb hn => by
              rcases List.mem_append.mp hb with q | q
              · have e : b = I := by simpa using q
                rw [e]; exact hIn
              · exact absurd q hn) d v hVd
            refine V.keep (fun b o hb e => K₃.out b o (fun q => hb ?_) (Keeps.ext k₂ b o e)) d v a1
            rcases List.mem_cons.mp q with q | q
            · rw [q]; simp
            · exact List.mem_append_right _ (P.sub b q)
          refine wpAny_assign_Name (mono2 (store_ok hcs S P' N₃ hVd₃) fun _ s₄ k₄ N₄ => ?_)
          have st₄ : St (i + 1) s₄.heap := W'.frame _ _ _ hst₃ fun b hb o e => k₄.out b o (hfpW b hb) e
          refine monoP (hs sc (upd σ₁.1 x d, σ₁.2) body f1 σ2 env A _ s₄ ([I] ++ X) hq S P' N₄ (Gd.keepsW k₄ GW G₃) GW R) fun f s₅ k₅ N₅ F₅ => ?_
          have st₅ : St (i + 1) s₅.heap := W'.frame _ _ _ st₄ fun b hb o e => k₅.out b o (hfpW b hb) e
          have K₅ := K₃.trans (k₄.trans k₅).up
          cases f1 with
          | next => have : f = .next := F₅; subst this; exact ⟨items.length + 1 - (i + 1), dec_lt hlt, i + 1, σ2, rfl, hlt, st₅, N₅, K₅, hr⟩
          | cont => have : f = .cont := F₅; subst this; exact ⟨items.length + 1 - (i + 1), dec_lt hlt, i + 1, σ2, rfl, hlt, st₅, N₅, K₅, hr⟩
          | brk => have : f = .brk := F₅; subst this; cases hr; exact back _ _ _ _ K₅.toD (StOk.shrink P (fun b hb => List.mem_append_right _ hb) N₅) rfl
          | ret d => obtain ⟨u, rfl, hu⟩ := F₅; cases hr; exact back _ _ _ _ K₅.toD (StOk.shrink P (fun b hb => List.mem_append_right _ hb) N₅) ⟨u, rfl, hu⟩
        · have hin : i = items.length := Nat.le_antisymm hi (Nat.not_lt.mp hlt)
          subst hin
          rw [List.drop_length] at hgo
          unfold forGo at hgo
          cases hgo
          refine W'.done _ _ _ hst' fun h₃ tk₃ hk₃ => ?_
          refine wpAny_execs_nil (back _ _ .next _ ?_ (StOk.drop P hIX N' fun b o hb e => hk₃ b o (by simpa using hb) e) rfl)
          exact K'.dropI hIW hk₃
      · cases h
    · cases h
  · cases h
theorem ret_gen {cf : Orc} {oa : Option Addr} {n : Nat} {sc : List (Str × NameKind)} {σ : Sg} {e : Expr} {r : Pos} (h : ∀ f y, ownRet e = some (f, y) → (f == Str.ofString "bytes" && sc.lookup f == some .globalImplicit && isOwn oa sc σ.1 y) = false) : ex1 cf oa (n + 1) sc σ (.Return (some e) r) = (ev cf n sc σ.1 e).map fun d => (.ret d, σ) := by
  show (match ownRet e with | some z => _ | Option.none => _) = _
  cases hq : ownRet e with
  | none => rfl
  | some z =>
    dsimp only
    rw [h z.1 z.2 hq]; rfl
theorem ex1_step {cf : Orc} {oa : Option Addr} {K : Frag} {m n : Nat} (B : Bn K) (CG' : CG K cf) (C : CF K prog w m cf) (hs : SSs cf oa K prog w m n) : SS1 cf oa K prog w m (n + 1) := by
  intro sc σ st fl σ' env A E s X h S P N G GW R
  have ret : ∀ e p, (ev cf n sc σ.1 e).map (fun d => (Fl.ret d, σ)) = some (fl, σ') → wpAny (model prog w) A (exec (.Return (some e) p) env) (PS X env oa σ' fl s) E s := fun e p he => by
    obtain ⟨d, hd, e⟩ := Option.map_eq_some_iff.mp he
    cases e
    exact wpAny_Return_some (wpAny_mono ((ev_sound B CG' C n).1 sc σ.1 _ _ env A E s X hd S N.env G R) (fun v s₁ q => ⟨KeepsW.of q.1, N.ext (Keeps.ext q.1), ⟨v, rfl, q.2⟩⟩) fun _ _ x => x)
  cases st with
  | Assign ts e p =>
    cases ht : tgt ts with
    | none =>
      have q : ex1 cf oa (n + 1) sc σ (.Assign ts e p) = Option.none := by
        show (match tgt ts with | some x => _ | Option.none => Option.none) = Option.none
        rw [ht]
      rw [q] at h; cases h
    | some x =>
      obtain ⟨px, rfl⟩ := tgt_x ht
      obtain ⟨hc, h⟩ := ite_x (show (if canSet sc x then (ev cf n sc σ.1 e).map fun d => (Fl.next, (upd σ.1 x d, σ.2)) else Option.none) = some (fl, σ') from h)
      obtain ⟨d, hd, e⟩ := Option.map_eq_some_iff.mp h
      cases e
      exact assign_step B CG' C hc hd S P N G R
  | If t a b p =>
    rw [ex_if] at h
    split at h
    · rename_i ht
      refine wpAny_If (mono2 ((ev_sound B CG' C n).2.2.2.1 sc σ.1 t true env A _ s X ht S N.env G R) fun b s₂ k₂ qq1 => ?_)
      obtain rfl := qq1
      rw [if_pos rfl]
      exact wpAny_mono (hs sc σ a fl σ' env A _ s₂ X h S P (N.ext (Keeps.ext k₂)) (G.ext (Keeps.ext k₂)) GW R) (fun f s₃ q => q.pre (KeepsW.of k₂)) fun _ _ x => x
    · rename_i ht
      refine wpAny_If (mono2 ((ev_sound B CG' C n).2.2.2.1 sc σ.1 t false env A _ s X ht S N.env G R) fun b s₂ k₂ qq1 => ?_)
      obtain rfl := qq1
      rw [if_neg (by decide)]
      exact wpAny_mono (hs sc σ b fl σ' env A _ s₂ X h S P (N.ext (Keeps.ext k₂)) (G.ext (Keeps.ext k₂)) GW R) (fun f s₃ q => q.pre (KeepsW.of k₂)) fun _ _ x => x
    · cases h
  | Return v r =>
    cases v with
    | none => exact nope h
    | some e =>
      cases ho : ownRet e with
      | none => exact ret e r (ret_gen (fun f y q => by rw [ho] at q; cases q) ▸ h)
      | some z =>
        obtain ⟨f, y⟩ := z
        obtain ⟨p, py, q, rfl⟩ := ownRet_x ho
        exact retown_step (n := n) B CG' C h S N G R
  | Continue p =>
    cases h
    exact wpAny_Continue ⟨KeepsW.of (Keeps.refl' s), N, rfl⟩
  | Expr e p =>
    cases ha : apHd e with
    | none =>
      have q : ex1 cf oa (n + 1) sc σ (.Expr e p) = Option.none := by
        show (match apHd e with | some x => _ | Option.none => Option.none) = Option.none
        rw [ha]
      rw [q] at h; cases h
    | some z =>
      obtain ⟨py, rfl⟩ := apHd_x ha
      exact append_step (n := n) B CG' C h S P N G R
  | For t iter body orelse p =>
    cases ht : nm1 t with
    | none =>
      have q : ex1 cf oa (n + 1) sc σ (.For t iter body orelse p) = Option.none := by
        show (match nm1 t with | some x => _ | Option.none => Option.none) = Option.none
        rw [ht]
      rw [q] at h; cases h
    | some x =>
      obtain ⟨px, rfl⟩ := nm1_x ht
      cases orelse with
      | nil => exact for_step (n := n) B CG' C hs h S P N G GW R
      | cons _ _ => exact nope h
  | While t body orelse p =>
    cases orelse with
    | nil => exact while_step B CG' C hs n h S P N G GW R
    | cons _ _ => exact nope h
  | _ => exact nope h
theorem ex_sound {cf : Orc} {oa : Option Addr} {K : Frag} {m : Nat} (B : Bn K) (CG' : CG K cf) (C : CF K prog w m cf) : ∀ n, SS1 cf oa K prog w m n ∧ SSs cf oa K prog w m n
  | 0 => by
    refine ⟨?_, ?_⟩
    · intro sc σ st fl σ' env A E s X h; exact nope h
    · intro sc σ st fl σ' env A E s X h; exact nope h
  | n + 1 => by
    obtain ⟨h1, h2⟩ := ex_sound B CG' C n
    exact ⟨ex1_step B CG' C h2, exs_step h1 h2⟩
end Mine
end
section
open PySem PySem.W PyProof.Rows
set_option maxRecDepth 100000
namespace Mine
section
variable {kind : Str → Option NameKind}
theorem bindL_out : ∀ (binds : List (Str × Value)) (m : Str → Option Value) (x : Str), x ∉ binds.map (·.1) → bindL kind binds m x = m x
  | [], m, x, _ => rfl
  | (n, v) :: r, m, x, h => by
    unfold bindL
    rw [bindL_out r _ x (fun q => h (.tail _ q))]
    split
    · exact if_neg (fun q => h (by rw [q]; exact .head _))
    · rfl
theorem bindL_get : ∀ (binds : List (Str × Value)) (m : Str → Option Value) (x : Str) (v : Value), (binds.map (·.1)).Nodup → (x, v) ∈ binds → kind x = some .local → bindL kind binds m x = some v := by
  intro binds
  induction binds with
  | nil => intro m x v _ hm _; exact nomatch hm
  | cons p r ih =>
    obtain ⟨n, u⟩ := p
    intro m x v hn hm hk
    have hn' := List.nodup_cons.mp hn
    unfold bindL
    rcases List.mem_cons.mp hm with q | q
    · cases q
      rw [bindL_out r _ _ hn'.1, if_pos hk]
      simp
    · exact ih _ x v hn'.2 q hk
theorem bindC_out : ∀ (binds : List (Str × Value)) (m : Str → Option Value) (x : Str), x ∉ binds.map (·.1) → bindC kind binds m x = m x
  | [], m, x, _ => rfl
  | (n, v) :: r, m, x, h => by
    unfold bindC
    rw [bindC_out r _ x (fun q => h (.tail _ q))]
    split
    · rfl
    · exact if_neg (fun q => h (by rw [q]; exact .head _))
theorem bindC_get : ∀ (binds : List (Str × Value)) (m : Str → Option Value) (x : Str) (v : Value), (binds.map (·.1)).Nodup → (x, v) ∈ binds → kind x ≠ some .local → bindC kind binds m x = some v := by
  intro binds
  induction binds with
  | nil => intro m x v _ hm _; exact nomatch hm
  | cons p r ih =>
    obtain ⟨n, u⟩ := p
    intro m x v hn hm hk
    have hn' := List.nodup_cons.mp hn
    unfold bindC
    rcases List.mem_cons.mp hm with q | q
    · cases q
      rw [bindC_out r _ _ hn'.1, if_neg hk]
      simp
    · exact ih _ x v hn'.2 q hk
end
theorem cellsFrom_some : ∀ (names : List (Str × NameKind)) (n : Nat) (acc : List (Str × Addr)) (x : Str), ((x, NameKind.cell) ∈ names ∨ (acc.lookup x).isSome = true) → ((cellsFrom n names acc).lookup x).isSome = true
  | [], n, acc, x, h => h.elim (fun q => nomatch q) id
  | (y, k) :: r, n, acc, x, h => by
    unfold cellsFrom
    split
    · rename_i hk
      refine cellsFrom_some r _ _ x ?_
      rcases h with h | h
      · rcases List.mem_cons.mp h with q | q
        · right; cases q; simp [List.lookup_cons]
        · exact .inl q
      · right
        rw [List.lookup_cons]
        cases x == y <;> simp [h]
    · rename_i hk
      refine cellsFrom_some r _ _ x ?_
      rcases h with h | h
      · rcases List.mem_cons.mp h with q | q
        · cases q; simp at hk
        · exact .inl q
      · exact .inr h
theorem cellsFrom_nodup : ∀ (names : List (Str × NameKind)) (n : Nat) (acc : List (Str × Addr)), (names.map (·.1)).Nodup → (acc.map (·.1)).Nodup → (∀ x ∈ acc.map (·.1), x ∉ names.map (·.1)) → ((cellsFrom n names acc).map (·.1)).Nodup
  | [], n, acc, _, h, _ => h
  | (y, k) :: r, n, acc, hn, ha, hd => by
    have hn' := List.nodup_cons.mp hn
    unfold cellsFrom
    split
    · refine cellsFrom_nodup r _ _ hn'.2 (List.nodup_cons.mpr ⟨fun q => hd y q (.head _), ha⟩) fun x hx => ?_
      rcases List.mem_cons.mp hx with q | q
      · rw [q]; exact hn'.1
      · exact fun z => hd x q (.tail _ z)
    · exact cellsFrom_nodup r _ _ hn'.2 ha fun x hx z => hd x hx (.tail _ z)
theorem lookup_of_mem {α : Type} : ∀ {l : List (Str × α)} {p : Str × α}, (l.map (·.1)).Nodup → p ∈ l → l.lookup p.1 = some p.2
  | (y, v) :: r, p, hn, hp => by
    have hn' := List.nodup_cons.mp hn
    rw [List.lookup_cons]
    rcases List.mem_cons.mp hp with q | q
    · rw [q]; simp
    · have : (p.1 == y) = false := by
        cases z : p.1 == y with
        | false => rfl
        | true =>
          have q' : p.1 ∈ r.map (·.1) := List.mem_map_of_mem q
          rw [beq_iff_eq.mp z] at q'
          exact absurd q' hn'.1
      rw [this]
      exact lookup_of_mem hn'.2 q
theorem zip_lookup {h : Heap} {X : List Addr} : ∀ {names : List Str} {ds : List Dt} {vals : List Value}, VL h X ds vals → ∀ {x : Str} {d : Dt}, (names.zip ds).lookup x = some d → ∃ v, (x, v) ∈ names.zip vals ∧ V h X d v
  | [], ds, vals, _, x, d, e => by simp at e
  | y :: names, [], vals, _, x, d, e => by simp at e
  | y :: names, d' :: ds, vals, hv, x, d, e => by
    unfold VL at hv
    obtain ⟨v, r, rfl, hv1, hv2⟩ := hv
    rw [List.zip_cons_cons, List.lookup_cons] at e
    cases hx : x == y with
    | true =>
      rw [hx] at e; cases e
      rw [beq_iff_eq.mp hx]
      exact ⟨v, .head _, hv1⟩
    | false =>
      rw [hx] at e
      obtain ⟨u, hu, hV⟩ := zip_lookup (names := names) hv2 e
      exact ⟨u, .tail _ hu, hV⟩
theorem zip_keys_sub : ∀ (names : List Str) (vals : List Value), ((names.zip vals).map (·.1)).Sublist names
  | [], _ => by simp
  | n :: names, [] => by simp
  | n :: names, v :: vals => by simpa using zip_keys_sub names vals
variable {prog : Program} {w : World} {A : Around} {E : Value → Shared → Prop} {s : Shared} {env : Env}
structure FnOk (K : Frag) (a : Addr) (fd : FuncData) (body : List Stmt) (names : List Str) : Prop where
  obj : ∃ o, K.lookup a = some o ∧ o.data = .func fd
  body : fd.body = .stmts body
  clo : fd.closure = []
  gl : fd.globals = mainGlobals
  bl : fd.builtins = builtinsNs
  cd : codeIn K fd.code fd.qualname = true
  co : fd.scope.isCoroutine = false
  gen : fd.scope.isGenerator = false
  kind : fd.scope.kind = .function
  nodup : names.Nodup
  kinds : ∀ x ∈ names, fd.scope.names.lookup x = some .local ∨ fd.scope.names.lookup x = some .cell
  nofree : ∀ x ∈ fd.scope.names, x.2 ≠ .free
  uniq : (fd.scope.names.map (·.1)).Nodup
theorem FnOk.fnv {K : Frag} {a : Addr} {fd : FuncData} {body : List Stmt} {names : List Str} (f : FnOk K a fd body names) (h : Heap) (k : K.In h) : FnV h (.ref a) := by
  obtain ⟨o, ho, hd⟩ := f.obj
  exact ⟨o, fd, k _ _ ho, hd⟩
theorem fn_frame {K : Frag} {m : Nat} {a : Addr} {fd : FuncData} {body : List Stmt} {names : List Str} {ds : List Dt} {d : Dt} (FO : FnOk K a fd body names)
    (hrun : ∀ (env : Env) (A : Around) (E : Value → Shared → Prop) (s : Shared) (X : List Addr), env.code = fd.code → ScOk fd.scope.names env → Sep X env none → StOk s.heap X env none (names.zip ds, []) → Gd K s.heap → GdW K (Wr env none) → Rm A m →
      wpAny (model prog w) A (execs body env) (fun f s' => KeepsW (Wr env none) s s' ∧ ∃ v, f = .ret v ∧ V s'.heap X d v) E s)
    {X : List Addr} {pos : List Value} {kw : List (Str × Value)} {vals : List Value} (R : Rm A (m + 1)) (G : Gd K s.heap) (L : Live s.heap X) (hv : VL s.heap X ds vals) (hb : BindsTo s fd ⟨pos, kw⟩ (names.zip vals)) :
    wpAny (model prog w) A (call (.ref a) pos kw) (fun r s' => Keeps s s' ∧ V s'.heap X d r) E s := by
  obtain ⟨o, ho, hd⟩ := FO.obj
  refine wpAny_call (codeAny_call_function (by have := R.2.1; lia) (G.kin _ _ ho) hd FO.co FO.gen FO.body (codeRec_of G.kin FO.cd) ?_)
  refine hb _ _ _ _ ?_
  rw [FO.clo, FO.gl, FO.bl]
  have keysub := zip_keys_sub names vals
  refine wpAny_newFunctionEnv_cells FO.kind (fun x hx => ?_) fun env he s' IC => ⟨G.lim.keeps IC.toInCall.keep, codeAny_func ?_⟩
  · have : x.1 ∈ names := keysub.subset (List.mem_map_of_mem hx)
    rcases FO.kinds x.1 this with q | q
    · exact .inl q
    · exact .inr ⟨q, cellsFrom_some _ _ _ _ (.inl (mem_of_lookup q))⟩
  · have hkind : ∀ x, env.kindOf x = fd.scope.names.lookup x := fun x => by rw [he]; rfl
    have hloc : env.locals = s.heap.objs.size := by rw [he]; rfl
    have hcells : env.cells = cellsFrom (s.heap.objs.size + 1) fd.scope.names [] := by rw [he]; rfl
    have hge : ∀ b ∈ Wr env none, s.heap.objs.size ≤ b := fun b hb => by
      unfold Wr at hb
      simp only [Option.toList_none, List.append_nil] at hb
      rcases List.mem_cons.mp hb with q | q
      · rw [q, hloc]; exact Nat.le_refl _
      · obtain ⟨p, hp, rfl⟩ := List.mem_map.mp q
        have := IC.above p.1 p.2 hp
        rw [hloc] at this
        exact Nat.le_of_lt this
    have hfresh : ∀ b ∈ Wr env none, s.heap.get? b = Option.none := fun b hb => fresh_none _ (hge b hb)
    have hlt : ∀ {b : Addr} {o : Obj}, s.heap.get? b = some o → b ∉ Wr env none := fun {b o} e q => by rw [hfresh b q] at e; cases e
    have GW : GdW K (Wr env none) := ⟨fun b o e => hlt (G.kin b o e), by obtain ⟨_, o, _, _, e, _⟩ := G.g; exact hlt e, by obtain ⟨_, ⟨o, _, _, e, _⟩, _⟩ := G.b; exact hlt e, by obtain ⟨_, ⟨o, _, _, e, _⟩, _⟩ := G.lim; exact hlt e⟩
    have S : ScOk fd.scope.names env := fun x k e => .inl (by rw [hkind, e])
    have k₁ : Keeps s s' := by
      obtain ⟨h', tk, e⟩ := IC.toInCall.same
      have := IC.toInCall.keep
      exact ⟨h', tk, e, fun b o q => by have := this b o q; rw [e] at this; exact this⟩
    have up : ∀ {d : Dt} {v : Value}, V s.heap X d v → V s'.heap (Wr env none ++ X) d v := fun {d v} x => V.ext (Keeps.ext k₁) (V.more (fun b hb hn => by
      rcases List.mem_append.mp hb with q | q
      · exact hfresh b q
      · exact absurd q hn) d v x)
    have P : Sep (Wr env none ++ X) env none := by
      refine ⟨fun b hb => List.mem_append_left _ hb, fun x c hc => ?_, fun x y c hx hy => name_of_addr IC.apart (mem_of_lookup hx) (mem_of_lookup hy), fun a e => by cases e⟩
      exact Nat.ne_of_gt (IC.above x c (mem_of_lookup hc))
    have hnd : ((names.zip vals).map (·.1)).Nodup := keysub.nodup FO.nodup
    have N : StOk s'.heap (Wr env none ++ X) env none (names.zip ds, []) := by
      refine ⟨⟨by rw [he]; exact FO.kind, by rw [he]; rfl, by rw [he]; rfl, List.mem_append_left _ (Wr.loc env none), fun b hb => ?_, ⟨_, IC.toInCall.ns, fun x dd e hk => ?_⟩, fun x hk => ?_⟩, fun a e => by cases e⟩
      · rcases List.mem_append.mp hb with q | q
        · unfold Wr at q
          simp only [Option.toList_none, List.append_nil] at q
          rcases List.mem_cons.mp q with q | q
          · rw [q]; obtain ⟨o, _, _, ho, _⟩ := IC.toInCall.ns; exact ⟨o, ho⟩
          · obtain ⟨p, hp, rfl⟩ := List.mem_map.mp q
            have hc := lookup_of_mem (by rw [hcells]; exact cellsFrom_nodup fd.scope.names _ [] FO.uniq (by simp) (by simp)) hp
            obtain ⟨o, ho, _⟩ := IC.cell p.1 p.2 hc; exact ⟨o, ho⟩
        · obtain ⟨o, ho⟩ := L b q; exact ⟨o, Keeps.ext k₁ b o ho⟩
      · obtain ⟨v, hm, hV⟩ := zip_lookup hv e
        exact ⟨v, bindL_get _ _ _ _ hnd hm hk, up hV⟩
      · have hkc : fd.scope.names.lookup x = some .cell := by
          rcases hk with hk | hk
          · rw [← hkind]; exact hk
          · rw [hkind] at hk
            exact absurd rfl (FO.nofree _ (mem_of_lookup hk))
        obtain ⟨c, hc⟩ := Option.isSome_iff_exists.mp (cellsFrom_some fd.scope.names (s.heap.objs.size + 1) [] x (.inl (mem_of_lookup hkc)))
        rw [← hcells] at hc
        refine ⟨c, _, hc, IC.cell x c hc, List.mem_append_left _ (Wr.cel hc), fun dd e => ?_⟩
        obtain ⟨v, hm, hV⟩ := zip_lookup hv e
        exact ⟨v, bindC_get _ _ _ _ hnd hm (by rw [hkind, hkc]; intro q; cases q), up hV⟩
    have R' : Rm (A.deeper env) m := ⟨R.1, by have := R.2.1; show A.depth + 1 + m < _; lia, by have := R.2.2; show A.units + 3 + 100 * m + 200 < _; lia⟩
    refine wpAny_mono (hrun env (A.deeper env) _ s' (Wr env none ++ X) (by rw [he]; rfl) S P N (G.ext (Keeps.ext k₁)) GW R') (fun f s'' q => ?_) fun _ _ x => x
    obtain ⟨k₂, v, rfl, hV⟩ := q
    refine ⟨?_, V.less (fun b hb => List.mem_append_right _ hb) hV⟩
    obtain ⟨h1, t1, rfl, e1⟩ := k₁
    obtain ⟨h2, t2, rfl, e2, _⟩ := k₂
    exact ⟨h2, t2, rfl, fun b o e => e2 b o (hlt e) (e1 b o e)⟩
theorem fn_call {cf : Orc} {K : Frag} {m n : Nat} {a : Addr} {fd : FuncData} {body : List Stmt} {names : List Str} {ds : List Dt} {d : Dt} {σ' : Sg} (B : Bn K) (CG' : CG K cf) (C : CF K prog w m cf) (FO : FnOk K a fd body names)
    (hex : exs cf none n fd.scope.names (names.zip ds, []) body = some (.ret d, σ'))
    {X : List Addr} {pos : List Value} {kw : List (Str × Value)} {vals : List Value} (R : Rm A (m + 1)) (G : Gd K s.heap) (L : Live s.heap X) (hv : VL s.heap X ds vals) (hb : BindsTo s fd ⟨pos, kw⟩ (names.zip vals)) :
    wpAny (model prog w) A (call (.ref a) pos kw) (fun r s' => Keeps s s' ∧ V s'.heap X d r) E s := by
  refine fn_frame FO (fun env A E s X _ S P N G GW R => ?_) R G L hv hb
  refine wpAny_mono ((ex_sound B CG' C n).2 _ _ body _ _ env A E s X hex S P N G GW R) (fun f s' q => ?_) fun _ _ x => x
  refine bc fun nG => ?_
  obtain ⟨k, _, v, rfl, hV⟩ := q
  refine nG ?_
  exact ⟨k, v, rfl, hV⟩
end Mine
end
section
open PySem PySem.W PyProof.Rows
set_option maxRecDepth 100000
namespace Mine
theorem ofString_beq (a b : String) : (Str.ofString a == Str.ofString b) = (a == b) := by
  rw [Bool.eq_iff_iff]
  simp only [beq_iff_eq]
  constructor
  · intro h
    rw [Str.ofString_eq_toList, Str.ofString_eq_toList] at h
    have h' : a.toList.map Char.toNat = b.toList.map Char.toNat := by
      have := congrArg (fun s => s.cps.toList) h
      simpa using this
    have inj : Function.Injective Char.toNat := fun x y e => by
      have := congrArg Char.ofNat e
      simpa using this
    exact String.toList_inj.mp ((List.map_inj_right (fun x y e => inj e)).mp h')
  · rintro rfl; rfl
noncomputable def fdAt (K : Frag) (a : Addr) : FuncData := match K.lookup a with
  | some ⟨_, _, .func fd, _⟩ => fd
  | _ => default
noncomputable def bodyAt (K : Frag) (a : Addr) : List Stmt := match (fdAt K a).body with
  | .stmts b => b
  | _ => []
variable {prog : Program} {w : World} {A : Around} {E : Value → Shared → Prop} {s : Shared} {env : Env}
theorem Rm.mono {A : Around} {m m' : Nat} (R : Rm A m) (h : m' ≤ m) : Rm A m' := ⟨R.1, by have := R.2.1; lia, by have := R.2.2; lia⟩
noncomputable def FnC (K : Frag) (prog : Program) (w : World) (m : Nat) (f : Str) (g : List Dt → List (Str × Dt) → Option Dt) : Prop :=
  ∃ fv, nsIn K mainGlobals f = some (some fv) ∧ (∀ h, K.In h → FnV h fv) ∧ ∀ ds ks d, g ds ks = some d →
    ∀ (A : Around) (E : Value → Shared → Prop) (s : Shared) (X : List Addr) (vs kvs : List Value), Rm A m → Gd K s.heap → Live s.heap X → VL s.heap X ds vs → VL s.heap X (ks.map (·.2)) kvs →
      wpAny (model prog w) A (call fv vs ((ks.map (·.1)).zip kvs)) (fun r s' => Keeps s s' ∧ V s'.heap X d r) E s
noncomputable def Orc.or (cf : Orc) (f : Str) (g : List Dt → List (Str × Dt) → Option Dt) : Orc := ⟨fun h ds ks => if h == f then g ds ks else cf.fn h ds ks, cf.gl⟩
theorem CF.or {K : Frag} {m m' : Nat} {cf : Orc} {f : Str} {g : List Dt → List (Str × Dt) → Option Dt} (hm : m ≤ m') (C : CF K prog w m cf) (F : FnC K prog w m' f g) : CF K prog w m' (cf.or f g) := by
  intro h ds ks d e
  unfold Orc.or at e
  dsimp only at e
  split at e
  · rename_i q
    have q' : h = f := by simpa using q
    subst q'
    obtain ⟨fv, a, b, c⟩ := F
    exact ⟨fv, a, b, c ds ks d e⟩
  · obtain ⟨fv, a, b, c⟩ := C h ds ks d e
    exact ⟨fv, a, b, fun A E s X vs kvs R => c A E s X vs kvs (R.mono hm)⟩
theorem FnC.of_ex {K : Frag} {m n : Nat} {cf : Orc} {f : Str} {a : Addr} {fd : FuncData} {body : List Stmt} {names : List Str} {g : List Dt → List (Str × Dt) → Option Dt} (B : Bn K) (CG' : CG K cf) (C : CF K prog w m cf)
    (hf : nsIn K mainGlobals f = some (some (.ref a))) (FO : FnOk K a fd body names)
    (hb : ∀ vs : List Value, vs.length = names.length → ∀ S, peek K S (bindArgs fd ⟨vs, []⟩) = some (names.zip vs))
    (hg : ∀ ds ks d, g ds ks = some d → ks = [] ∧ ds.length = names.length ∧ ∃ σ', exs cf none n fd.scope.names (names.zip ds, []) body = some (.ret d, σ')) : FnC K prog w (m + 1) f g := by
  refine ⟨_, hf, FO.fnv, fun ds ks d e A E s X vs kvs R G L hv hk => ?_⟩
  obtain ⟨rfl, hl, σ', hex⟩ := hg ds ks d e
  have : kvs = [] := by unfold VL at hk; exact hk
  subst this
  exact fn_call B CG' C FO hex R G L hv (kp_binds G.kin (hb vs (by rw [hv.length, hl])))
noncomputable def fnOkB (K : Frag) (a : Addr) (names : List Str) : Bool := match K.lookup a with
  | some ⟨_, _, .func fd, _⟩ => (match fd.body with | .stmts _ => true | _ => false) && fd.closure.isEmpty && fd.globals == mainGlobals && fd.builtins == builtinsNs && codeIn K fd.code fd.qualname && !fd.scope.isCoroutine && !fd.scope.isGenerator && fd.scope.kind == .function && decide names.Nodup
      && (names.all fun x => fd.scope.names.lookup x == some .local || fd.scope.names.lookup x == some .cell) && (fd.scope.names.all fun x => x.2 != .free) && decide (fd.scope.names.map (·.1)).Nodup
  | _ => false
theorem FnOk.of {K : Frag} {a : Addr} {names : List Str} (h : fnOkB K a names = true) : FnOk K a (fdAt K a) (bodyAt K a) names := by
  unfold fnOkB at h
  split at h
  · rename_i fd _ hl
    have e : fdAt K a = fd := by unfold fdAt; rw [hl]
    simp only [Bool.and_eq_true, decide_eq_true_eq, beq_iff_eq, Bool.not_eq_true', List.isEmpty_iff] at h
    obtain ⟨⟨⟨⟨⟨⟨⟨⟨⟨⟨⟨h1, h2⟩, h3⟩, h4⟩, h5⟩, h6⟩, h7⟩, h8⟩, h9⟩, h10⟩, h11⟩, h12⟩ := h
    have e2 : fd.body = .stmts (bodyAt K a) := by
      unfold bodyAt
      rw [e]
      split at h1
      · rename_i b hb; rw [hb]
      · cases h1
    rw [e]
    refine ⟨⟨_, hl, rfl⟩, e2, h2, h3, h4, h5, h6, h7, h8, h9, fun x hx => ?_, fun x hx => ?_, h12⟩
    · have := List.all_eq_true.mp h10 x hx; simpa using this
    · have := List.all_eq_true.mp h11 x hx; simpa using this
  · cases h
noncomputable def forF (cf : Orc) (oa : Option Addr) (n : Nat) (sc : List (Str × NameKind)) (x : Str) (body : List Stmt) (d : Dt) (σ : Sg) : Option (Fl × Sg) := exs cf oa n sc (upd σ.1 x d, σ.2) body
theorem ex_forF {cf : Orc} {oa : Option Addr} {n : Nat} {sc : List (Str × NameKind)} {σ : Sg} {x : Str} {px p : Pos} {iter : Expr} {body : List Stmt} : ex1 cf oa (n + 1) sc σ (.For (.Name x px) iter body [] p) = (if canSet sc x then (match ev cf n sc σ.1 iter with
      | some it => (match itemsD it with
        | some items => forGo (forF cf oa n sc x body) items σ
        | Option.none => Option.none)
      | Option.none => Option.none) else Option.none) := ex_for
theorem forGo_inv {f : Dt → Sg → Option (Fl × Sg)} : ∀ {items : List Dt} {σ : Sg} (Q : Nat → Sg → Prop), Q 0 σ → (∀ (i : Nat) d σ, items[i]? = some d → Q i σ → ∃ σ', (f d σ = some (.next, σ') ∨ f d σ = some (.cont, σ')) ∧ Q (i + 1) σ') → ∃ σ', forGo f items σ = some (.next, σ') ∧ Q items.length σ'
  | [], σ, Q, h0, _ => ⟨σ, rfl, h0⟩
  | d :: r, σ, Q, h0, hs => by
    obtain ⟨σ1, e, h1⟩ := hs 0 d σ rfl h0
    obtain ⟨σ', e', h'⟩ := forGo_inv (items := r) (f := f) (σ := σ1) (fun i => Q (i + 1)) h1 fun i d' σ2 hi hq => hs (i + 1) d' σ2 (by simpa using hi) hq
    refine ⟨σ', ?_, by simpa using h'⟩
    unfold forGo
    rcases e with e | e <;> rw [e] <;> exact e'
theorem compGo_map {f : Dt → Option (Option Dt)} {g : Dt → Dt} : ∀ {items : List Dt}, (∀ d ∈ items, f d = some (some (g d))) → compGo f items = some (items.map g)
  | [], _ => rfl
  | d :: r, h => by
    unfold compGo
    rw [h d (.head _)]
    simp [compGo_map (items := r) (g := g) fun d hd => h d (.tail _ hd)]
noncomputable def gk0 (f : List Dt → Option Dt) (ds : List Dt) (ks : List (Str × Dt)) : Option Dt := match ks with
  | [] => f ds
  | _ :: _ => Option.none
theorem gk0_x {f : List Dt → Option Dt} {ds : List Dt} {ks : List (Str × Dt)} {d : Dt} (h : gk0 f ds ks = some d) : ks = [] ∧ f ds = some d := by
  cases ks with
  | nil => exact ⟨rfl, h⟩
  | cons _ _ => exact nope h
noncomputable def on0 (o : Option Dt) (ds : List Dt) : Option Dt := match ds with
  | [] => o
  | _ :: _ => Option.none
theorem on0_x {o : Option Dt} {ds : List Dt} {d : Dt} (h : on0 o ds = some d) : ds = [] ∧ o = some d := by
  cases ds with
  | nil => exact ⟨rfl, h⟩
  | cons _ _ => exact nope h
noncomputable def on2 (f : Dt → Dt → Option Dt) (ds : List Dt) : Option Dt := match ds with
  | [] => Option.none
  | a :: r => on1 (f a) r
theorem on2_x {f : Dt → Dt → Option Dt} {ds : List Dt} {d : Dt} (h : on2 f ds = some d) : ∃ a b, ds = [a, b] ∧ f a b = some d := by
  cases ds with
  | nil => exact nope h
  | cons a r =>
    obtain ⟨b, rfl, h⟩ := on1_x (f := f a) (args := r) h
    exact ⟨a, b, rfl, h⟩
noncomputable def oB (f : List UInt8 → Option Dt) (a : Dt) : Option Dt := match a with
  | .bytes b => f b
  | _ => Option.none
theorem oB_x {f : List UInt8 → Option Dt} {a d : Dt} (h : oB f a = some d) : ∃ b, a = .bytes b ∧ f b = some d := by
  cases a with
  | bytes b => exact ⟨b, rfl, h⟩
  | _ => exact nope h
noncomputable def oI (f : Int → Option Dt) (a : Dt) : Option Dt := match a with
  | .int b => f b
  | _ => Option.none
theorem oI_x {f : Int → Option Dt} {a d : Dt} (h : oI f a = some d) : ∃ b, a = .int b ∧ f b = some d := by
  cases a with
  | int b => exact ⟨b, rfl, h⟩
  | _ => exact nope h
noncomputable def oS (f : Str → Option Dt) (a : Dt) : Option Dt := match a with
  | .str b => f b
  | _ => Option.none
theorem oS_x {f : Str → Option Dt} {a d : Dt} (h : oS f a = some d) : ∃ b, a = .str b ∧ f b = some d := by
  cases a with
  | str b => exact ⟨b, rfl, h⟩
  | _ => exact nope h
noncomputable def oT (f : Bool → Option Dt) (a : Dt) : Option Dt := match a with
  | .bool b => f b
  | _ => Option.none
theorem oT_x {f : Bool → Option Dt} {a d : Dt} (h : oT f a = some d) : ∃ b, a = .bool b ∧ f b = some d := by
  cases a with
  | bool b => exact ⟨b, rfl, h⟩
  | _ => exact nope h
noncomputable def gkF (nm : Str) (f : List Dt → Option Dt) (ds : List Dt) (ks : List (Str × Dt)) : Option Dt := match ks with
  | [] => Option.none
  | p :: r => gk0 (fun ds => oT (fun b => if p.1 = nm ∧ b = false then f ds else Option.none) p.2) ds r
theorem gkF_x {nm : Str} {f : List Dt → Option Dt} {ds : List Dt} {ks : List (Str × Dt)} {d : Dt} (h : gkF nm f ds ks = some d) : ks = [(nm, .bool false)] ∧ f ds = some d := by
  cases ks with
  | nil => exact nope h
  | cons p r =>
    obtain ⟨rfl, h⟩ := gk0_x (f := fun ds => oT (fun b => if p.1 = nm ∧ b = false then f ds else Option.none) p.2) (ks := r) h
    obtain ⟨b, hb, h⟩ := oT_x h
    obtain ⟨⟨h1, h2⟩, h⟩ := ite_x h
    refine ⟨?_, h⟩
    rw [← h1, ← h2, ← hb]
theorem gkF_i (nm : Str) (f : List Dt → Option Dt) (ds : List Dt) : gkF nm f ds [(nm, .bool false)] = f ds := if_pos ⟨rfl, rfl⟩
theorem ln1 {α : Type} {vs : List α} (h : vs.length = 1) : ∃ v, vs = [v] := List.length_eq_one_iff.mp h
theorem ln2 {α : Type} {vs : List α} (h : vs.length = 2) : ∃ v u, vs = [v, u] := by
  cases vs with
  | nil => exact nomatch h
  | cons v r =>
    obtain ⟨u, rfl⟩ := ln1 (Nat.succ.inj h)
    exact ⟨v, u, rfl⟩
end Mine
end
section
open PySem PySem.W PyProof.Rows
set_option genInjectivity false
set_option genSizeOfSpec false
set_option maxRecDepth 100000
namespace Mine
inductive PI where
  | b (b : Bool)
  | d (d : Dt)
  | l (l : List Dt)
  | r (f : Fl) (σ : Sg)
  | n (d : Dt)
noncomputable abbrev Pt := List PI
noncomputable abbrev Sc := List (Str × NameKind)
noncomputable abbrev Rh := List (Str × Dt)
noncomputable def optP {α : Type} (o : Option α) (k : α → Prop) : Prop := match o with
  | some a => k a
  | Option.none => False
noncomputable def boolP (b : Bool) (k : Prop) : Prop := match b with
  | true => k
  | false => False
noncomputable def popD (o : Option Dt) (p : Pt) (k : Dt → Pt → Prop) : Prop := match p with
  | .d d :: p => o = some d ∧ k d p
  | _ => False
noncomputable def popB (o : Option Bool) (p : Pt) (k : Bool → Pt → Prop) : Prop := match p with
  | .b d :: p => o = some d ∧ k d p
  | _ => False
noncomputable def popL (o : Option (List Dt)) (p : Pt) (k : List Dt → Pt → Prop) : Prop := match p with
  | .l d :: p => o = some d ∧ k d p
  | _ => False
noncomputable def popR (o : Option (Fl × Sg)) (p : Pt) (k : Fl × Sg → Pt → Prop) : Prop := match p with
  | .r f σ :: p => o = some (f, σ) ∧ k (f, σ) p
  | _ => False
structure Rc where
  e : Sc → Rh → Expr → Pt → (Dt → Pt → Prop) → Prop
  s : Sc → Rh → List Expr → Pt → (List Dt → Pt → Prop) → Prop
  k : Sc → Rh → List Keyword → Pt → (List (Str × Dt) → Pt → Prop) → Prop
  t : Sc → Rh → Expr → Pt → (Bool → Pt → Prop) → Prop
  a : Sc → Rh → BoolOp → List Expr → Pt → (Bool → Pt → Prop) → Prop
noncomputable def intP (f : Int → Int → Int) (op : Operator) (a b : Dt) (p : Pt) (k : Dt → Pt → Prop) : Prop := match a with
  | .int x => (match b with
    | .int y => k (.int (f x y)) p
    | _ => popD (binD op a b) p k)
  | _ => popD (binD op a b) p k
noncomputable def binP (op : Operator) (a b : Dt) (p : Pt) (k : Dt → Pt → Prop) : Prop := match op with
  | .Add => intP (· + ·) .Add a b p k
  | .Sub => intP (· - ·) .Sub a b p k
  | op => popD (binD op a b) p k
noncomputable def negP (op : UnaryOp) (d : Dt) (p : Pt) (k : Dt → Pt → Prop) : Prop := match op with
  | .USub => (match d with
    | .int i => k (.int (-i)) p
    | _ => False)
  | _ => False
noncomputable def itemsP (d : Dt) (p : Pt) (k : List Dt → Pt → Prop) : Prop := match d with
  | .list l => k l p
  | .bytes b => k (b.map fun c => .int (c.toNat : Int)) p
  | d => popL (itemsD d) p k
noncomputable def partP (R : Rc) (sc : Sc) (ρ : Rh) (e : Option Expr) (p : Pt) (k : Option Int → Pt → Prop) : Prop := match e with
  | Option.none => k Option.none p
  | some e => R.e sc ρ e p fun d p => match d with
    | .int i => k (some i) p
    | _ => False
noncomputable def cmpP (R : Rc) (sc : Sc) (ρ : Rh) (l : Expr) (ops : List CmpOp) (rs : List Expr) (p : Pt) (k : Bool → Pt → Prop) : Prop := match ops, rs with
  | [op], [r] => R.e sc ρ l p fun a p => R.e sc ρ r p fun b p => popB (cmpD op a b) p k
  | _, _ => False
noncomputable def callP (cf : Orc) (R : Rc) (sc : Sc) (ρ : Rh) (f : Expr) (args : List Expr) (kws : List Keyword) (pos : Pos) (p : Pt) (k : Dt → Pt → Prop) : Prop := match f with
  | .Name f _ => boolP (!(f == Str.ofString "__debug__") && sc.lookup f == some .globalImplicit) (R.s sc ρ args p fun ds p => R.k sc ρ kws p fun ks p =>
      popD (if bltNames.contains f then (if ks.isEmpty then bltD f ds else Option.none) else cf.fn f ds ks) p k)
  | .Attribute o name apos => (match args, kws with
    | [a], [] => boolP (baseOk o && (apos.endLine == pos.line)) (R.e sc ρ o p fun d p => R.e sc ρ a p fun x p => popD (methD d name x) p k)
    | _, _ => False)
  | _ => False
noncomputable def slc (l : List Dt) (a b c : Option Int) : Option Dt := if c ≠ some 0 ∧ l.length ≤ 1000 then some (.list (sliceD l a b c)) else Option.none
noncomputable def subP (R : Rc) (sc : Sc) (ρ : Rh) (v i : Expr) (p : Pt) (k : Dt → Pt → Prop) : Prop := match i with
  | .Slice lo hi st _ => R.e sc ρ v p fun d p => (match d with
    | .list l => partP R sc ρ lo p fun a p => partP R sc ρ hi p fun b p => partP R sc ρ st p fun c p => popD (slc l a b c) p k
    | _ => False)
  | .Name .. => R.e sc ρ v p fun a p => R.e sc ρ i p fun b p => popD (itemD a b) p k
  | .BinOp .. => R.e sc ρ v p fun a p => R.e sc ρ i p fun b p => popD (itemD a b) p k
  | .Constant .. => R.e sc ρ v p fun a p => R.e sc ρ i p fun b p => popD (itemD a b) p k
  | _ => False
noncomputable def nameP (cf : Orc) (sc : Sc) (ρ : Rh) (x : Str) (p : Pt) (k : Dt → Pt → Prop) : Prop := match p with
  | [] => optP (nameD cf sc ρ x) fun d => k d p
  | i :: q => (match i with
    | .n d => nameD cf sc ρ x = some d ∧ k d q
    | _ => optP (nameD cf sc ρ x) fun d => k d p)
noncomputable def evF (cf : Orc) (n : Nat) (R : Rc) (sc : Sc) (ρ : Rh) (e : Expr) (p : Pt) (k : Dt → Pt → Prop) : Prop := match e with
  | .Constant c _ _ => optP (constD c) fun d => k d p
  | .Name x _ => nameP cf sc ρ x p k
  | .BinOp l op r _ => R.e sc ρ l p fun a p => R.e sc ρ r p fun b p => binP op a b p k
  | .UnaryOp op x _ => R.e sc ρ x p fun d p => negP op d p k
  | .IfExp t a b _ => R.t sc ρ t p fun c p => match c with
    | true => R.e sc ρ a p k
    | false => R.e sc ρ b p k
  | .Compare l ops rs _ => cmpP R sc ρ l ops rs p fun c p => k (.bool c) p
  | .List es _ => boolP (decide (es.length ≤ 1000)) (R.s sc ρ es p fun ds p => k (.list ds) p)
  | .ListComp elt gs csc _ => optP (compHd gs) fun z => R.e sc ρ z.2.2.1 p fun it p => itemsP it p fun items p => boolP (compOk sc csc.names ρ z.1 && csc.kind == .function) (items.length ≤ 1000 ∧ popL (compGo (compF cf n csc.names ρ z.1 elt z.2.2.2) items) p fun l p => k (.list l) p)
  | .Call f args kws pos => callP cf R sc ρ f args kws pos p k
  | .Subscript v i _ => subP R sc ρ v i p k
  | _ => False
noncomputable def evsF (R : Rc) (sc : Sc) (ρ : Rh) (es : List Expr) (p : Pt) (k : List Dt → Pt → Prop) : Prop := match es with
  | [] => k [] p
  | e :: r => R.e sc ρ e p fun d p => R.s sc ρ r p fun ds p => k (d :: ds) p
noncomputable def evkF (R : Rc) (sc : Sc) (ρ : Rh) (es : List Keyword) (p : Pt) (k : List (Str × Dt) → Pt → Prop) : Prop := match es with
  | [] => k [] p
  | ⟨x, e, _⟩ :: r => optP x fun x => R.e sc ρ e p fun d p => R.k sc ρ r p fun ds p => k ((x, d) :: ds) p
noncomputable def truP (R : Rc) (sc : Sc) (ρ : Rh) (e : Expr) (p : Pt) (k : Bool → Pt → Prop) : Prop := R.e sc ρ e p fun d p => popB (truthD d) p k
noncomputable def chD (op op' : CmpOp) (a b c : Dt) : Option Bool := match cmpD op a b with
  | some true => cmpD op' b c
  | some false => some false
  | Option.none => Option.none
noncomputable def cmp2P (R : Rc) (sc : Sc) (ρ : Rh) (l : Expr) (ops : List CmpOp) (rs : List Expr) (p : Pt) (k : Bool → Pt → Prop) : Prop := match ops, rs with
  | [op], [r] => R.e sc ρ l p fun a p => R.e sc ρ r p fun b p => popB (cmpD op a b) p k
  | [op, op'], [r, r'] => R.e sc ρ l p fun a p => R.e sc ρ r p fun b p => R.e sc ρ r' p fun c p => popB (chD op op' a b c) p k
  | _, _ => False
noncomputable def tstF (R : Rc) (sc : Sc) (ρ : Rh) (e : Expr) (p : Pt) (k : Bool → Pt → Prop) : Prop := match e with
  | .UnaryOp .Not x _ => R.t sc ρ x p fun b p => k (!b) p
  | .BoolOp op vs _ => R.a sc ρ op vs p k
  | .Compare l ops rs _ => cmp2P R sc ρ l ops rs p k
  | .Name .. => truP R sc ρ e p k
  | .BinOp .. => truP R sc ρ e p k
  | .Call .. => truP R sc ρ e p k
  | .Constant .. => truP R sc ρ e p k
  | _ => False
noncomputable def tstsF (R : Rc) (sc : Sc) (ρ : Rh) (op : BoolOp) (es : List Expr) (p : Pt) (k : Bool → Pt → Prop) : Prop := match es with
  | [] => k (op == .And) p
  | e :: r => R.t sc ρ e p fun b p => match (op == .And) == b with
    | true => R.a sc ρ op r p k
    | false => k b p
noncomputable def rc (cf : Orc) : Nat → Rc
  | 0 => ⟨fun _ _ _ _ _ => False, fun _ _ _ _ _ => False, fun _ _ _ _ _ => False, fun _ _ _ _ _ => False, fun _ _ _ _ _ _ => False⟩
  | n + 1 => ⟨evF cf n (rc cf n), evsF (rc cf n), evkF (rc cf n), tstF (rc cf n), tstsF (rc cf n)⟩
structure Snd (cf : Orc) (n : Nat) (R : Rc) : Prop where
  e : ∀ {sc ρ e p k}, R.e sc ρ e p k → ∀ {G : Prop}, (∀ d p', ev cf n sc ρ e = some d → k d p' → G) → G
  s : ∀ {sc ρ e p k}, R.s sc ρ e p k → ∀ {G : Prop}, (∀ d p', evs cf n sc ρ e = some d → k d p' → G) → G
  k : ∀ {sc ρ e p k}, R.k sc ρ e p k → ∀ {G : Prop}, (∀ d p', evk cf n sc ρ e = some d → k d p' → G) → G
  t : ∀ {sc ρ e p k}, R.t sc ρ e p k → ∀ {G : Prop}, (∀ d p', tst cf n sc ρ e = some d → k d p' → G) → G
  a : ∀ {sc ρ op e p k}, R.a sc ρ op e p k → ∀ {G : Prop}, (∀ d p', tsts cf n sc ρ op e = some d → k d p' → G) → G
theorem optP_x {α : Type} {o : Option α} {k : α → Prop} {G : Prop} (h : optP o k) (H : ∀ a, o = some a → k a → G) : G := by
  cases o with
  | none => exact h.elim
  | some a => exact H a rfl h
theorem boolP_x {b : Bool} {k G : Prop} (h : boolP b k) (H : b = true → k → G) : G := by
  cases b with
  | true => exact H rfl h
  | false => exact h.elim
theorem popD_x {o : Option Dt} {p : Pt} {k : Dt → Pt → Prop} {G : Prop} (h : popD o p k) (H : ∀ d p', o = some d → k d p' → G) : G := by
  cases p with
  | nil => exact h.elim
  | cons i p => cases i with
    | d d => exact H d p h.1 h.2
    | _ => exact h.elim
theorem popB_x {o : Option Bool} {p : Pt} {k : Bool → Pt → Prop} {G : Prop} (h : popB o p k) (H : ∀ d p', o = some d → k d p' → G) : G := by
  cases p with
  | nil => exact h.elim
  | cons i p => cases i with
    | b d => exact H d p h.1 h.2
    | _ => exact h.elim
theorem popL_x {o : Option (List Dt)} {p : Pt} {k : List Dt → Pt → Prop} {G : Prop} (h : popL o p k) (H : ∀ d p', o = some d → k d p' → G) : G := by
  cases p with
  | nil => exact h.elim
  | cons i p => cases i with
    | l d => exact H d p h.1 h.2
    | _ => exact h.elim
theorem popR_x {o : Option (Fl × Sg)} {p : Pt} {k : Fl × Sg → Pt → Prop} {G : Prop} (h : popR o p k) (H : ∀ d p', o = some d → k d p' → G) : G := by
  cases p with
  | nil => exact h.elim
  | cons i p => cases i with
    | r f σ => exact H (f, σ) p h.1 h.2
    | _ => exact h.elim
theorem intP_x {f : Int → Int → Int} {op : Operator} {a b : Dt} {p : Pt} {k : Dt → Pt → Prop} (hf : ∀ x y, binD op (.int x) (.int y) = some (.int (f x y))) {G : Prop} (h : intP f op a b p k) (H : ∀ d p', binD op a b = some d → k d p' → G) : G := by
  cases a with
  | int x => cases b with
    | int y => exact H _ _ (hf x y) h
    | _ => exact popD_x h H
  | _ => exact popD_x h H
theorem nameP_x {cf : Orc} {sc : Sc} {ρ : Rh} {x : Str} {p : Pt} {k : Dt → Pt → Prop} {G : Prop} (h : nameP cf sc ρ x p k) (H : ∀ d p', nameD cf sc ρ x = some d → k d p' → G) : G := by
  cases p with
  | nil => exact optP_x h fun d e h => H d _ e h
  | cons i q => cases i with
    | n d => exact H d q h.1 h.2
    | _ => exact optP_x h fun d e h => H d _ e h
theorem binP_x {op : Operator} {a b : Dt} {p : Pt} {k : Dt → Pt → Prop} {G : Prop} (h : binP op a b p k) (H : ∀ d p', binD op a b = some d → k d p' → G) : G := by
  cases op with
  | Add => exact intP_x (fun _ _ => rfl) h H
  | Sub => exact intP_x (fun _ _ => rfl) h H
  | _ => exact popD_x h H
theorem itemsP_x {d : Dt} {p : Pt} {k : List Dt → Pt → Prop} {G : Prop} (h : itemsP d p k) (H : ∀ l p', itemsD d = some l → k l p' → G) : G := by
  cases d with
  | list l => exact H _ _ rfl h
  | bytes l => exact H _ _ rfl h
  | _ => exact popL_x h H
section
variable {cf : Orc} {n : Nat} {R : Rc} (I : Snd cf n R) {sc : Sc} {ρ : Rh}
include I
theorem partP_x {e : Option Expr} {p : Pt} {k : Option Int → Pt → Prop} {G : Prop} (h : partP R sc ρ e p k) (H : ∀ i p', partD (e.map (ev cf n sc ρ)) = some i → k i p' → G) : G := by
  cases e with
  | none => exact H _ _ rfl h
  | some e =>
    refine I.e h fun d p' e1 h => ?_
    cases d with
    | int i => exact H _ _ (by rw [Option.map_some, e1]; rfl) h
    | _ => exact h.elim
theorem two {l r : Expr} {p : Pt} {k : Dt → Dt → Pt → Prop} {G : Prop} (h : R.e sc ρ l p fun a p => R.e sc ρ r p fun b p => k a b p) (H : ∀ a b p', ev cf n sc ρ l = some a → ev cf n sc ρ r = some b → k a b p' → G) : G :=
  I.e h fun a p e1 h => I.e h fun b p e2 h => H a b p e1 e2 h
theorem callP_x {f : Expr} {args : List Expr} {kws : List Keyword} {pos : Pos} {p : Pt} {k : Dt → Pt → Prop} (h : callP cf R sc ρ f args kws pos p k) : ∃ d p', ev cf (n + 1) sc ρ (.Call f args kws pos) = some d ∧ k d p' := by
  cases f with
  | Name f q =>
    refine boolP_x h fun hb h => ?_
    refine I.s h fun ds p e1 h => ?_
    refine I.k h fun ks p e2 h => ?_
    refine popD_x h fun d p e3 h => ?_
    obtain ⟨h1, h2⟩ := Bool.and_eq_true_iff.mp hb
    refine ⟨d, p, ?_, h⟩
    rw [ev_call, (by simpa using h1 : (f == Str.ofString "__debug__") = false), h2, e1, e2]
    exact e3
  | Attribute o name apos =>
    cases args with
    | nil => exact h.elim
    | cons a r => cases r with
      | cons _ _ => exact h.elim
      | nil => cases kws with
        | cons _ _ => exact h.elim
        | nil =>
          refine boolP_x h fun hb h => ?_
          refine two I h fun x y p e1 e2 h => ?_
          refine popD_x h fun d p e3 h => ?_
          refine ⟨d, p, ?_, h⟩
          rw [ev_meth, if_pos hb, e1, e2]
          exact e3
  | _ => exact h.elim
theorem itm_x {v i : Expr} {p : Pt} {q : Pos} {k : Dt → Pt → Prop} (hi : ev cf (n + 1) sc ρ (.Subscript v i q) = (match ev cf n sc ρ v, ev cf n sc ρ i with
      | some a, some b => itemD a b
      | _, _ => Option.none)) (h : R.e sc ρ v p fun a p => R.e sc ρ i p fun b p => popD (itemD a b) p k) : ∃ d p', ev cf (n + 1) sc ρ (.Subscript v i q) = some d ∧ k d p' := by
  refine two I h fun x y p e1 e2 h => ?_
  refine popD_x h fun d p e3 h => ?_
  exact ⟨d, p, by rw [hi, e1, e2]; exact e3, h⟩
theorem subP_x {v i : Expr} {p : Pt} {q : Pos} {k : Dt → Pt → Prop} (h : subP R sc ρ v i p k) : ∃ d p', ev cf (n + 1) sc ρ (.Subscript v i q) = some d ∧ k d p' := by
  cases i with
  | Slice lo hi st z =>
    refine I.e h fun d p e1 h => ?_
    cases d with
    | list l =>
      refine partP_x I h fun a p e2 h => ?_
      refine partP_x I h fun b p e3 h => ?_
      refine partP_x I h fun c p e4 h => ?_
      refine popD_x h fun d p e5 h => ?_
      refine ⟨d, p, ?_, h⟩
      rw [ev_slice, e1]
      dsimp only
      rw [e2, e3, e4]
      exact e5
    | _ => exact h.elim
  | Name _ _ => exact itm_x I rfl h
  | BinOp _ _ _ _ => exact itm_x I rfl h
  | Constant _ _ _ => exact itm_x I rfl h
  | _ => exact h.elim
theorem cmpP_x {l : Expr} {ops : List CmpOp} {rs : List Expr} {pos : Pos} {p : Pt} {k : Bool → Pt → Prop} (h : cmpP R sc ρ l ops rs p k) : ∃ b p', ev cf (n + 1) sc ρ (.Compare l ops rs pos) = some (.bool b) ∧ k b p' := by
  cases ops with
  | nil => exact h.elim
  | cons op ops => cases ops with
    | cons _ _ => exact h.elim
    | nil => cases rs with
      | nil => exact h.elim
      | cons r rs => cases rs with
        | cons _ _ => exact h.elim
        | nil =>
          refine two I h fun x y p e1 e2 h => ?_
          refine popB_x h fun d p e3 h => ?_
          exact ⟨d, p, by rw [ev_cmp, e1, e2]; dsimp only; rw [e3]; rfl, h⟩
theorem evF_x {e : Expr} {p : Pt} {k : Dt → Pt → Prop} (h : evF cf n R sc ρ e p k) : ∃ d p', ev cf (n + 1) sc ρ e = some d ∧ k d p' := by
  cases e with
  | Constant c z q => refine optP_x h fun d e h => ?_; exact ⟨d, p, e, h⟩
  | Name x q => exact nameP_x h fun d p e h => ⟨d, p, e, h⟩
  | BinOp l op r q =>
    refine two I h fun x y p e1 e2 h => ?_
    refine binP_x h fun d p e3 h => ?_
    exact ⟨d, p, by rw [ev_bin, e1, e2]; exact e3, h⟩
  | UnaryOp op x q =>
    refine I.e h fun d p e1 h => ?_
    cases op with
    | USub => cases d with
      | int i => exact ⟨_, p, by rw [ev_neg, e1], h⟩
      | _ => exact h.elim
    | _ => exact h.elim
  | IfExp t a b q =>
    refine I.t h fun c p e1 h => ?_
    cases c with
    | true => refine I.e h fun d p e2 h => ?_; exact ⟨d, p, by rw [ev_if, e1]; exact e2, h⟩
    | false => refine I.e h fun d p e2 h => ?_; exact ⟨d, p, by rw [ev_if, e1]; exact e2, h⟩
  | Compare l ops rs q =>
    obtain ⟨b, p, e, h⟩ := cmpP_x I h
    exact ⟨_, p, e, h⟩
  | List es q =>
    refine boolP_x h fun hb h => ?_
    refine I.s h fun d p e1 h => ?_
    exact ⟨_, p, by rw [ev_list, if_pos (of_decide_eq_true hb), e1]; rfl, h⟩
  | ListComp elt gs csc q =>
    refine optP_x h fun zz0 e h => ?_
    obtain ⟨x, px, iter, ifs⟩ := zz0
    obtain rfl := compHd_x e
    refine I.e h fun it p e1 h => ?_
    refine itemsP_x h fun items p e2 h => ?_
    refine boolP_x h fun hb h => ?_
    obtain ⟨hl, h⟩ := h
    refine popL_x h fun l p e3 h => ?_
    refine ⟨_, p, ?_, h⟩
    rw [ev_comp, e1]
    dsimp only
    rw [e2]
    dsimp only
    rw [if_pos (by rw [hb, decide_eq_true hl]; rfl), e3]
    rfl
  | Call f args kws pos => exact callP_x I h
  | Subscript v i q => exact subP_x I h
  | _ => exact h.elim
theorem truP_x {e : Expr} {p : Pt} {k : Bool → Pt → Prop} (hi : tst cf (n + 1) sc ρ e = (match ev cf n sc ρ e with
      | some d => truthD d
      | Option.none => Option.none)) (h : truP R sc ρ e p k) : ∃ d p', tst cf (n + 1) sc ρ e = some d ∧ k d p' := by
  refine I.e h fun x p e1 h => ?_
  refine popB_x h fun d p e3 h => ?_
  exact ⟨d, p, by rw [hi, e1]; exact e3, h⟩
theorem tstF_x {e : Expr} {p : Pt} {k : Bool → Pt → Prop} (h : tstF R sc ρ e p k) : ∃ d p', tst cf (n + 1) sc ρ e = some d ∧ k d p' := by
  cases e with
  | UnaryOp op x q => cases op with
    | Not =>
      refine I.t h fun d p e1 h => ?_
      exact ⟨_, p, by rw [tst_not, e1]; rfl, h⟩
    | _ => exact h.elim
  | BoolOp op vs q => exact I.a h fun d p e h => ⟨d, p, e, h⟩
  | Compare l ops rs q =>
    rcases ops with _ | ⟨op, _ | ⟨op', _ | ⟨_, _⟩⟩⟩
    · exact h.elim
    · rcases rs with _ | ⟨r, _ | ⟨_, _⟩⟩
      · exact h.elim
      · refine two I h fun x y p e1 e2 h => ?_
        refine popB_x h fun d p e3 h => ?_
        exact ⟨d, p, by rw [tst_cmp1, e1, e2]; exact e3, h⟩
      · exact h.elim
    · rcases rs with _ | ⟨r, _ | ⟨r', _ | ⟨_, _⟩⟩⟩
      · exact h.elim
      · exact h.elim
      · refine I.e h fun x p e1 h => ?_
        refine two I h fun y z p e2 e3 h => ?_
        refine popB_x h fun d p e4 h => ?_
        exact ⟨d, p, by rw [tst_cmp2, e1, e2, e3]; exact e4, h⟩
      · exact h.elim
    · exact h.elim
  | Name _ _ => exact truP_x I rfl h
  | BinOp _ _ _ _ => exact truP_x I rfl h
  | Call _ _ _ _ => exact truP_x I rfl h
  | Constant _ _ _ => exact truP_x I rfl h
  | _ => exact h.elim
theorem evsF_x {es : List Expr} {p : Pt} {k : List Dt → Pt → Prop} (h : evsF R sc ρ es p k) : ∃ d p', evs cf (n + 1) sc ρ es = some d ∧ k d p' := by
  cases es with
  | nil => exact ⟨_, p, rfl, h⟩
  | cons e r =>
    refine I.e h fun d p e1 h => ?_
    refine I.s h fun ds p e2 h => ?_
    exact ⟨_, p, by rw [evs_cons, e1, e2], h⟩
theorem evkF_x {es : List Keyword} {p : Pt} {k : List (Str × Dt) → Pt → Prop} (h : evkF R sc ρ es p k) : ∃ d p', evk cf (n + 1) sc ρ es = some d ∧ k d p' := by
  cases es with
  | nil => exact ⟨_, p, rfl, h⟩
  | cons e r =>
    obtain ⟨x, e, q⟩ := e
    cases x with
    | none => exact h.elim
    | some x =>
      refine I.e h fun d p e1 h => ?_
      refine I.k h fun ds p e2 h => ?_
      exact ⟨_, p, by rw [evk_cons, e1, e2], h⟩
theorem tstsF_x {op : BoolOp} {es : List Expr} {p : Pt} {k : Bool → Pt → Prop} (h : tstsF R sc ρ op es p k) : ∃ d p', tsts cf (n + 1) sc ρ op es = some d ∧ k d p' := by
  cases es with
  | nil => exact ⟨_, p, rfl, h⟩
  | cons e r =>
    refine I.t h fun b p e1 h => ?_
    have h : (match (op == .And) == b with
      | true => R.a sc ρ op r p k
      | false => k b p) := h
    cases hb : (op == .And) == b with
    | true =>
      rw [hb] at h
      refine I.a h fun d p e2 h => ?_
      exact ⟨d, p, by rw [tsts_cons, e1]; dsimp only; rw [if_pos hb]; exact e2, h⟩
    | false =>
      rw [hb] at h
      exact ⟨b, p, by rw [tsts_cons, e1]; dsimp only; rw [if_neg (by rw [hb]; exact Bool.false_ne_true)], h⟩
end
theorem ex4 {α : Type} {P : α → Prop} {k : α → Pt → Prop} {G : Prop} (h : ∃ d p', P d ∧ k d p') (H : ∀ d p', P d → k d p' → G) : G := let ⟨d, p, x, y⟩ := h; H d p x y
theorem rc_ok (cf : Orc) : ∀ n, Snd cf n (rc cf n)
  | 0 => ⟨fun h => h.elim, fun h => h.elim, fun h => h.elim, fun h => h.elim, fun h => h.elim⟩
  | n + 1 => ⟨fun h => ex4 (evF_x (rc_ok cf n) h), fun h => ex4 (evsF_x (rc_ok cf n) h), fun h => ex4 (evkF_x (rc_ok cf n) h), fun h => ex4 (tstF_x (rc_ok cf n) h), fun h => ex4 (tstsF_x (rc_ok cf n) h)⟩
noncomputable def ownP (oa : Option Addr) (sc : Sc) (ρ : Rh) (y : Str) (k : Prop) : Prop := boolP (y != Str.ofString "__debug__" && y != Str.ofString "__classdict__" && isLoc sc y) (match ρ.lookup y with
  | some (.opq (.ref b)) => optP oa fun a => a = b ∧ k
  | _ => False)
structure Rx where
  x : Sc → Sg → Stmt → Pt → (Fl × Sg → Pt → Prop) → Prop
  s : Sc → Sg → List Stmt → Pt → (Fl × Sg → Pt → Prop) → Prop
noncomputable def retP (R : Rc) (oa : Option Addr) (sc : Sc) (σ : Sg) (e : Expr) (p : Pt) (k : Fl × Sg → Pt → Prop) : Prop := match ownRet e with
  | some (f, y) => (match f == Str.ofString "bytes" && sc.lookup f == some .globalImplicit && isLoc sc y && (match σ.1.lookup y with | some (.opq _) => true | _ => false) with
    | true => ownP oa sc σ.1 y (σ.2.length ≤ 1000 ∧ σ.2.all (fun n => decide (0 ≤ n ∧ n < 256)) = true ∧ k (.ret (.bytes (σ.2.map fun n => n.toNat.toUInt8)), σ) p)
    | false => R.e sc σ.1 e p fun d p => k (.ret d, σ) p)
  | Option.none => R.e sc σ.1 e p fun d p => k (.ret d, σ) p
noncomputable def exprP (R : Rc) (oa : Option Addr) (sc : Sc) (σ : Sg) (e : Expr) (p : Pt) (k : Fl × Sg → Pt → Prop) : Prop := optP (apHd e) fun z => boolP (z.ap == Str.ofString "append" && (z.apos.endLine == z.pos.line)) (ownP oa sc σ.1 z.y (σ.2.length ≤ 1000 ∧ R.e sc σ.1 z.e p fun d p => match d with
    | .int i => k (.next, (σ.1, σ.2 ++ [i])) p
    | _ => False))
noncomputable def whileP (t : Sg → Pt → (Bool → Pt → Prop) → Prop) (f : Sg → Pt → (Fl × Sg → Pt → Prop) → Prop) : Nat → Sg → Pt → (Fl × Sg → Pt → Prop) → Prop
  | 0, _, _, _ => False
  | m + 1, σ, p, k => t σ p fun c p => match c with
    | true => f σ p fun z p => (match z.1 with
      | .next => whileP t f m z.2 p k
      | .cont => whileP t f m z.2 p k
      | .brk => k (.next, z.2) p
      | .ret v => k (.ret v, z.2) p)
    | false => k (.next, σ) p
noncomputable def ex1F (cf : Orc) (oa : Option Addr) (n : Nat) (R : Rc) (T : Rx) (sc : Sc) (σ : Sg) (st : Stmt) (p : Pt) (k : Fl × Sg → Pt → Prop) : Prop := match st with
  | .Assign ts e _ => optP (tgt ts) fun x => boolP (canSet sc x) (R.e sc σ.1 e p fun d p => k (.next, (upd σ.1 x d, σ.2)) p)
  | .If t a b _ => R.t sc σ.1 t p fun c p => match c with
    | true => T.s sc σ a p k
    | false => T.s sc σ b p k
  | .Return (some e) _ => retP R oa sc σ e p k
  | .Continue _ => k (.cont, σ) p
  | .Expr e _ => exprP R oa sc σ e p k
  | .For (.Name x _) iter body [] _ => boolP (canSet sc x) (R.e sc σ.1 iter p fun it p => itemsP it p fun items p => popR (forGo (forF cf oa n sc x body) items σ) p k)
  | .While t body [] _ => whileP (fun σ p k => R.t sc σ.1 t p k) (fun σ p k => T.s sc σ body p k) n σ p k
  | _ => False
noncomputable def exsF (T : Rx) (sc : Sc) (σ : Sg) (b : List Stmt) (p : Pt) (k : Fl × Sg → Pt → Prop) : Prop := match b with
  | [] => k (.next, σ) p
  | st :: r => T.x sc σ st p fun z p => match z.1 with
    | .next => T.s sc z.2 r p k
    | f => k (f, z.2) p
noncomputable def rx (cf : Orc) (oa : Option Addr) : Nat → Rx
  | 0 => ⟨fun _ _ _ _ _ => False, fun _ _ _ _ _ => False⟩
  | n + 1 => ⟨ex1F cf oa n (rc cf n) (rx cf oa n), exsF (rx cf oa n)⟩
structure SndX (cf : Orc) (oa : Option Addr) (n : Nat) (T : Rx) : Prop where
  x : ∀ {sc σ st p k}, T.x sc σ st p k → ∀ {G : Prop}, (∀ z p', ex1 cf oa n sc σ st = some z → k z p' → G) → G
  s : ∀ {sc σ b p k}, T.s sc σ b p k → ∀ {G : Prop}, (∀ z p', exs cf oa n sc σ b = some z → k z p' → G) → G
theorem ownP_x {oa : Option Addr} {sc : Sc} {ρ : Rh} {y : Str} {k : Prop} (h : ownP oa sc ρ y k) : isOwn oa sc ρ y = true ∧ k := by
  refine boolP_x h fun hb h => ?_
  unfold isOwn
  rw [hb]
  split at h
  · rename_i b hl
    refine optP_x h fun a e1 h => ?_
    obtain ⟨rfl, h'⟩ := h
    subst e1
    exact ⟨by rw [hl]; simp, h'⟩
  · exact h.elim
theorem retP_x {cf : Orc} {oa : Option Addr} {n : Nat} {sc : Sc} {σ : Sg} {e : Expr} {r : Pos} {p : Pt} {k : Fl × Sg → Pt → Prop} (h : retP (rc cf n) oa sc σ e p k) : ∃ z p', ex1 cf oa (n + 1) sc σ (.Return (some e) r) = some z ∧ k z p' := by
  have I := rc_ok cf n
  cases hq : ownRet e with
  | none =>
    unfold retP at h
    rw [hq] at h
    refine I.e h fun d p e1 h => ?_
    exact ⟨_, p, by rw [ret_gen (fun f y e => by rw [hq] at e; cases e), e1]; rfl, h⟩
  | some z =>
    obtain ⟨f, y⟩ := z
    unfold retP at h
    rw [hq] at h
    dsimp only at h
    split at h
    · rename_i hb
      obtain ⟨ho, h1, h2, h⟩ := ownP_x h
      obtain ⟨_, _, _, rfl⟩ := ownRet_x hq
      · refine ⟨_, p, ?_, h⟩
        rw [ex_retown, ho, if_pos (by
          have := (Bool.and_eq_true_iff.mp (Bool.and_eq_true_iff.mp hb).1).1
          rw [this]; rfl), if_pos ⟨h1, h2⟩]
    · rename_i hb
      refine I.e h fun d p e1 h => ?_
      refine ⟨_, p, ?_, h⟩
      rw [ret_gen (fun f' y' e => ?_), e1]
      · rfl
      · rw [hq] at e; cases e
        cases hf : (f == Str.ofString "bytes" && sc.lookup f == some .globalImplicit) with
        | false => rfl
        | true =>
          rw [hf] at hb
          unfold isOwn
          cases hl : σ.1.lookup y with
          | none => cases oa <;> simp
          | some d => cases d with
            | opq v =>
              rw [hl] at hb
              have hb : isLoc sc y = false := by simpa using hb
              rw [hb]; simp
            | _ => cases oa <;> simp
theorem whileP_x {t : Sg → Option Bool} {f : Sg → Option (Fl × Sg)} {tP : Sg → Pt → (Bool → Pt → Prop) → Prop} {fP : Sg → Pt → (Fl × Sg → Pt → Prop) → Prop} (ht : ∀ σ p k, tP σ p k → ∀ {G : Prop}, (∀ c p', t σ = some c → k c p' → G) → G) (hf : ∀ σ p k, fP σ p k → ∀ {G : Prop}, (∀ z p', f σ = some z → k z p' → G) → G) :
    ∀ (m : Nat) {σ : Sg} {p : Pt} {k : Fl × Sg → Pt → Prop}, whileP tP fP m σ p k → ∃ z p', whileGo t f m σ = some z ∧ k z p'
  | 0, _, _, _, h => h.elim
  | m + 1, σ, p, k, h => by
    refine ht _ _ _ h fun c p e1 h => ?_
    cases c with
    | false => exact ⟨_, p, by unfold whileGo; rw [e1], h⟩
    | true =>
      refine hf _ _ _ h fun zz0 p e2 h => ?_
      obtain ⟨fl, σ'⟩ := zz0
      cases fl with
      | next => obtain ⟨z, p, e3, h⟩ := whileP_x ht hf m h; exact ⟨z, p, by unfold whileGo; rw [e1]; dsimp only; rw [e2]; exact e3, h⟩
      | cont => obtain ⟨z, p, e3, h⟩ := whileP_x ht hf m h; exact ⟨z, p, by unfold whileGo; rw [e1]; dsimp only; rw [e2]; exact e3, h⟩
      | brk => exact ⟨_, p, by unfold whileGo; rw [e1]; dsimp only; rw [e2], h⟩
      | ret v => exact ⟨_, p, by unfold whileGo; rw [e1]; dsimp only; rw [e2], h⟩
theorem rx_ok (cf : Orc) (oa : Option Addr) : ∀ n, SndX cf oa n (rx cf oa n)
  | 0 => ⟨fun h => h.elim, fun h => h.elim⟩
  | n + 1 => by
    have T := rx_ok cf oa n
    have I := rc_ok cf n
    refine ⟨fun h => ex4 ?_, fun h => ex4 ?_⟩
    · rename_i sc σ st p k G
      cases st with
      | Assign ts e q =>
        refine optP_x h fun x hx h => ?_
        obtain ⟨_, rfl⟩ := tgt_x hx
        refine boolP_x h fun hb h => ?_
        refine I.e h fun d p e1 h => ?_
        exact ⟨_, p, by rw [ex_assign, if_pos hb, e1]; rfl, h⟩
      | If t a b q =>
        refine I.t h fun c p e1 h => ?_
        cases c with
        | true => refine T.s h fun z p e2 h => ?_; exact ⟨z, p, by rw [ex_if, e1]; exact e2, h⟩
        | false => refine T.s h fun z p e2 h => ?_; exact ⟨z, p, by rw [ex_if, e1]; exact e2, h⟩
      | Return v q => cases v with
        | none => exact h.elim
        | some e => exact retP_x h
      | Continue q => exact ⟨_, p, ex_cont, h⟩
      | Expr e q =>
        refine optP_x h fun z hz h => ?_
        obtain ⟨_, rfl⟩ := apHd_x hz
        refine boolP_x h fun hb h => ?_
        obtain ⟨ho, hl, h⟩ := ownP_x h
        refine I.e h fun d p e1 h => ?_
        cases d with
        | int i => exact ⟨_, p, by rw [ex_append, if_pos (by rw [hb, ho, decide_eq_true hl]; rfl), e1], h⟩
        | _ => exact h.elim
      | For t iter body orelse q =>
        cases t with
        | Name x z => cases orelse with
          | nil =>
            refine boolP_x h fun hb h => ?_
            refine I.e h fun it p e1 h => ?_
            refine itemsP_x h fun items p e2 h => ?_
            refine popR_x h fun r p e3 h => ?_
            exact ⟨r, p, by rw [ex_forF, if_pos hb, e1]; dsimp only; rw [e2]; exact e3, h⟩
          | cons _ _ => exact h.elim
        | _ => exact h.elim
      | While t body orelse q =>
        cases orelse with
        | nil =>
          obtain ⟨r, p, e3, h⟩ := whileP_x (t := fun σ => tst cf n sc σ.1 t) (f := fun σ => exs cf oa n sc σ body) (tP := fun σ p k => (rc cf n).t sc σ.1 t p k) (fP := fun σ p k => (rx cf oa n).s sc σ body p k) (fun _ _ _ h => I.t h) (fun _ _ _ h => T.s h) n h
          exact ⟨r, p, by rw [ex_while]; exact e3, h⟩
        | cons _ _ => exact h.elim
      | _ => exact h.elim
    · rename_i sc σ b p k G
      cases b with
      | nil => exact ⟨_, p, rfl, h⟩
      | cons st r =>
        refine T.x h fun zz0 p e1 h => ?_
        obtain ⟨f, σ'⟩ := zz0
        cases f with
        | next => refine T.s h fun z p e2 h => ?_; exact ⟨z, p, by rw [exs_cons, e1]; exact e2, h⟩
        | _ => exact ⟨_, p, by rw [exs_cons, e1], h⟩
theorem ai {a b : Prop} (x : a) (y : b) : a ∧ b := ⟨x, y⟩
theorem ev_by {cf : Orc} {n : Nat} {sc : Sc} {ρ : Rh} {e : Expr} {d : Dt} {Q : Prop} (p : Pt) (h : d = d → Q) (hk : (rc cf n).e sc ρ e p (fun x _ => x = d) = Q) : ev cf n sc ρ e = some d := by
  refine (rc_ok cf n).e (hk ▸ h rfl) fun _ _ e q => ?_
  cases q; exact e
theorem evs_by {cf : Orc} {n : Nat} {sc : Sc} {ρ : Rh} {e : List Expr} {d : List Dt} {Q : Prop} (p : Pt) (h : d = d → Q) (hk : (rc cf n).s sc ρ e p (fun x _ => x = d) = Q) : evs cf n sc ρ e = some d := by
  refine (rc_ok cf n).s (hk ▸ h rfl) fun _ _ e q => ?_
  cases q; exact e
theorem tst_by {cf : Orc} {n : Nat} {sc : Sc} {ρ : Rh} {e : Expr} {d : Bool} {Q : Prop} (p : Pt) (h : d = d → Q) (hk : (rc cf n).t sc ρ e p (fun x _ => x = d) = Q) : tst cf n sc ρ e = some d := by
  refine (rc_ok cf n).t (hk ▸ h rfl) fun _ _ e q => ?_
  cases q; exact e
theorem ex_by {cf : Orc} {oa : Option Addr} {n : Nat} {sc : Sc} {σ : Sg} {st : Stmt} {z : Fl × Sg} {Q : Prop} (p : Pt) (h : z = z → Q) (hk : (rx cf oa n).x sc σ st p (fun x _ => x = z) = Q) : ex1 cf oa n sc σ st = some z := by
  refine (rx_ok cf oa n).x (hk ▸ h rfl) fun _ _ e q => ?_
  cases q; exact e
theorem exs_by {cf : Orc} {oa : Option Addr} {n : Nat} {sc : Sc} {σ : Sg} {b : List Stmt} {z : Fl × Sg} {Q : Prop} (p : Pt) (h : z = z → Q) (hk : (rx cf oa n).s sc σ b p (fun x _ => x = z) = Q) : exs cf oa n sc σ b = some z := by
  refine (rx_ok cf oa n).s (hk ▸ h rfl) fun _ _ e q => ?_
  cases q; exact e
noncomputable def isRet (d : Dt) (z : Fl × Sg) : Prop := match z.1 with
  | .ret y => y = d
  | _ => False
theorem isRet_x {d : Dt} {z : Fl × Sg} (h : isRet d z) : ∃ σ, z = (.ret d, σ) := by
  obtain ⟨f, σ⟩ := z
  cases f with
  | ret y => cases h; exact ⟨σ, rfl⟩
  | _ => exact h.elim
theorem exs_ret {cf : Orc} {oa : Option Addr} {n : Nat} {sc : Sc} {σ : Sg} {b : List Stmt} {d : Dt} {Q : Prop} (p : Pt) (h : d = d → Q) (hk : (rx cf oa n).s sc σ b p (fun x _ => isRet d x) = Q) : ∃ σ', exs cf oa n sc σ b = some (.ret d, σ') := by
  refine (rx_ok cf oa n).s (hk ▸ h rfl) fun z _ e h => ?_
  obtain ⟨σ, rfl⟩ := isRet_x h
  exact ⟨σ, e⟩
noncomputable def kid (e : Expr) (i : Nat) : Expr := match e with
  | .BinOp l _ r _ => if i = 0 then l else r
  | .UnaryOp _ x _ => x
  | .BoolOp _ vs _ => vs.getD i e
  | .Compare l _ rs _ => if i = 0 then l else rs.getD (i - 1) e
  | .Call f args _ _ => if i = 0 then f else args.getD (i - 1) e
  | .Attribute o _ _ => o
  | .Subscript v j _ => if i = 0 then v else j
  | .List es _ => es.getD i e
  | .Tuple es _ _ => es.getD i e
  | .ListComp elt gs _ _ => if i = 0 then elt else match compHd gs with
    | some z => if i = 1 then z.2.2.1 else z.2.2.2.getD (i - 2) e
    | Option.none => e
  | e => e
noncomputable def stE : Stmt → Expr
  | .Assign _ e _ => e
  | .Return (some e) _ => e
  | .Expr e _ => e
  | .If t _ _ _ => t
  | .While t _ _ _ => t
  | .For _ it _ _ _ => it
  | _ => .Name (Str.ofString "") ⟨0, 0, 0, 0⟩
noncomputable def kids (e : Expr) (l : List Nat) : Expr := l.foldl kid e
noncomputable def cF (cf : Orc) (n : Nat) (ρ : Rh) (e : Expr) (d : Dt) : Option (Option Dt) := match e with
  | .ListComp elt gs csc _ => (match compHd gs with
    | some z => compF cf n csc.names ρ z.1 elt z.2.2.2 d
    | Option.none => Option.none)
  | _ => Option.none
noncomputable def cFP (cf : Orc) (n : Nat) (ρ : Rh) (e : Expr) (d : Dt) (p : Pt) (k : Option Dt → Pt → Prop) : Prop := match e with
  | .ListComp elt gs csc _ => optP (compHd gs) fun z => (match z.2.2.2 with
    | [] => (rc cf n).e csc.names ((z.1, d) :: ρ) elt p fun v p => k (some v) p
    | [c] => (rc cf n).t csc.names ((z.1, d) :: ρ) c p fun b p => (match b with
      | true => (rc cf n).e csc.names ((z.1, d) :: ρ) elt p fun v p => k (some v) p
      | false => k Option.none p)
    | _ => False)
  | _ => False
theorem cFP_x {cf : Orc} {n : Nat} {ρ : Rh} {e : Expr} {d : Dt} {p : Pt} {k : Option Dt → Pt → Prop} (h : cFP cf n ρ e d p k) : ∃ v p', cF cf n ρ e d = some v ∧ k v p' := by
  have I := rc_ok cf n
  cases e with
  | ListComp elt gs csc q =>
    refine optP_x h fun z e h => ?_
    obtain ⟨x, px, iter, ifs⟩ := z
    have ec : cF cf n ρ (.ListComp elt gs csc q) d = compF cf n csc.names ρ x elt ifs d := by unfold cF; dsimp only; rw [e]
    rw [ec]
    rcases ifs with _ | ⟨c, _ | ⟨_, _⟩⟩
    · skip
      refine I.e h fun v p e1 h => ?_
      exact ⟨_, p, by rw [compF_nil, e1]; rfl, h⟩
    · skip
      refine I.t h fun b p e1 h => ?_
      cases b with
      | true =>
        refine I.e h fun v p e2 h => ?_
        exact ⟨_, p, by rw [compF_one, e1, e2]; rfl, h⟩
      | false => exact ⟨_, p, by rw [compF_one, e1], h⟩
    · exact h.elim
  | _ => exact h.elim
theorem cF_by {cf : Orc} {n : Nat} {ρ : Rh} {e : Expr} {d : Dt} {v : Option Dt} {Q : Prop} (p : Pt) (h : v = v → Q) (hk : cFP cf n ρ e d p (fun x _ => x = v) = Q) : cF cf n ρ e d = some v := by
  obtain ⟨_, _, e, rfl⟩ := cFP_x (hk ▸ h rfl)
  exact e
theorem evk_by {cf : Orc} {n : Nat} {sc : Sc} {ρ : Rh} {E : Expr} {d : Dt} {Q : Prop} {items res : List Dt} (n' : Nat) (l : List Nat) (p : Pt) (hgo : compGo (cF cf n' ρ (kids E l)) items = some res) (h : compGo (cF cf n' ρ (kids E l)) items = some res → d = d → Q) (hk : (rc cf n).e sc ρ E p (fun x _ => x = d) = Q) : ev cf n sc ρ E = some d := ev_by p (h hgo) hk
theorem evsk_by {cf : Orc} {n : Nat} {sc : Sc} {ρ : Rh} {es : List Expr} {d : List Dt} {Q : Prop} {items res : List Dt} (n' i : Nat) (l : List Nat) (p : Pt) (hgo : compGo (cF cf n' ρ (kids (es.getD i (.Name (Str.ofString "") ⟨0, 0, 0, 0⟩)) l)) items = some res) (h : compGo (cF cf n' ρ (kids (es.getD i (.Name (Str.ofString "") ⟨0, 0, 0, 0⟩)) l)) items = some res → d = d → Q) (hk : (rc cf n).s sc ρ es p (fun x _ => x = d) = Q) : evs cf n sc ρ es = some d := evs_by p (h hgo) hk
theorem tstsk_by {cf : Orc} {n : Nat} {sc : Sc} {ρ : Rh} {op : BoolOp} {es : List Expr} {d : Bool} {Q : Prop} {items res : List Dt} (n' i : Nat) (l : List Nat) (p : Pt) (hgo : compGo (cF cf n' ρ (kids (es.getD i (.Name (Str.ofString "") ⟨0, 0, 0, 0⟩)) l)) items = some res) (h : compGo (cF cf n' ρ (kids (es.getD i (.Name (Str.ofString "") ⟨0, 0, 0, 0⟩)) l)) items = some res → d = d → Q) (hk : (rc cf n).a sc ρ op es p (fun x _ => x = d) = Q) : tsts cf n sc ρ op es = some d := by
  refine (rc_ok cf n).a (hk ▸ h hgo rfl) fun _ _ e q => ?_
  cases q; exact e
theorem bmh (x y : Int) (h : x.natAbs < 2 ^ 64) : binD .Mult (.int x) (.int y) = some (.int (x * y)) := if_pos (.inl h)
theorem rng (n : Nat) (h : n ≤ 1000) : itemsD (.range n) = some ((List.range n).map fun (i : Nat) => Dt.int (i : Int)) := if_pos h
theorem go_map {f : Dt → Option (Option Dt)} {α : Type} {mk : α → Dt} (g : α → Dt) : ∀ {l : List α}, (∀ a ∈ l, f (mk a) = some (some (g a))) → compGo f (l.map mk) = some (l.map g)
  | [], _ => rfl
  | a :: r, h => by
    rw [List.map_cons]
    unfold compGo
    rw [h a (.head _)]
    dsimp only
    rw [go_map g (l := r) fun d hd => h d (.tail _ hd)]
    rfl
theorem go_drop {f : Dt → Option (Option Dt)} {α : Type} {mk : α → Dt} : ∀ {l : List α}, (∀ a ∈ l, f (mk a) = some Option.none) → compGo f (l.map mk) = some []
  | [], _ => rfl
  | a :: r, h => by
    rw [List.map_cons]
    unfold compGo
    rw [h a (.head _)]
    exact go_drop fun d hd => h d (.tail _ hd)
theorem allInts_map : ∀ l : List Int, allInts (l.map Dt.int) = some l
  | [] => rfl
  | a :: r => by
    show (allInts (r.map .int)).map (a :: ·) = _
    rw [allInts_map r]; rfl
theorem blt_sum (ns : List Int) (hl : ns.length ≤ 1000) : bltD (Str.ofString "sum") [.list (ns.map .int)] = some (.int ns.sum) :=
  (show bltD (Str.ofString "sum") [.list (ns.map .int)] = (if (ns.map Dt.int).length ≤ 1000 then (allInts (ns.map .int)).map fun ns => .int ns.sum else Option.none) by kernel_rfl).trans (by rw [if_pos (by rw [List.length_map]; exact hl), allInts_map]; rfl)
theorem blt_bytes (ns : List Int) (hl : ns.length ≤ 1000) (h : ∀ n ∈ ns, 0 ≤ n ∧ n < 256) : bltD (Str.ofString "bytes") [.list (ns.map .int)] = some (.bytes (ns.map fun n => n.toNat.toUInt8)) := by
  have e := allInts_map ns
  refine (show bltD (Str.ofString "bytes") [.list (ns.map .int)] = (if (ns.map Dt.int).length ≤ 1000 then (allInts (ns.map .int)).bind fun ns => if ns.all (fun n => decide (0 ≤ n ∧ n < 256)) then some (Dt.bytes (ns.map fun n => n.toNat.toUInt8)) else Option.none else Option.none) by kernel_rfl).trans ?_
  rw [if_pos (by rw [List.length_map]; exact hl), e, Option.bind_some, if_pos (List.all_eq_true.mpr fun n hn => decide_eq_true (h n hn))]
theorem item_k (l : List Dt) (k : Nat) (d : Dt) (hl : l.length ≤ 1000) (h : l[k]? = some d) : itemD (.list l) (.int k) = some d := by
  show (if l.length ≤ 1000 then (placeD (k : Int) l.length).bind fun k => l[k]? else Option.none) = _
  have hk : k < l.length := (List.getElem?_eq_some_iff.mp h).1
  have hp : placeD (k : Int) l.length = some k := if_pos ⟨Int.natCast_nonneg k, Int.ofNat_lt.mpr hk⟩
  rw [if_pos hl, hp]
  exact h
theorem blt_range (n : Nat) (h : n ≤ 1000) : bltD (Str.ofString "range") [.int n] = some (.range n) :=
  (show bltD (Str.ofString "range") [.int n] = (if 0 ≤ (n : Int) ∧ (n : Int) ≤ 1000 then some (Dt.range n) else Option.none) by kernel_rfl).trans (if_pos ⟨Int.natCast_nonneg n, Int.ofNat_le.mpr h⟩)
theorem bpw (x : Int) (k : Nat) (h : k ≤ 1000) (hx : decide (x.natAbs < 2 ^ 64) = true) : binD .Pow (.int x) (.int k) = some (.int (x ^ k)) := if_pos ⟨Int.natCast_nonneg k, Int.ofNat_le.mpr h, of_decide_eq_true hx⟩
theorem fdp (x : Int) (b k m : Nat) (h : k ≤ m) (hb : decide (0 < b ∧ b ^ m < 2 ^ 64) = true) : binD .FloorDiv (.int x) (.int ((b : Int) ^ k)) = some (.int (x.fdiv ((b : Int) ^ k))) := by
  obtain ⟨h0, hm⟩ := of_decide_eq_true hb
  have e : ((b : Int) ^ k) = ((b ^ k : Nat) : Int) := (Int.natCast_pow b k).symm
  refine if_pos ⟨?_, ?_⟩
  · rw [e]; exact Int.ofNat_ne_zero.mpr (Nat.ne_of_gt (Nat.pow_pos h0))
  · rw [e, Int.natAbs_natCast]; exact Nat.lt_of_le_of_lt (Nat.pow_le_pow_right h0 h) hm
theorem sadd (a b : List Nat) (h : a.length + b.length ≤ 1000) : binD .Add (.str ⟨a.toArray⟩) (.str ⟨b.toArray⟩) = some (.str ⟨(a ++ b).toArray⟩) := by
  refine (if_pos h).trans ?_
  show some (Dt.str ⟨a.toArray ++ b.toArray⟩) = _
  rw [List.append_toArray]
theorem bls (a : Int) (n m : Nat) (hm : decide (n ≤ 1000 ∧ 2 ^ n = m) = true) (h : a.natAbs < 2 ^ 64) : binD .LShift (.int a) (.int n) = some (.int (a * m)) := by
  obtain ⟨h1, rfl⟩ := of_decide_eq_true hm
  exact (if_pos ⟨Int.natCast_nonneg n, Int.ofNat_le.mpr h1, h⟩ : binD .LShift (.int a) (.int n) = some (.int (a * 2 ^ n))).trans (by rw [Int.natCast_pow]; rfl)
theorem brs (a : Int) (n m : Nat) (hm : 2 ^ n = m) : binD .RShift (.int a) (.int n) = some (.int (a / m)) := by
  subst hm
  exact ((show binD .RShift (.int a) (.int n) = (if 0 ≤ (n : Int) then some (.int (a.fdiv (2 ^ n))) else Option.none) from rfl).trans (if_pos (Int.natCast_nonneg n))).trans (by rw [Int.natCast_pow]; exact congrArg (fun z => some (Dt.int z)) (Int.fdiv_eq_ediv_of_nonneg a (Int.pow_nonneg (by decide))))
theorem brs0 (a : Int) : binD .RShift (.int a) (.int 0) = some (.int a) := (brs a 0 1 rfl).trans (congrArg (fun z => some (Dt.int z)) (Int.ediv_one a))
theorem len1 {α : Type} {l : List α} {n : Nat} (x : α) (h : l.length ≤ n) : (l ++ [x]).length ≤ n + 1 := by rw [List.length_append]; exact Nat.succ_le_succ h
theorem bml (x y : Int) (h : decide (x.natAbs < 2 ^ 64) = true) : binD .Mult (.int x) (.int y) = some (.int (x * y)) := if_pos (.inl (of_decide_eq_true h))
theorem bmp (x : Int) (b k m : Nat) (h : k ≤ m) (hb : decide (0 < b ∧ b ^ m < 2 ^ 64) = true) : binD .Mult (.int x) (.int ((b : Int) ^ k)) = some (.int (x * (b : Int) ^ k)) := by
  obtain ⟨h0, hm⟩ := of_decide_eq_true hb
  refine if_pos (.inr ?_)
  rw [show ((b : Int) ^ k) = ((b ^ k : Nat) : Int) from (Int.natCast_pow b k).symm, Int.natAbs_natCast]
  exact Nat.lt_of_le_of_lt (Nat.pow_le_pow_right h0 h) hm
theorem blt_chr (c : Nat) (h : c < 128) : bltD (Str.ofString "chr") [.int c] = some (.str ⟨#[c]⟩) :=
  (show bltD (Str.ofString "chr") [.int c] = (if 0 ≤ (c : Int) ∧ (c : Int) < 128 then some (.str ⟨#[c]⟩) else Option.none) by kernel_rfl).trans (if_pos ⟨Int.natCast_nonneg c, Int.ofNat_lt.mpr h⟩)
theorem trI (x : Int) {b : Bool} (h : (x != 0) = b) : truthD (.int x) = some b := congrArg some h
theorem dd (d : Dt) : some d = some d := rfl
theorem bb (b : Bool) : some b = some b := rfl
theorem nm_loc {cf : Orc} (sc : Sc) {ρ : Rh} {x : Str} {d : Dt} (h : isLoc sc x = true) (hd : (x == Str.ofString "__debug__" || x == Str.ofString "__classdict__") = false) (hl : ρ.lookup x = some d) : nameD cf sc ρ x = some d := by
  unfold nameD
  rw [hd, h, hl]; rfl
noncomputable def cSc : Expr → Sc
  | .ListComp _ _ csc _ => csc.names
  | _ => []
theorem ev_loc {cf : Orc} {n : Nat} {sc : Sc} {ρ : Rh} {x : Str} {p : Pos} {d : Dt} (h : isLoc sc x = true) (hd : (x == Str.ofString "__debug__" || x == Str.ofString "__classdict__") = false) (hl : ρ.lookup x = some d) : ev cf (n + 1) sc ρ (.Name x p) = some d := by
  show nameD cf sc ρ x = _
  unfold nameD
  rw [hd, h, hl]; rfl
theorem cle {x y : Int} (h : x ≤ y) : cmpD .LtE (.int x) (.int y) = some true := congrArg some (decide_eq_true h)
theorem cnle {x y : Int} (h : ¬ x ≤ y) : cmpD .LtE (.int x) (.int y) = some false := congrArg some (decide_eq_false h)
theorem cnlt {x y : Int} (h : ¬ x < y) : cmpD .Lt (.int x) (.int y) = some false := congrArg some (decide_eq_false h)
theorem cnge {x y : Int} (h : ¬ y ≤ x) : cmpD .GtE (.int x) (.int y) = some false := congrArg some (decide_eq_false h)
theorem ceq {x y : Int} (h : x = y) : cmpD .Eq (.int x) (.int y) = some true := congrArg some (beq_iff_eq.mpr h)
theorem cneq {x y : Int} (h : x ≠ y) : cmpD .Eq (.int x) (.int y) = some false := congrArg some (beq_eq_false_iff_ne.mpr h)
theorem cr {x y z : Int} (h : x ≤ y ∧ y ≤ z) : chD .LtE .LtE (.int x) (.int y) (.int z) = some true := by
  unfold chD; rw [cle h.1]; exact cle h.2
theorem ncr {x y z : Int} (h : ¬ (x ≤ y ∧ y ≤ z)) : chD .LtE .LtE (.int x) (.int y) (.int z) = some false := by
  unfold chD
  by_cases q : x ≤ y
  · rw [cle q]; exact cnle fun r => h ⟨q, r⟩
  · rw [cnle q]
theorem bmr (x y : Int) (h : decide (y.natAbs < 2 ^ 64) = true) : binD .Mult (.int x) (.int y) = some (.int (x * y)) := if_pos (.inr (of_decide_eq_true h))
theorem bmd (x y : Int) (h : decide (y ≠ 0) = true) : binD .Mod (.int x) (.int y) = some (.int (x.fmod y)) := if_pos (of_decide_eq_true h)
theorem bfd (x y : Int) (h : decide (y ≠ 0 ∧ y.natAbs < 2 ^ 64) = true) : binD .FloorDiv (.int x) (.int y) = some (.int (x.fdiv y)) := if_pos (of_decide_eq_true h)
theorem len_l {l : List Dt} (h : l.length ≤ 1000) : bltD (Str.ofString "len") [.list l] = some (.int l.length) := if_pos h
theorem len_b {l : List UInt8} (h : l.length ≤ 1000) : bltD (Str.ofString "len") [.bytes l] = some (.int l.length) := if_pos h
noncomputable def stAt (K : Frag) (a i : Nat) : Stmt := (bodyAt K a).getD i (.Continue ⟨0, 0, 0, 0⟩)
noncomputable def forB : Stmt → List Stmt
  | .For _ _ b _ _ => b
  | .While _ b _ _ => b
  | _ => []
end Mine
end
section
open PySem PySem.W PyProof.Rows
namespace Mine
set_option maxRecDepth 100000
noncomputable def fdI (n : Str) : List Stmt → Option (Arguments × List Stmt × Scope)
  | [] => none
  | .FunctionDef m a b _ _ _ sc _ _ _ :: r => if m == n then some (a, b, sc) else fdI n r
  | _ :: r => fdI n r
noncomputable def fnO (n pm : Str) (tk code : Nat) (dv kv : Value) : Obj := match fdI n PySem.Challenge.pw_op0035_01.main.body with
  | some (a, b, sc) => { cls := .type "function", data := .func { name := n, qualname := n, params := a, body := .stmts b, scope := sc, globals := 3, closure := [], defaults := dv, kwdefaults := kv, pyModule := .str pm tk, code := .ref code } }
  | none => { cls := .none }
noncomputable def cdO (n : Str) (t : Nat) (line a b c fl d num tab : Nat) (v1 v2 : Value) (tp e : Nat) : Obj :=
  { cls := .type "code", data := .fields #[.str n t, .str n (t + 1), .str (Str.ofString "/claim/cut.py") (t + 2), .int line 0, .int a 0, .int b 0, .int c 0, .int fl 0, .ref d, .bool true, .int num 0, .ref tab, .none, v1, v2, .ref tp, .int e 0, .int line 0, .str (Str.ofString "/claim/cut.py") (e + 1)] }
noncomputable def deO (P : Params) (n : Str) (t : Nat) (v : Value) : DictEntry := { hash := PyData.keyHash P n, key := .str n t, val := v }
noncomputable def K0 : Params → Frag := fun P => [
  (2, { cls := .none, data := .dict #[] 0 }),
  (3, { cls := .type "dict", data := .dict #[deO P (Str.ofString "__name__") 165 (.str (Str.ofString "law_op0035_01") 342), deO P (Str.ofString "__doc__") 166 (.none), deO P (Str.ofString "__package__") 167 (.none), deO P (Str.ofString "__loader__") 168 (.builtin "__main__.__loader__#opaque"), deO P (Str.ofString "__spec__") 169 (.none), deO P (Str.ofString "__annotations__") 170 (.ref 6), deO P (Str.ofString "__builtins__") 171 (.ref 4), deO P (Str.ofString "__file__") 173 (.str (Str.ofString "/claim/cut.py") 172), deO P (Str.ofString "__cached__") 174 (.none), deO P (Str.ofString "_wall") 193 (.ref 21), deO P (Str.ofString "_parse_varint") 204 (.ref 28), deO P (Str.ofString "bytes_types") 207 (.ref 29), deO P (Str.ofString "_bytes_from_decode_data") 214 (.ref 36), deO P (Str.ofString "Error") 234 (.ref 46), deO P (Str.ofString "_ascii_buffer") 242 (.ref 56), deO P (Str.ofString "_buffer") 250 (.ref 63), deO P (Str.ofString "_truth") 258 (.ref 70), deO P (Str.ofString "_B64") 260 (.bytes #[65, 66, 67, 68, 69, 70, 71, 72, 73, 74, 75, 76, 77, 78, 79, 80, 81, 82, 83, 84, 85, 86, 87, 88, 89, 90, 97, 98, 99, 100, 101, 102, 103, 104, 105, 106, 107, 108, 109, 110, 111, 112, 113, 114, 115, 116, 117, 118, 119, 120, 121, 122, 48, 49, 50, 51, 52, 53, 54, 55, 56, 57, 43, 47] 259), deO P (Str.ofString "_b64_value") 267 (.ref 77), deO P (Str.ofString "a2b_base64") 283 (.ref 85), deO P (Str.ofString "b2a_base64") 297 (.ref 93), deO P (Str.ofString "b64encode") 308 (.ref 101), deO P (Str.ofString "b64decode") 317 (.ref 109), deO P (Str.ofString "cmp_to_key") 328 (.ref 116), deO P (Str.ofString "_initial_missing") 329 (.ref 117), deO P (Str.ofString "reduce") 341 (.ref 125), deO P (Str.ofString "_law_row") 349 (.ref 130), deO P (Str.ofString "_law_alphabet") 355 (.ref 137), deO P (Str.ofString "_law_number") 364 (.ref 144), deO P (Str.ofString "_law_signs") 370 (.ref 149), deO P (Str.ofString "_law_digits") 376 (.ref 154), deO P (Str.ofString "_law_asked") 384 (.ref 161), deO P (Str.ofString "law") 390 (.ref 166)] 33 }),
  (4, { cls := .type "module", dict := some 0 }),
  (20, cdO (Str.ofString "_wall") 187 1 1 0 0 3 15 181 16 (.ref 17) (.ref 18) 19 191),
  (21, fnO (Str.ofString "_wall") (Str.ofString "__main__") 164 20 (.none) (.none)),
  (27, cdO (Str.ofString "_parse_varint") 196 5 1 0 0 3 22 181 23 (.ref 24) (.ref 25) 26 202),
  (28, fnO (Str.ofString "_parse_varint") (Str.ofString "cpy313.dis") 194 27 (.none) (.none)),
  (29, { cls := .type "tuple", data := .seq #[.type "bytes", .type "bytearray"] }),
  (35, cdO (Str.ofString "_bytes_from_decode_data") 208 15 1 0 0 3 30 181 31 (.ref 32) (.ref 33) 34 212),
  (36, fnO (Str.ofString "_bytes_from_decode_data") (Str.ofString "cpy313.base64") 205 35 (.none) (.none)),
  (55, cdO (Str.ofString "_ascii_buffer") 235 30 1 0 0 3 50 181 51 (.ref 52) (.ref 53) 54 240),
  (56, fnO (Str.ofString "_ascii_buffer") (Str.ofString "binascii") 215 55 (.none) (.none)),
  (62, cdO (Str.ofString "_buffer") 243 41 1 0 0 3 57 181 58 (.ref 59) (.ref 60) 61 248),
  (63, fnO (Str.ofString "_buffer") (Str.ofString "binascii") 215 62 (.none) (.none)),
  (69, cdO (Str.ofString "_truth") 251 48 1 0 0 3 64 181 65 (.ref 66) (.ref 67) 68 256),
  (70, fnO (Str.ofString "_truth") (Str.ofString "binascii") 215 69 (.none) (.none)),
  (76, cdO (Str.ofString "_b64_value") 261 54 1 0 0 3 71 181 72 (.ref 73) (.ref 74) 75 265),
  (77, fnO (Str.ofString "_b64_value") (Str.ofString "binascii") 215 76 (.none) (.none)),
  (78, { cls := .type "dict", data := .dict #[deO P (Str.ofString "strict_mode") 268 (.bool false)] 1 }),
  (84, cdO (Str.ofString "a2b_base64") 269 66 1 1 1 3 79 181 80 (.ref 81) (.ref 82) 83 281),
  (85, fnO (Str.ofString "a2b_base64") (Str.ofString "binascii") 215 84 (.none) (.ref 78)),
  (86, { cls := .type "dict", data := .dict #[deO P (Str.ofString "newline") 284 (.bool true)] 1 }),
  (92, cdO (Str.ofString "b2a_base64") 285 120 1 1 1 3 87 181 88 (.ref 89) (.ref 90) 91 295),
  (93, fnO (Str.ofString "b2a_base64") (Str.ofString "binascii") 215 92 (.none) (.ref 86)),
  (94, { cls := .type "tuple", data := .seq #[.none] }),
  (100, cdO (Str.ofString "b64encode") 300 143 2 0 0 3 95 181 96 (.ref 97) (.ref 98) 99 306),
  (101, fnO (Str.ofString "b64encode") (Str.ofString "cpy313.base64") 298 100 (.ref 94) (.none)),
  (102, { cls := .type "tuple", data := .seq #[.none, .bool false] }),
  (108, cdO (Str.ofString "b64decode") 309 149 3 0 0 3 103 181 104 (.ref 105) (.ref 106) 107 315),
  (109, fnO (Str.ofString "b64decode") (Str.ofString "cpy313.base64") 298 108 (.ref 102) (.none)),
  (111, { cls := .none, data := .fields #[] }),
  (115, cdO (Str.ofString "cmp_to_key") 320 157 1 0 0 3 110 181 111 (.ref 112) (.ref 113) 114 326),
  (116, fnO (Str.ofString "cmp_to_key") (Str.ofString "cpy313.functools") 318 115 (.none) (.none)),
  (118, { cls := .type "tuple", data := .seq #[.ref 117] }),
  (124, cdO (Str.ofString "reduce") 330 183 3 0 0 3 119 181 120 (.ref 121) (.ref 122) 123 339),
  (125, fnO (Str.ofString "reduce") (Str.ofString "cpy313.functools") 318 124 (.ref 118) (.none)),
  (129, cdO (Str.ofString "_law_row") 344 196 1 0 0 3 126 181 127 (.none) (.none) 128 347),
  (130, fnO (Str.ofString "_law_row") (Str.ofString "law_op0035_01") 342 129 (.none) (.none)),
  (136, cdO (Str.ofString "_law_alphabet") 350 198 0 0 0 3 131 181 132 (.ref 133) (.ref 134) 135 353),
  (137, fnO (Str.ofString "_law_alphabet") (Str.ofString "law_op0035_01") 342 136 (.none) (.none)),
  (143, cdO (Str.ofString "_law_number") 356 200 1 0 0 3 138 181 139 (.ref 140) (.ref 141) 142 362),
  (144, fnO (Str.ofString "_law_number") (Str.ofString "law_op0035_01") 342 143 (.none) (.none)),
  (148, cdO (Str.ofString "_law_signs") 365 205 2 0 0 3 145 181 146 (.none) (.none) 147 368),
  (149, fnO (Str.ofString "_law_signs") (Str.ofString "law_op0035_01") 342 148 (.none) (.none)),
  (153, cdO (Str.ofString "_law_digits") 371 207 2 0 0 3 150 181 151 (.none) (.none) 152 374),
  (154, fnO (Str.ofString "_law_digits") (Str.ofString "law_op0035_01") 342 153 (.none) (.none)),
  (160, cdO (Str.ofString "_law_asked") 377 211 2 0 0 3 155 181 156 (.ref 157) (.ref 158) 159 382),
  (161, fnO (Str.ofString "_law_asked") (Str.ofString "law_op0035_01") 342 160 (.none) (.none)),
  (163, { cls := .none, data := .fields #[] }),
  (165, cdO (Str.ofString "law") 385 213 1 0 0 3 162 181 163 (.none) (.none) 164 388),
  (166, fnO (Str.ofString "law") (Str.ofString "law_op0035_01") 342 165 (.none) (.none))]
noncomputable def qv : Program := { PySem.Challenge.pw_op0035_01 with main := { PySem.Challenge.pw_op0035_01.main with body := PySem.Challenge.pw_op0035_01.main.body.filter fun s => match s with | .FunctionDef m .. => m == Str.ofString "law" | _ => false } }
noncomputable def lo0 : List Str := [Str.ofString "_wall", Str.ofString "_parse_varint", Str.ofString "bytes_types", Str.ofString "_bytes_from_decode_data", Str.ofString "Error", Str.ofString "_ascii_buffer", Str.ofString "_buffer", Str.ofString "_truth", Str.ofString "_B64", Str.ofString "_b64_value", Str.ofString "a2b_base64", Str.ofString "b2a_base64", Str.ofString "b64encode", Str.ofString "b64decode", Str.ofString "cmp_to_key", Str.ofString "_initial_missing", Str.ofString "reduce", Str.ofString "_law_row", Str.ofString "_law_alphabet", Str.ofString "_law_number", Str.ofString "_law_signs", Str.ofString "_law_digits", Str.ofString "_law_asked"]
theorem law_def : (defOf qv (Str.ofString "law")).isSome = true := by decide +kernel
noncomputable def lawE : DefRec × List (Str × Expr) := (defOf qv (Str.ofString "law")).get law_def
noncomputable def X0 (s : Shared) : Bool := recOk [] s
noncomputable def H0 : Hook := kHook K0 [2, 3, 4, 20, 21, 27, 28, 29, 35, 36, 55, 56, 62, 63, 69, 70, 76, 77, 78, 84, 85, 86, 92, 93, 94, 100, 101, 102, 108, 109, 111, 115, 116, 118, 124, 125, 129, 130, 136, 137, 143, 144, 148, 149, 153, 154, 160, 161, 163, 165, 166] (fun _ => by kernel_rfl)
theorem both {a b : Bool} (x : a = true) (y : b = true) : (a && b) = true := Bool.and_eq_true_iff.mpr ⟨x, y⟩
theorem looks0 : looksOpen PySem.Challenge.rw_op0035_01.row.prog = true := by
  unfold looksOpen
  refine both (both (both (both (both ?_ ?_) ?_) ?_) ?_) ?_
  all_goals decide +kernel
theorem part0 : PySem.Challenge.rw_op0035_01.row.partSaid = true := by
  unfold OpenRow.partSaid
  refine both (both (both (both (both (both (both (both (both (both (both (both (both looks0 ?_) ?_) ?_) ?_) ?_) ?_) ?_) ?_) ?_) ?_) ?_) ?_) ?_
  all_goals decide +kernel
theorem said0 : PySem.Challenge.rw_op0035_01.wellSaid = true := by
  unfold OpenLaw.wellSaid OpenRow.wellSaid
  refine both (both (both (both (both (both (both (both (both (both (both (both (both (both (both (both (both (both (both (both part0 ?_) ?_) ?_) ?_) ?_) ?_) ?_) ?_) ?_) ?_) ?_) ?_) ?_) ?_) ?_) ?_) ?_) ?_) ?_) ?_
  all_goals decide +kernel
theorem ok0 : (chainsOk qv && opensWell PySem.Challenge.pw_op0035_01 && (frees PySem.Challenge.rw_op0035_01.row.toRowW && PySem.Challenge.rw_op0035_01.row.within.isEmpty)) = true := by decide +kernel
theorem left0 : LeftO PySem.Challenge.rw_op0035_01.row.prog qv lo0 X0 (Hook.obs H0) (Hook.val H0) 2000 := fun w => by kernel_rfl
theorem hd (walk : WalkO qv lo0 (fun _ _ => True) (Hook.says H0) PySem.Challenge.rw_op0035_01.row.toRowW lawE.1 lawE.2 fun f vs => PySem.call f vs) : PySem.Challenge.rw_op0035_01.Holds := by
  refine holds_law said0 fun said => ?_
  refine holds_open (d := lawE.1) (kwd := lawE.2) left0 (Hook.of H0) (Hook.keeps H0) (fun _ _ => trivial) (fun _ _ _ _ _ => trivial) ?_ ?_ ?_ (fun s e => recFacts_of e) (by rfl) said ok0 ⟨rfl, rfl, rfl, rfl, rfl, by decide +kernel⟩ ?_ walk
  · kernel_rfl
  · kernel_rfl
  · kernel_rfl
  · w_witness2
end Mine
end
section
open PySem PySem.W PyProof.Rows
set_option maxRecDepth 100000
set_option maxHeartbeats 4000000
namespace Mine
noncomputable def dropT : Frag → Frag
  | [] => []
  | (a, o) :: r => if a == 111 || a == 163 then dropT r else (a, o) :: dropT r
theorem dropT_lookup : ∀ (K : Frag) (a : Addr) (o : Obj), (dropT K).lookup a = some o → K.lookup a = some o
  | [], a, o, h => by cases h
  | (b, x) :: r, a, o, h => by
    unfold dropT at h
    rw [List.lookup_cons]
    split at h
    · rename_i hb
      have ih := dropT_lookup r a o h
      cases hab : a == b with
      | false => exact ih
      | true =>
        have e : a = b := by simpa using hab
        subst e
        exfalso
        have : ∀ (K : Frag), (dropT K).lookup a = none := by
          intro K
          induction K with
          | nil => rfl
          | cons p r ih =>
            obtain ⟨c, y⟩ := p
            unfold dropT
            split
            · exact ih
            · rename_i hc
              rw [List.lookup_cons]
              cases hac : a == c with
              | false => exact ih
              | true =>
                have e : a = c := by simpa using hac
                subst e
                exact absurd hb hc
        rw [this r] at h; cases h
    · rw [List.lookup_cons] at h
      cases hab : a == b with
      | true => rw [hab] at h; exact h
      | false => rw [hab] at h; exact dropT_lookup r a o h
noncomputable def Kx (P : Params) : Frag := dropT (K0 P)
theorem Kx_in {P : Params} {h : Heap} (X : (K0 P).In h) : (Kx P).In h := fun a o e => X a o (dropT_lookup _ a o e)
variable {prog : Program} {w : World}
theorem Bn_x (P : Params) : Bn (Kx P) := by
  intro f hf
  simp only [bltNames, tyNames, List.cons_append, List.nil_append, List.mem_cons, List.not_mem_nil, or_false] at hf
  rcases hf with rfl | rfl | rfl | rfl | rfl | rfl | rfl | rfl | rfl | rfl <;> kernel_rfl
noncomputable def b64 : List UInt8 := [65, 66, 67, 68, 69, 70, 71, 72, 73, 74, 75, 76, 77, 78, 79, 80, 81, 82, 83, 84, 85, 86, 87, 88, 89, 90, 97, 98, 99, 100, 101, 102, 103, 104, 105, 106, 107, 108, 109, 110, 111, 112, 113, 114, 115, 116, 117, 118, 119, 120, 121, 122, 48, 49, 50, 51, 52, 53, 54, 55, 56, 57, 43, 47]
noncomputable def cf0 : Orc := ⟨fun _ _ _ => none, fun x => if x == Str.ofString "_B64" then some (.bytes b64) else none⟩
theorem cf0_g (P : Params) : CG (Kx P) cf0 := by
  intro x d h
  unfold cf0 at h
  dsimp only at h
  split at h
  · rename_i q
    have q' : x = Str.ofString "_B64" := by simpa using q
    subst q'
    cases h
    exact ⟨.bytes b64.toArray 259, by kernel_rfl, fun h X => by unfold V; exact ⟨_, rfl⟩⟩
  · cases h
theorem cf0_f {K : Frag} {m : Nat} : CF K prog w m cf0 := fun f ds ks d h => by cases h
noncomputable def numD (b : List UInt8) : Int := b.foldl (fun k c => k * 256 + (c.toNat : Int)) 0
noncomputable def gNum : List Dt → List (Str × Dt) → Option Dt := gk0 (on1 (oB fun b => some (.int (numD b))))
theorem numD_take (b : List UInt8) (i : Nat) (c : UInt8) (h : b[i]? = some c) : numD (b.take (i + 1)) = numD (b.take i) * 256 + (c.toNat : Int) := by
  unfold numD
  obtain ⟨hl, he⟩ := List.getElem?_eq_some_iff.mp h
  rw [List.take_succ_eq_append_getElem hl, List.foldl_append, he]
  rfl
noncomputable def numSt (b : List UInt8) (n : Int) (tl : List (Str × Dt)) : Sg := ([(Str.ofString "row", .bytes b), (Str.ofString "number", .int n)] ++ tl, [])
theorem c_num (P : Params) : FnC (Kx P) prog w 1 (Str.ofString "_law_number") gNum := by
  refine FnC.of_ex (n := 20) (a := 144) (Bn_x P) (cf0_g P) cf0_f (by kernel_rfl) (FnOk.of (names := [Str.ofString "row"]) (by kernel_rfl)) (fun vs h S => ?_) fun ds ks d h => ?_
  · obtain ⟨v, rfl⟩ := ln1 h
    kernel_rfl
  · obtain ⟨rfl, h⟩ := gk0_x h
    obtain ⟨_, rfl, h⟩ := on1_x h
    obtain ⟨b, rfl, h⟩ := oB_x h
    obtain rfl := Option.some.inj h
    refine ⟨rfl, rfl, ?_⟩
    obtain ⟨σ', e, tl, htl, rfl⟩ := forGo_inv (f := forF cf0 none 17 (fdAt (Kx P) 144).scope.names (Str.ofString "octet") (forB (stAt (Kx P) 144 1))) (items := List.map (fun c : UInt8 => Dt.int (c.toNat : Int)) b) (σ := numSt b 0 []) (fun i σ => ∃ tl, (tl = [] ∨ ∃ o, tl = [(Str.ofString "octet", .int o)]) ∧ σ = numSt b (numD (b.take i)) tl) ⟨[], .inl rfl, rfl⟩ (by
      rintro i d σ hi ⟨tl, htl, rfl⟩
      rw [List.getElem?_map] at hi
      obtain ⟨c, hc, rfl⟩ := Option.map_eq_some_iff.mp hi
      rw [numD_take b i c hc]
      refine ⟨numSt b (numD (b.take i) * 256 + (c.toNat : Int)) [(Str.ofString "octet", .int c.toNat)], .inl ?_, _, .inr ⟨_, rfl⟩, rfl⟩
      rcases htl with rfl | ⟨o, rfl⟩ <;> exact exs_by [.d (.int (numD (b.take i) * 256))] (fun z => ai (bmr (numD (b.take i)) 256 rfl) z) (by kernel_rfl))
    rw [List.length_map, List.take_length] at e
    refine exs_ret [.r .next (numSt b (numD b) tl)] (fun z => ai e z) ?_
    rcases htl with rfl | ⟨o, rfl⟩ <;> kernel_rfl
end Mine
end
section
open PySem PySem.W PyProof.Rows
set_option maxRecDepth 100000
set_option maxHeartbeats 4000000
namespace Mine
variable {prog : Program} {w : World}
noncomputable def alpha : Str := ⟨(b64.map fun c => c.toNat).toArray⟩
theorem alpha_eq : Str.ofString "ABCDEFGHIJKLMNOPQRSTUVWXYZabcdefghijklmnopqrstuvwxyz0123456789+/" = alpha := by decide +kernel
noncomputable def gAlpha : List Dt → List (Str × Dt) → Option Dt := gk0 (on0 (some (.str alpha)))
theorem c_alpha (P : Params) : FnC (Kx P) prog w 1 (Str.ofString "_law_alphabet") gAlpha := by
  refine FnC.of_ex (n := 20) (a := 137) (Bn_x P) (cf0_g P) cf0_f (by kernel_rfl) (FnOk.of (names := []) (by kernel_rfl)) (fun vs h S => ?_) fun ds ks d h => ?_
  · obtain rfl := List.eq_nil_of_length_eq_zero h
    kernel_rfl
  · obtain ⟨rfl, h⟩ := gk0_x h
    obtain ⟨rfl, h⟩ := on0_x h
    obtain rfl := Option.some.inj h
    refine ⟨rfl, rfl, ([], []), ?_⟩
    rw [← alpha_eq]
    exact exs_by [] (fun z => z) (by kernel_rfl)
noncomputable def gTruth : List Dt → List (Str × Dt) → Option Dt := gk0 (on1 (oT fun b => some (.bool b)))
theorem c_truth (P : Params) : FnC (Kx P) prog w 1 (Str.ofString "_truth") gTruth := by
  refine FnC.of_ex (n := 20) (a := 70) (Bn_x P) (cf0_g P) cf0_f (by kernel_rfl) (FnOk.of (names := [Str.ofString "x"]) (by kernel_rfl)) (fun vs h S => ?_) fun ds ks d h => ?_
  · obtain ⟨v, rfl⟩ := ln1 h
    kernel_rfl
  · obtain ⟨rfl, h⟩ := gk0_x h
    obtain ⟨_, rfl, h⟩ := on1_x h
    obtain ⟨b, rfl, h⟩ := oT_x h
    obtain rfl := Option.some.inj h
    refine ⟨rfl, rfl, ?_⟩
    cases b with
    | true => exact exs_ret [.d (.ty "bool"), .b false, .b true, .b true] (fun z => ai (dd (.ty "bool")) (ai (bb false) (ai (bb true) (ai (bb true) z)))) (by kernel_rfl)
    | false => exact exs_ret [.d (.ty "bool"), .b false, .b true, .b false] (fun z => ai (dd (.ty "bool")) (ai (bb false) (ai (bb true) (ai (bb false) z)))) (by kernel_rfl)
noncomputable def gBuf : List Dt → List (Str × Dt) → Option Dt := gk0 (on1 (oB fun b => some (.bytes b)))
theorem c_buffer (P : Params) : FnC (Kx P) prog w 1 (Str.ofString "_buffer") gBuf := by
  refine FnC.of_ex (n := 20) (a := 63) (Bn_x P) (cf0_g P) cf0_f (by kernel_rfl) (FnOk.of (names := [Str.ofString "data"]) (by kernel_rfl)) (fun vs h S => ?_) fun ds ks d h => ?_
  · obtain ⟨v, rfl⟩ := ln1 h
    kernel_rfl
  · obtain ⟨rfl, h⟩ := gk0_x h
    obtain ⟨_, rfl, h⟩ := on1_x h
    obtain ⟨b, rfl, h⟩ := oB_x h
    obtain rfl := Option.some.inj h
    refine ⟨rfl, rfl, ?_⟩
    exact exs_ret [.d (.ty "bytes"), .b true] (fun z => ai (dd (.ty "bytes")) (ai (bb true) z)) (by kernel_rfl)
theorem c_ascii (P : Params) : FnC (Kx P) prog w 1 (Str.ofString "_ascii_buffer") gBuf := by
  refine FnC.of_ex (n := 20) (a := 56) (Bn_x P) (cf0_g P) cf0_f (by kernel_rfl) (FnOk.of (names := [Str.ofString "data"]) (by kernel_rfl)) (fun vs h S => ?_) fun ds ks d h => ?_
  · obtain ⟨v, rfl⟩ := ln1 h
    kernel_rfl
  · obtain ⟨rfl, h⟩ := gk0_x h
    obtain ⟨_, rfl, h⟩ := on1_x h
    obtain ⟨b, rfl, h⟩ := oB_x h
    obtain rfl := Option.some.inj h
    refine ⟨rfl, rfl, ?_⟩
    exact exs_ret [.d (.ty "bytes"), .b false, .b true] (fun z => ai (dd (.ty "bytes")) (ai (bb false) (ai (bb true) z))) (by kernel_rfl)
noncomputable def valD (c : Int) : Int := if 65 ≤ c ∧ c ≤ 90 then c - 65 else if 97 ≤ c ∧ c ≤ 122 then c - 71 else if 48 ≤ c ∧ c ≤ 57 then c + 4 else if c = 43 then 62 else if c = 47 then 63 else 64
noncomputable def gVal : List Dt → List (Str × Dt) → Option Dt := gk0 (on1 (oI fun c => some (.int (valD c))))
theorem c_val (P : Params) : FnC (Kx P) prog w 1 (Str.ofString "_b64_value") gVal := by
  refine FnC.of_ex (n := 20) (a := 77) (Bn_x P) (cf0_g P) cf0_f (by kernel_rfl) (FnOk.of (names := [Str.ofString "c"]) (by kernel_rfl)) (fun vs h S => ?_) fun ds ks d h => ?_
  · obtain ⟨v, rfl⟩ := ln1 h
    kernel_rfl
  · obtain ⟨rfl, h⟩ := gk0_x h
    obtain ⟨_, rfl, h⟩ := on1_x h
    obtain ⟨c, rfl, h⟩ := oI_x h
    obtain rfl := Option.some.inj h
    refine ⟨rfl, rfl, ([(Str.ofString "c", .int c)], []), ?_⟩
    unfold valD
    split
    · rename_i h1
      exact exs_by [.b true] (fun z => ai (cr h1) z) (by kernel_rfl)
    · rename_i h1
      split
      · rename_i h2
        exact exs_by [.b false, .b true] (fun z => ai (ncr h1) (ai (cr h2) z)) (by kernel_rfl)
      · rename_i h2
        split
        · rename_i h3
          exact exs_by [.b false, .b false, .b true] (fun z => ai (ncr h1) (ai (ncr h2) (ai (cr h3) z))) (by kernel_rfl)
        · rename_i h3
          split
          · rename_i h4
            exact exs_by [.b false, .b false, .b false, .b true] (fun z => ai (ncr h1) (ai (ncr h2) (ai (ncr h3) (ai (ceq h4) z)))) (by kernel_rfl)
          · rename_i h4
            split
            · rename_i h5
              exact exs_by [.b false, .b false, .b false, .b false, .b true] (fun z => ai (ncr h1) (ai (ncr h2) (ai (ncr h3) (ai (cneq h4) (ai (ceq h5) z))))) (by kernel_rfl)
            · rename_i h5
              exact exs_by [.b false, .b false, .b false, .b false, .b false] (fun z => ai (ncr h1) (ai (ncr h2) (ai (ncr h3) (ai (cneq h4) (ai (cneq h5) z))))) (by kernel_rfl)
end Mine
end
section
open PySem PySem.W PyProof.Rows
set_option maxRecDepth 100000
set_option maxHeartbeats 4000000
namespace Mine
variable {prog : Program} {w : World}
theorem ofString_inj (a b : String) : (Str.ofString a = Str.ofString b) ↔ a = b := by
  have := ofString_beq a b
  rw [Bool.eq_iff_iff] at this
  simpa using this
theorem alpha_len : alpha.length = 64 := by decide +kernel
noncomputable def sg (v : Int) : Nat := (b64.getD v.toNat 0).toNat
theorem alpha_at : ∀ v : Nat, v < 64 → alpha.cps.getD v 0 = (b64.getD v 0).toNat := by decide +kernel
theorem fmod64 (a : Int) : 0 ≤ a.fmod 64 ∧ a.fmod 64 < 64 := ⟨Int.fmod_nonneg_of_pos a (by decide), Int.fmod_lt_of_pos a (by decide)⟩
theorem item_alpha {i : Int} (h : 0 ≤ i ∧ i < 64) : itemD (.str alpha) (.int i) = some (.str ⟨#[sg i]⟩) := by
  show (if 0 ≤ i ∧ i < alpha.length ∧ alpha.length ≤ 1000 then some (Dt.str ⟨#[alpha.cps.getD i.toNat 0]⟩) else none) = _
  rw [if_pos ⟨h.1, by rw [alpha_len]; exact h.2, by rw [alpha_len]; decide⟩, alpha_at i.toNat (by lia)]
  rfl
theorem item_alphaM (a : Int) : itemD (.str alpha) (.int (a.fmod 64)) = some (.str ⟨#[sg (a.fmod 64)]⟩) := item_alpha (fmod64 a)
theorem slc_rev {m : Nat} (h : m ≤ 7) (g : Nat → Dt) : slc ((List.range m).map g) none none (some (-1)) = some (.list ((List.range m).map g).reverse) := by
  rcases List.mem_cons.mp (show m ∈ List.range 8 from List.mem_range.mpr (Nat.lt_succ_of_le h)) with rfl | h
  · kernel_rfl
  iterate 7
    rcases List.mem_cons.mp h with rfl | h
    · kernel_rfl
  exact nomatch h
theorem join_chars (cs : List Nat) : Txt.join (Str.ofString "") (cs.map fun c => ⟨#[c]⟩) = ⟨cs.toArray⟩ := by
  have e : Str.ofString "" = ⟨#[]⟩ := by decide +kernel
  rw [e]
  cases cs with
  | nil => rfl
  | cons c r =>
    have : ∀ (r : List Nat) (acc : Array Nat), (r.map fun c => (⟨#[c]⟩ : Str)).foldl (fun acc p => acc ++ (⟨#[]⟩ : Str).cps ++ p.cps) acc = acc ++ r.toArray := by
      intro r
      induction r with
      | nil => intro acc; simp
      | cons x r ih =>
        intro acc
        rw [List.map_cons, List.foldl_cons, ih]
        apply Array.toList_inj.mp
        simp
    unfold Txt.join Builtin.Str.glued
    simp only [List.map_cons, List.drop_one, List.tail_cons, List.headD_cons]
    rw [this]
    apply congrArg Str.mk
    apply Array.toList_inj.mp
    simp
theorem joinOk_chars (cs : List Nat) (h : cs.length ≤ 1000) : JoinOk (Str.ofString "") (cs.map fun c => ⟨#[c]⟩) = true := by
  refine joinOk_of_weight ?_ (by decide +kernel)
  have : ((cs.map fun c => (⟨#[c]⟩ : Str)).map (·.length)).sum = cs.length := by
    clear h
    induction cs with
    | nil => rfl
    | cons c r ih => simp only [List.map_cons, List.sum_cons, List.length_cons, ih]; show 1 + r.length = _; lia
  rw [this, List.length_map]; lia
noncomputable def charsD (cs : List Nat) : List Dt := cs.map fun c => .str ⟨#[c]⟩
theorem allStrs_chars (cs : List Nat) : allStrs (charsD cs) = some (cs.map fun c => ⟨#[c]⟩) := by
  unfold charsD
  induction cs with
  | nil => rfl
  | cons c r ih => simp [allStrs, ih]
theorem meth_join (cs : List Nat) (h : cs.length ≤ 1000) : methD (.str (Str.ofString "")) (Str.ofString "join") (.list (charsD cs)) = some (.str ⟨cs.toArray⟩) := by
  unfold methD
  simp only [beq_self_eq_true, if_true, allStrs_chars, Option.bind_some, joinOk_chars cs h, join_chars]
  rw [if_pos (by unfold charsD; rw [List.length_map]; exact h)]
noncomputable def signsD (num : Int) (m : Nat) : List Nat := ((List.range m).map fun k => sg ((num.fdiv (64 ^ k)).fmod 64)).reverse
noncomputable def padS (m : Nat) : List Nat := List.replicate ((4 - m % 4) % 4) 61
noncomputable def gSigns : List Dt → List (Str × Dt) → Option Dt := gk0 (on2 fun a b => oI (fun num => oI (fun many => if many = 2 ∨ many = 3 ∨ many = 4 ∨ many = 6 ∨ many = 7 then some (.str ⟨(signsD num many.toNat ++ padS many.toNat).toArray⟩) else none) b) a)
noncomputable def cf1 : Orc := ((cf0.or (Str.ofString "_law_alphabet") gAlpha).or (Str.ofString "_law_number") gNum)
theorem cf1_f (P : Params) : CF (Kx P) prog w 1 cf1 := CF.or (Nat.le_refl _) (CF.or (Nat.zero_le _) (cf0_f (m := 0)) (c_alpha P)) (c_num P)
theorem cf1_g (P : Params) : CG (Kx P) cf1 := cf0_g P
theorem c_signs (P : Params) : FnC (Kx P) prog w 2 (Str.ofString "_law_signs") gSigns := by
  refine FnC.of_ex (n := 20) (a := 149) (Bn_x P) (cf1_g P) (cf1_f P) (by kernel_rfl) (FnOk.of (names := [Str.ofString "number", Str.ofString "many"]) (by kernel_rfl)) (fun vs h S => ?_) fun ds ks d h => ?_
  · obtain ⟨v, u, rfl⟩ := ln2 h
    kernel_rfl
  · obtain ⟨rfl, h⟩ := gk0_x h
    obtain ⟨_, _, rfl, h⟩ := on2_x h
    obtain ⟨num, rfl, h⟩ := oI_x h
    obtain ⟨many, rfl, h⟩ := oI_x h
    obtain ⟨hm, h⟩ := ite_x h
    obtain rfl := Option.some.inj h
    refine ⟨rfl, rfl, ?_⟩
    obtain ⟨m, rfl⟩ : ∃ m : Nat, many = m := ⟨many.toNat, by lia⟩
    have hm : m = 2 ∨ m = 3 ∨ m = 4 ∨ m = 6 ∨ m = 7 := by lia
    have hm7 : m ≤ 7 := by lia
    have h1000 : m ≤ 1000 := Nat.le_trans hm7 (by decide)
    have hgo := go_map (f := cF cf1 14 [(Str.ofString "number", .int num), (Str.ofString "many", .int m)] (kids (stE (stAt (Kx P) 149 0)) [0, 1, 0])) (mk := fun (i : Nat) => Dt.int (i : Int)) (fun k => .str ⟨#[sg ((num.fdiv (64 ^ k)).fmod 64)]⟩) (l := List.range m) (fun k hk => by
      have hk7 : k ≤ 7 := Nat.le_trans (Nat.le_of_lt (List.mem_range.mp hk)) hm7
      exact cF_by [.d (.str alpha), .d (.int (64 ^ k)), .d (.int (num.fdiv (64 ^ k))), .d (.int ((num.fdiv (64 ^ k)).fmod 64)), .d (.str ⟨#[sg ((num.fdiv (64 ^ k)).fmod 64)]⟩)]
        (fun z => ai (dd (.str alpha)) (ai (bpw 64 k (Nat.le_trans hk7 (by decide)) rfl) (ai (fdp num 64 k 7 hk7 rfl) (ai (bmd (num.fdiv (64 ^ k)) 64 rfl) (ai (item_alphaM (num.fdiv (64 ^ k))) z))))) (by kernel_rfl))
    have e1 : slc ((List.range m).map fun k => .str ⟨#[sg ((num.fdiv (64 ^ k)).fmod 64)]⟩) none none (some (-1)) = some (.list (charsD (signsD num m))) := by
      rw [slc_rev hm7]
      unfold charsD signsD
      rw [List.map_reverse, List.map_map]; rfl
    have hl : (signsD num m).length = m := by unfold signsD; rw [List.length_reverse, List.length_map, List.length_range]
    have hp : (padS m).length ≤ 3 := by unfold padS; rw [List.length_replicate]; exact Nat.le_of_lt_succ (Nat.mod_lt _ (by decide))
    have e2 : binD .Mult (.str (Str.ofString "=")) (.int ((-(m : Int)).fmod 4)) = some (.str ⟨(padS m).toArray⟩) := by rcases hm with rfl | rfl | rfl | rfl | rfl <;> kernel_rfl
    exact exs_ret [.d (.range m), .l ((List.range m).map fun (i : Nat) => Dt.int (i : Int)), .l ((List.range m).map fun k => .str ⟨#[sg ((num.fdiv (64 ^ k)).fmod 64)]⟩), .d (.list (charsD (signsD num m))), .d (.str ⟨(signsD num m).toArray⟩), .d (.int ((-(m : Int)).fmod 4)), .d (.str ⟨(padS m).toArray⟩), .d (.str ⟨(signsD num m ++ padS m).toArray⟩)]
      (fun z => ai (blt_range m h1000) (ai (rng m h1000) (ai (show ((List.range m).map fun (i : Nat) => Dt.int (i : Int)).length ≤ 1000 by rw [List.length_map, List.length_range]; exact h1000) (ai hgo (ai e1 (ai (meth_join (signsD num m) (by rw [hl]; exact h1000)) (ai (bmd (-(m : Int)) 4 rfl) (ai e2 (ai (sadd (signsD num m) (padS m) (by lia)) z))))))))) (by kernel_rfl)
end Mine
end
section
open PySem PySem.W PyProof.Rows
set_option maxRecDepth 100000
set_option maxHeartbeats 4000000
namespace Mine
variable {prog : Program} {w : World}
noncomputable def rowD (x : Int) : List UInt8 := ((List.range (1 + x.fmod 5).toNat).map fun k => (((x.fdiv 5).fdiv (256 ^ k)).fmod 256).toNat.toUInt8).reverse
theorem fmod5 (x : Int) : x.fmod 5 = 0 ∨ x.fmod 5 = 1 ∨ x.fmod 5 = 2 ∨ x.fmod 5 = 3 ∨ x.fmod 5 = 4 := by
  have h1 : 0 ≤ x.fmod 5 := Int.fmod_nonneg_of_pos x (by decide)
  have h2 : x.fmod 5 < 5 := Int.fmod_lt_of_pos x (by decide)
  lia
theorem rowD_len (x : Int) : 1 ≤ (rowD x).length ∧ (rowD x).length ≤ 5 := by
  unfold rowD
  rw [List.length_reverse, List.length_map, List.length_range]
  rcases fmod5 x with h | h | h | h | h <;> rw [h] <;> decide
theorem fmod256_0 (a : Int) : 0 ≤ a.fmod 256 := Int.fmod_nonneg_of_pos a (by decide)
theorem fmod256_1 (a : Int) : a.fmod 256 < 256 := Int.fmod_lt_of_pos a (by decide)
noncomputable def gRow : List Dt → List (Str × Dt) → Option Dt := gk0 (on1 (oI fun x => some (.bytes (rowD x))))
theorem c_row (P : Params) : FnC (Kx P) prog w 1 (Str.ofString "_law_row") gRow := by
  refine FnC.of_ex (n := 20) (a := 130) (Bn_x P) (cf0_g P) cf0_f (by kernel_rfl) (FnOk.of (names := [Str.ofString "x"]) (by kernel_rfl)) (fun vs h S => ?_) fun ds ks d h => ?_
  · obtain ⟨v, rfl⟩ := ln1 h
    kernel_rfl
  · obtain ⟨rfl, h⟩ := gk0_x h
    obtain ⟨_, rfl, h⟩ := on1_x h
    obtain ⟨x, rfl, h⟩ := oI_x h
    obtain rfl := Option.some.inj h
    refine ⟨rfl, rfl, ?_⟩
    have h5 : x.fmod 5 < 5 := Int.fmod_lt_of_pos x (by decide)
    have h0 : 0 ≤ x.fmod 5 := Int.fmod_nonneg_of_pos x (by decide)
    unfold rowD
    generalize hn : (1 + x.fmod 5).toNat = n
    have hn5 : n ≤ 5 := by omega
    have hnx : 1 + x.fmod 5 = (n : Int) := by omega
    have h1000 : n ≤ 1000 := Nat.le_trans hn5 (by decide)
    clear hn h5 h0
    have hgo := go_map (f := cF cf0 15 [(Str.ofString "x", .int x)] (kids (stE (stAt (Kx P) 130 0)) [1, 0])) (mk := fun (i : Nat) => Dt.int (i : Int)) (fun k => .int (((x.fdiv 5).fdiv (256 ^ k)).fmod 256)) (l := List.range n) (fun k hk => by
      have hk7 : k ≤ 7 := Nat.le_trans (Nat.le_of_lt (List.mem_range.mp hk)) (Nat.le_trans hn5 (by decide))
      exact cF_by [.d (.int (x.fdiv 5)), .d (.int (256 ^ k)), .d (.int ((x.fdiv 5).fdiv (256 ^ k))), .d (.int (((x.fdiv 5).fdiv (256 ^ k)).fmod 256))]
        (fun z => ai (bfd x 5 rfl) (ai (bpw 256 k (Nat.le_trans hk7 (by decide)) rfl) (ai (fdp (x.fdiv 5) 256 k 7 hk7 rfl) (ai (bmd ((x.fdiv 5).fdiv (256 ^ k)) 256 rfl) z)))) (by kernel_rfl))
    have e1 : slc ((List.range n).map fun k => .int (((x.fdiv 5).fdiv (256 ^ k)).fmod 256)) none none (some (-1)) = some (.list ((((List.range n).map fun k => ((x.fdiv 5).fdiv (256 ^ k)).fmod 256).reverse).map .int)) := by
      rw [slc_rev (Nat.le_trans hn5 (by decide)), List.map_reverse, List.map_map]; rfl
    have e2 := blt_bytes ((List.range n).map fun k => ((x.fdiv 5).fdiv (256 ^ k)).fmod 256).reverse (by rw [List.length_reverse, List.length_map, List.length_range]; exact h1000) (fun z hz => by
      obtain ⟨k, _, rfl⟩ := List.mem_map.mp (List.mem_reverse.mp hz)
      exact ⟨fmod256_0 _, fmod256_1 _⟩)
    rw [List.map_reverse (l := (List.range n).map fun k => ((x.fdiv 5).fdiv (256 ^ k)).fmod 256) (f := fun n : Int => n.toNat.toUInt8), List.map_map] at e2
    exact exs_ret [.d (.int (x.fmod 5)), .d (.range n), .l ((List.range n).map fun (i : Nat) => Dt.int (i : Int)), .l ((List.range n).map fun k => .int (((x.fdiv 5).fdiv (256 ^ k)).fmod 256)), .d (.list ((((List.range n).map fun k => ((x.fdiv 5).fdiv (256 ^ k)).fmod 256).reverse).map .int)), .d (.bytes ((List.range n).map fun k => (((x.fdiv 5).fdiv (256 ^ k)).fmod 256).toNat.toUInt8).reverse)]
      (fun z => ai (bmd x 5 rfl) (ai (show bltD (Str.ofString "range") [.int (1 + x.fmod 5)] = some (.range n) by rw [hnx]; exact blt_range n h1000) (ai (rng n h1000) (ai (show ((List.range n).map fun (i : Nat) => Dt.int (i : Int)).length ≤ 1000 by rw [List.length_map, List.length_range]; exact h1000) (ai hgo (ai e1 (ai e2 z))))))) (by kernel_rfl)
end Mine
end
section
open PySem PySem.W PyProof.Rows
set_option maxRecDepth 100000
set_option maxHeartbeats 4000000
namespace Mine
variable {prog : Program} {w : World}
theorem index_ok : ∀ c : Nat, c < 128 → valD c < 64 → Txt.contains alpha ⟨#[c]⟩ = true ∧ Txt.find alpha ⟨#[c]⟩ = valD c := by decide +kernel
theorem valD_big (c : Nat) (h : 128 ≤ c) : valD c = 64 := by
  unfold valD
  repeat rw [if_neg (by lia)]
theorem index_all (c : Nat) (h : valD c < 64) : Txt.contains alpha ⟨#[c]⟩ = true ∧ Txt.find alpha ⟨#[c]⟩ = valD c := by
  by_cases hc : c < 128
  · exact index_ok c hc h
  · rw [valD_big c (by lia)] at h; lia
theorem compGo_filter {f : Dt → Option (Option Dt)} {mk : Nat → Dt} {p : Nat → Bool} {g : Nat → Dt} : ∀ {cs : List Nat}, (∀ c ∈ cs, f (mk c) = if p c then some (some (g c)) else some none) → compGo f (cs.map mk) = some ((cs.filter p).map g)
  | [], _ => rfl
  | c :: r, h => by
    rw [List.map_cons]
    unfold compGo
    rw [h c (.head _)]
    cases hp : p c with
    | true => simp [hp, compGo_filter (cs := r) (g := g) (p := p) fun c hc => h c (.tail _ hc)]
    | false => simp [hp, compGo_filter (cs := r) (g := g) (p := p) fun c hc => h c (.tail _ hc)]
noncomputable def valsD (t : Str) : List Int := (t.cps.toList.filter (· != 61)).map fun (c : Nat) => valD (c : Int)
noncomputable def digitsD (vals : List Int) (turn : Int) : List Dt := (List.range vals.length).map fun k => .int (vals.getD k 0 + (if k + 1 < vals.length then 64 else 0) + ((k + turn).fmod 2) * 128)
noncomputable def gDigits : List Dt → List (Str × Dt) → Option Dt := gk0 (on2 fun a b => oS (fun t => oI (fun turn => if t.length ≤ 1000 ∧ (t.cps.toList.all fun (c : Nat) => c == 61 || decide (valD (c : Int) < 64)) = true ∧ ((valsD t).length = 2 ∨ (valsD t).length = 3 ∨ (valsD t).length = 4 ∨ (valsD t).length = 6 ∨ (valsD t).length = 7) then some (.list (digitsD (valsD t) turn)) else none) b) a)
noncomputable def Len5 (W : List Int) : Prop := W.length = 2 ∨ W.length = 3 ∨ W.length = 4 ∨ W.length = 6 ∨ W.length = 7
noncomputable def digA (W : List Int) (k : Nat) : Int := if k + 1 < W.length then W.getD k 0 + 64 else W.getD k 0
theorem dig_slN {n : Nat} (h : n = 2 ∨ n = 3 ∨ n = 4 ∨ n = 6 ∨ n = 7) (g : Nat → Int) : slc (((List.range n).map g).map .int) none (some (-1)) none = some (.list (((List.range n).map g).dropLast.map .int)) ∧ slc (((List.range n).map g).map .int) (some (-1)) none none = some (.list ((((List.range n).map g).drop (((List.range n).map g).length - 1)).map .int)) ∧
    binD .Add (.list (((List.range n).map g).dropLast.map fun v => .int (v + 64))) (.list ((((List.range n).map g).drop (((List.range n).map g).length - 1)).map .int)) = some (.list ((List.range ((List.range n).map g).length).map fun k => .int (digA ((List.range n).map g) k))) := by
  rcases h with rfl | rfl | rfl | rfl | rfl <;> exact ⟨by kernel_rfl, by kernel_rfl, by kernel_rfl⟩
theorem dig_sl (W : List Int) (h : Len5 W) : slc (W.map .int) none (some (-1)) none = some (.list (W.dropLast.map .int)) ∧ slc (W.map .int) (some (-1)) none none = some (.list ((W.drop (W.length - 1)).map .int)) ∧
    binD .Add (.list (W.dropLast.map fun v => .int (v + 64))) (.list ((W.drop (W.length - 1)).map .int)) = some (.list ((List.range W.length).map fun k => .int (digA W k))) := by
  have e : (List.range W.length).map (fun k => W.getD k 0) = W := List.ext_getElem (by rw [List.length_map, List.length_range]) fun i h1 h2 => by rw [List.getElem_map, List.getElem_range, List.getD_eq_getElem?_getD, List.getElem?_eq_getElem h2]; rfl
  have q := dig_slN h fun k => W.getD k 0
  rwa [e] at q
theorem digA_eq (W : List Int) (k : Nat) : digA W k = W.getD k 0 + (if k + 1 < W.length then 64 else 0) := by
  unfold digA
  split
  · rfl
  · rw [Int.add_zero]
theorem str1_ne (c : Nat) : ((⟨#[c]⟩ : Str) != Str.ofString "=") = (c != 61) := by
  have e : Str.ofString "=" = ⟨#[61]⟩ := by decide +kernel
  rw [e]
  by_cases h : c = 61
  · subst h; decide
  · have : ¬ (⟨#[c]⟩ : Str) = ⟨#[61]⟩ := fun q => h (by simpa using q)
    have h1 : ((⟨#[c]⟩ : Str) == ⟨#[61]⟩) = false := beq_eq_false_iff_ne.mpr this
    have h2 : (c == 61) = false := beq_eq_false_iff_ne.mpr h
    unfold bne
    rw [h1, h2]
theorem c_digits (P : Params) : FnC (Kx P) prog w 2 (Str.ofString "_law_digits") gDigits := by
  refine FnC.of_ex (n := 20) (a := 154) (Bn_x P) (cf1_g P) (cf1_f P) (by kernel_rfl) (FnOk.of (names := [Str.ofString "text", Str.ofString "turn"]) (by kernel_rfl)) (fun vs h S => ?_) fun ds ks d h => ?_
  · obtain ⟨v, u, rfl⟩ := ln2 h
    kernel_rfl
  · obtain ⟨rfl, h⟩ := gk0_x h
    obtain ⟨_, _, rfl, h⟩ := on2_x h
    obtain ⟨t, rfl, h⟩ := oS_x h
    obtain ⟨turn, rfl, h⟩ := oI_x h
    obtain ⟨hm, h⟩ := ite_x h
    obtain rfl := Option.some.inj h
    obtain ⟨hl, hv, hlen⟩ := hm
    refine ⟨rfl, rfl, ?_⟩
    have hF' : ∀ c ∈ t.cps.toList, cF cf1 17 [(Str.ofString "text", .str t), (Str.ofString "turn", .int turn)] (stE (stAt (Kx P) 154 0)) (.str ⟨#[c]⟩) = if (c != 61) = true then some (some (.int (valD (c : Int)))) else some none := fun c hc => by
      have hv' := List.all_eq_true.mp hv c hc
      simp only [Bool.or_eq_true, beq_iff_eq, decide_eq_true_eq] at hv'
      have hs : cmpD .NotEq (.str ⟨#[c]⟩) (.str (Str.ofString "=")) = some (c != 61) := congrArg some (str1_ne c)
      by_cases h61 : (c != 61) = true
      · rw [h61] at hs
        have hv2 : valD (c : Int) < 64 := hv'.resolve_left (by simpa using h61)
        rw [if_pos h61]
        have hx : methD (.str alpha) (Str.ofString "index") (.str ⟨#[c]⟩) = some (.int (valD (c : Int))) := (show methD (.str alpha) (Str.ofString "index") (.str ⟨#[c]⟩) = (if Txt.contains alpha ⟨#[c]⟩ = true then some (.int (Txt.find alpha ⟨#[c]⟩)) else none) by kernel_rfl).trans (by rw [if_pos (index_all c hv2).1, (index_all c hv2).2])
        exact cF_by [.b true, .d (.str alpha), .d (.int (valD (c : Int)))] (fun z => ai hs (ai (dd (.str alpha)) (ai hx z))) (by kernel_rfl)
      · rw [Bool.not_eq_true] at h61
        rw [h61] at hs
        rw [h61, if_neg Bool.false_ne_true]
        exact cF_by [.b false] (fun z => ai hs z) (by kernel_rfl)
    have hgo := compGo_filter (mk := fun c => .str ⟨#[c]⟩) (g := fun (c : Nat) => .int (valD (c : Int))) hF'
    have hpl : List.map (fun (c : Nat) => Dt.int (valD (c : Int))) (List.filter (fun c => c != 61) t.cps.toList) = (valsD t).map .int := by unfold valsD; rw [List.map_map]; rfl
    rw [hpl] at hgo
    generalize valsD t = W at hgo hlen ⊢
    obtain ⟨s1, s2, s3⟩ := dig_sl W hlen
    have hN : W.length ≤ 1000 := by omega
    have hgo2 := go_map (f := cF cf1 15 [(Str.ofString "text", .str t), (Str.ofString "turn", .int turn), (Str.ofString "places", .list (W.map .int))] (kids (stE (stAt (Kx P) 154 1)) [0])) (mk := Dt.int) (fun v => .int (v + 64)) (l := W.dropLast) (fun v _ => cF_by [] (fun z => z) (by kernel_rfl))
    have hgo3 := go_map (f := cF cf1 15 [(Str.ofString "text", .str t), (Str.ofString "turn", .int turn), (Str.ofString "places", .list (W.map .int)), (Str.ofString "digits", .list ((List.range W.length).map fun k => .int (digA W k)))] (stE (stAt (Kx P) 154 2))) (mk := fun (i : Nat) => Dt.int (i : Int)) (fun k => .int (W.getD k 0 + (if k + 1 < W.length then 64 else 0) + (((k : Int) + turn).fmod 2) * 128)) (l := List.range W.length) (fun k hk => by
      have hi := item_k ((List.range W.length).map fun k => .int (digA W k)) k (.int (digA W k)) (by rw [List.length_map, List.length_range]; exact hN) (by rw [List.getElem?_map, List.getElem?_range (List.mem_range.mp hk)]; rfl)
      rw [← digA_eq W k]
      exact cF_by [.d (.int (digA W k)), .d (.int (((k : Int) + turn).fmod 2)), .d (.int ((((k : Int) + turn).fmod 2) * 128))]
        (fun z => ai hi (ai (bmd ((k : Int) + turn) 2 rfl) (ai (bmr (((k : Int) + turn).fmod 2) 128 rfl) z))) (by kernel_rfl))
    have hlr : ∀ f : Nat → Dt, ((List.range W.length).map f).length ≤ 1000 := fun f => by rw [List.length_map, List.length_range]; exact hN
    have hln : bltD (Str.ofString "len") [.list ((List.range W.length).map fun k => .int (digA W k))] = some (.int W.length) := (len_l (hlr _)).trans (by rw [List.length_map, List.length_range])
    have hch : (t.cps.toList.map fun (c : Nat) => Dt.str ⟨#[c]⟩).length ≤ 1000 := by rw [List.length_map]; exact hl
    have hdl : (W.dropLast.map Dt.int).length ≤ 1000 := by rw [List.length_map, List.length_dropLast]; exact Nat.le_trans (Nat.sub_le _ _) hN
    exact exs_ret [.l (t.cps.toList.map fun (c : Nat) => .str ⟨#[c]⟩), .l (W.map .int), .d (.list (W.dropLast.map .int)), .l (W.dropLast.map fun v => .int (v + 64)), .d (.list ((W.drop (W.length - 1)).map .int)), .d (.list ((List.range W.length).map fun k => .int (digA W k))), .d (.int W.length), .d (.range W.length), .l ((List.range W.length).map fun (i : Nat) => .int (i : Int)), .l (digitsD W turn)]
      (fun z => ai (rfl : itemsD (.str t) = some (t.cps.toList.map fun (c : Nat) => .str ⟨#[c]⟩)) (ai hch (ai hgo (ai s1 (ai hdl (ai hgo2 (ai s2 (ai s3 (ai hln (ai (blt_range W.length hN) (ai (rng W.length hN) (ai (hlr fun (i : Nat) => .int (i : Int)) (ai hgo3 z))))))))))))) (by kernel_rfl)
end Mine
end
section
open PySem PySem.W PyProof.Rows
set_option maxRecDepth 100000
namespace Mine
variable {prog : Program} {w : World} {A : Around} {E : Value → Shared → Prop} {s : Shared} {env : Env}
theorem execs_app (env : Env) : ∀ (pre rest : List Stmt), execs (pre ++ rest) env = (execs pre env >>= fun f => match f with | .next => execs rest env | f => pure f)
  | [], rest => by
    rw [List.nil_append, PySem.execs_nil, pure_bind]
  | st :: pre, rest => by
    rw [List.cons_append, PySem.execs_cons, PySem.execs_cons, bind_assoc]
    congr 1
    funext f
    cases f with
    | next => exact execs_app env pre rest
    | cont => rw [pure_bind]
    | brk => rw [pure_bind]
    | ret v => rw [pure_bind]
theorem wpAny_execs_app {M : Model} {Q : Flow → Shared → Prop} {pre rest : List Stmt} (h : wpAny M A (execs pre env) (fun f s' => match f with | .next => wpAny M A (execs rest env) Q E s' | f => Q f s') E s) : wpAny M A (execs (pre ++ rest) env) Q E s := by
  rw [execs_app]
  refine wpAny_bind (wpAny_mono h (fun f s' h' => ?_) fun _ _ x => x)
  cases f with
  | next => exact h'
  | cont => exact wpAny_pure h'
  | brk => exact wpAny_pure h'
  | ret v => exact wpAny_pure h'
theorem fn_own {cf : Orc} {K : Frag} {m n : Nat} {a : Addr} {fd : FuncData} {body pre post : List Stmt} {x : Str} {px pl p : Pos} {names : List Str} {ds : List Dt} {d : Dt} {σ1 : Sg} {σ' : Addr → Sg} (B : Bn K) (CG' : CG K cf) (C : CF K prog w m cf) (FO : FnOk K a fd body names)
    (hbody : body = pre ++ (.Assign [.Name x px] (.List [] pl) p :: post)) (hx : canSet fd.scope.names x = true)
    (hpre : exs cf none n fd.scope.names (names.zip ds, []) pre = some (.next, σ1)) (hpost : ∀ a, exs cf (some a) n fd.scope.names (upd σ1.1 x (.opq (.ref a)), []) post = some (.ret d, σ' a))
    {X : List Addr} {pos : List Value} {kw : List (Str × Value)} {vals : List Value} (R : Rm A (m + 1)) (G : Gd K s.heap) (L : Live s.heap X) (hv : VL s.heap X ds vals) (hb : BindsTo s fd ⟨pos, kw⟩ (names.zip vals)) :
    wpAny (model prog w) A (call (.ref a) pos kw) (fun r s' => Keeps s s' ∧ V s'.heap X d r) E s := by
  refine fn_frame FO (fun env A E s X _ S P N G GW R => ?_) R G L hv hb
  rw [hbody]
  refine wpAny_execs_app (monoP ((ex_sound B CG' C n).2 _ _ pre _ _ env A E s X hpre S P N G GW R) fun f s₁ k₁ N₁ F₁ => ?_)
  have : f = .next := F₁
  subst this
  have G₁ := Gd.keepsW k₁ GW G
  refine wpAny_execs_cons ?_
  rw [exec_Assign_Name env x px (.List [] pl) p rfl]
  refine wpAny_bind (wpAny_standAt (wpAny_bind (PyProof.Rows.List_ (PySem.Calls.spliced_nil (wpAny_newList ?_ (by simp))))))
  refine wpAny_bind (wpAny_standAt (wpAny_bind (wpAny_bindName ?_)))
  generalize hI : s₁.heap.objs.size = I
  have hIn : s₁.heap.get? I = Option.none := fresh_none _ (by lia)
  have hp : (s₁.heap.push { cls := .type "list", data := .seq ([] : List Value).toArray }).get? I = some { cls := .type "list", data := .seq ([] : List Value).toArray } := hI ▸ Heap.get?_push_size _ rfl
  have x1 : Ext s₁.heap (s₁.heap.push { cls := .type "list", data := .seq ([] : List Value).toArray }) := fun b o e => Heap.get?_push_of_some _ e
  have hIX : I ∉ X := fun q => by
    obtain ⟨o, ho⟩ := N₁.env.live I q
    rw [hIn] at ho; cases ho
  have hIW : I ∉ Wr env none := fun q => hIX (P.sub _ q)
  have N₂ : StOk (s₁.heap.push { cls := .type "list", data := .seq ([] : List Value).toArray }) ([I] ++ X) env none σ1 := N₁.grow (fun b hb => by
    have e : b = I := by simpa using hb
    rw [e]; exact hIn) x1 fun b hb => by
      have e : b = I := by simpa using hb
      rw [e]; exact ⟨_, hp⟩
  have P₂ : Sep ([I] ++ X) env none := P.grow fun b hb => List.mem_append_right _ hb
  have P₃ : Sep ([I] ++ X) env (some I) := by
    refine ⟨fun b hb => ?_, P.cl, P.inj, fun a ha => ?_⟩
    · unfold Wr at hb
      rcases List.mem_cons.mp hb with q | q
      · rw [q]; exact P₂.sub _ (Wr.loc env none)
      · rcases List.mem_append.mp q with q | q
        · exact P₂.sub _ (.tail _ (List.mem_append_left _ q))
        · have e : b = I := by simpa using q
          rw [e]; simp
    · cases ha
      exact ⟨fun q => hIW (q ▸ Wr.loc env none), fun y c hc q => hIW (q ▸ Wr.cel hc)⟩
  refine mono2 (store_ok (s := { s₁ with heap := s₁.heap.push { cls := .type "list", data := .seq ([] : List Value).toArray } }) (d := .opq (.ref I)) hx S P₂ N₂ (by unfold V; rfl)) fun _ s₃ k₃ N₃ => ?_
  refine wpAny_pure ?_
  have hp₃ := k₃.out I _ hIW hp
  have N₄ : StOk s₃.heap ([I] ++ X) env (some I) (upd σ1.1 x (.opq (.ref I)), []) := ⟨N₃.env, fun a ha => by cases ha; exact ⟨[], ⟨_, hp₃⟩, .nil⟩⟩
  have G₃ : Gd K s₃.heap := Gd.keepsW k₃ GW (G₁.ext x1)
  have GW₃ : GdW K (Wr env (some I)) := by
    have gI : ∀ a o, s₁.heap.get? a = some o → a ≠ I := fun a o e q => by rw [q, hIn] at e; cases e
    have key : ∀ a o, s₁.heap.get? a = some o → a ∉ Wr env none → a ∉ Wr env (some I) := fun a o e n q => by
      unfold Wr at q n
      rcases List.mem_cons.mp q with q | q
      · exact n (by rw [q]; exact .head _)
      · rcases List.mem_append.mp q with q | q
        · exact n (.tail _ (List.mem_append_left _ q))
        · exact gI a o e (by simpa using q)
    exact ⟨fun a o e => key a o (G₁.kin a o e) (GW.k a o e), by obtain ⟨_, o, _, _, e, _⟩ := G₁.g; exact key _ o e GW.g, by obtain ⟨_, ⟨o, _, _, e, _⟩, _⟩ := G₁.b; exact key _ o e GW.b, by obtain ⟨_, ⟨o, _, _, e, _⟩, _⟩ := G₁.lim; exact key _ o e GW.c⟩
  refine wpAny_mono ((ex_sound B CG' C n).2 _ _ post _ _ env A E s₃ ([I] ++ X) (hpost I) S P₃ N₄ G₃ GW₃ R) (fun f s₄ q => ?_) fun _ _ x => x
  obtain ⟨k₄, _, v, rfl, hV⟩ := q
  refine ⟨?_, v, rfl, V.less (fun b hb => List.mem_append_right _ hb) hV⟩
  obtain ⟨h1, t1, rfl, e1, l1⟩ := k₁
  obtain ⟨h3, t3, rfl, e3, l3⟩ := k₃
  obtain ⟨h4, t4, rfl, e4, l4⟩ := k₄
  have wsub : ∀ b ∈ Wr env none, b ∈ Wr env (some I) := fun b hb => by
    unfold Wr at hb ⊢
    rcases List.mem_cons.mp hb with q | q
    · rw [q]; exact .head _
    · exact .tail _ (List.mem_append_left _ (by simpa using q))
  refine ⟨h4, t4, rfl, fun b o nb e => e4 b o (fun q => ?_) (e3 b o nb (x1 b o (e1 b o nb e))), fun b hb e => l4 b (wsub b hb) (l3 b hb (let ⟨o, z⟩ := l1 b hb e; ⟨o, x1 b o z⟩))⟩
  unfold Wr at q
  rcases List.mem_cons.mp q with q | q
  · exact nb (by rw [q]; exact .head _)
  · rcases List.mem_append.mp q with q | q
    · exact nb (.tail _ (List.mem_append_left _ q))
    · have z : b = I := by simpa using q
      have := e1 b o nb e
      rw [z] at this
      rw [show h1.get? I = Option.none from hIn] at this; cases this
theorem split2 {l : List Stmt} {st : Stmt} (h : l[2]? = some st) : l = l.take 2 ++ (st :: l.drop 3) := by
  obtain ⟨hl, he⟩ := List.getElem?_eq_some_iff.mp h
  rw [← he, ← List.drop_eq_getElem_cons hl, List.take_append_drop]
end Mine
end
section
open PySem PySem.W PyProof.Rows
set_option maxRecDepth 100000
set_option maxHeartbeats 4000000
namespace Mine
variable {prog : Program} {w : World}
theorem bitOr_nn (x y : Nat) : Builtin.bitOr (x : Int) (y : Int) = ((x ||| y : Nat) : Int) := by
  unfold Builtin.bitOr
  have h1 : ∀ z : Nat, ¬ 0 ≤ Builtin.bitNot (z : Int) := fun z => by unfold Builtin.bitNot; lia
  have h2 : ∀ z : Int, Builtin.bitNot (Builtin.bitNot z) = z := fun z => by unfold Builtin.bitNot; lia
  rw [bitAnd_nn (h1 x) (h1 y), h2, h2, h2]
  rfl
theorem bitOr_add (k x y : Nat) (h : y < 2 ^ k) : Builtin.bitOr ((x : Int) * 2 ^ k) (y : Int) = (x : Int) * 2 ^ k + y := by
  have e : ((x : Int) * 2 ^ k) = ((2 ^ k * x : Nat) : Int) := by rw [Int.natCast_mul, Int.mul_comm]; simp
  rw [e, bitOr_nn, ← Nat.two_pow_add_eq_or_of_lt h]
  simp
noncomputable def sgI (v : Int) : Int := ((b64.getD v.toNat 0).toNat : Int)
theorem b64_len : b64.length = 64 := by decide
theorem item_b64 {i : Int} (h : 0 ≤ i ∧ i < 64) : itemD (.bytes b64) (.int i) = some (.int (sgI i)) := by
  show (if 0 ≤ i ∧ i < b64.length ∧ b64.length ≤ 1000 then some (Dt.int ((b64.getD i.toNat 0).toNat : Int)) else none) = _
  rw [if_pos ⟨h.1, by rw [b64_len]; exact h.2, by rw [b64_len]; decide⟩]
  rfl
theorem mod_r (a : Int) {m : Int} (hm : 0 < m) : 0 ≤ a % m ∧ a % m < m := ⟨Int.emod_nonneg a (Int.ne_of_gt hm), Int.emod_lt_of_pos a hm⟩
theorem item_b64M (a : Int) : itemD (.bytes b64) (.int (a % 64)) = some (.int (sgI (a % 64))) := item_b64 (mod_r a (by decide))
theorem mod_k (a : Int) {m k : Int} (hm : 0 < m) (hk : 0 < k) : 0 ≤ a % m * k ∧ a % m * k < m * k := ⟨Int.mul_nonneg (mod_r a hm).1 (Int.le_of_lt hk), Int.mul_lt_mul_of_pos_right (mod_r a hm).2 hk⟩
theorem mod_a (a : Int) {m : Int} (hm : 0 < m) (hb : m ≤ 64) : (a % m).natAbs < 2 ^ 64 := by
  refine Nat.lt_trans (Int.ofNat_lt.mp ?_) (show 64 < 2 ^ 64 by decide)
  rw [Int.natAbs_of_nonneg (mod_r a hm).1]
  exact Int.lt_of_lt_of_le (mod_r a hm).2 hb
noncomputable def encStep (st : Nat × Int × List Int) (b : UInt8) : Nat × Int × List Int :=
  match st.1 with
  | 0 => (2, (st.2.1 * 256 + (b.toNat : Int)) % 65536, st.2.2 ++ [sgI ((st.2.1 * 256 + (b.toNat : Int)) % 65536 / 4 % 64)])
  | 2 => (4, (st.2.1 * 256 + (b.toNat : Int)) % 65536, st.2.2 ++ [sgI ((st.2.1 * 256 + (b.toNat : Int)) % 65536 / 16 % 64)])
  | _ => (0, (st.2.1 * 256 + (b.toNat : Int)) % 65536, st.2.2 ++ [sgI ((st.2.1 * 256 + (b.toNat : Int)) % 65536 / 64 % 64), sgI ((st.2.1 * 256 + (b.toNat : Int)) % 65536 % 64)])
noncomputable def encEnd (st : Nat × Int × List Int) : List Int := match st.1 with
  | 2 => st.2.2 ++ [sgI (st.2.1 % 4 * 16), 61, 61]
  | 4 => st.2.2 ++ [sgI (st.2.1 % 16 * 4), 61]
  | _ => st.2.2
noncomputable def encD (b : List UInt8) : List Int := encEnd (b.foldl encStep (0, 0, []))
structure EncOk (i : Nat) (st : Nat × Int × List Int) : Prop where
  lb : st.1 = 0 ∨ st.1 = 2 ∨ st.1 = 4
  lc : 0 ≤ st.2.1 ∧ st.2.1 < 65536
  len : st.2.2.length ≤ 2 * i
  all : ∀ n ∈ st.2.2, 0 ≤ n ∧ n < 256
theorem sgI_range (v : Int) : 0 ≤ sgI v ∧ sgI v < 256 := ⟨Int.natCast_nonneg _, Int.ofNat_lt.mpr (UInt8.toNat_lt _)⟩
theorem all1 {l : List Int} (v : Int) (hv : 0 ≤ v ∧ v < 256) (hl : ∀ n ∈ l, 0 ≤ n ∧ n < 256) : ∀ n ∈ l ++ [v], 0 ≤ n ∧ n < 256 := fun n hn => (List.mem_append.mp hn).elim (hl n) fun q => by rw [List.mem_singleton.mp q]; exact hv
theorem alld {l : List Int} (hl : ∀ n ∈ l, 0 ≤ n ∧ n < 256) : l.all (fun n => decide (0 ≤ n ∧ n < 256)) = true := List.all_eq_true.mpr fun n hn => decide_eq_true (hl n hn)
theorem EncOk.step {i : Nat} {st : Nat × Int × List Int} (h : EncOk i st) (b : UInt8) : EncOk (i + 1) (encStep st b) := by
  obtain ⟨lb, lc, l⟩ := st
  obtain ⟨h1, h2, h3, h4⟩ := h
  have m := mod_r (lc * 256 + (b.toNat : Int)) (m := 65536) (by decide)
  rcases h1 with h1 | h1 | h1 <;> cases h1
  · exact ⟨.inr (.inl rfl), m, Nat.le_succ_of_le (len1 _ h3), all1 _ (sgI_range _) h4⟩
  · exact ⟨.inr (.inr rfl), m, Nat.le_succ_of_le (len1 _ h3), all1 _ (sgI_range _) h4⟩
  · refine ⟨.inl rfl, m, ?_, ?_⟩
    · show (l ++ ([_] ++ [_])).length ≤ _
      rw [← List.append_assoc]
      exact len1 _ (len1 _ h3)
    · show ∀ n ∈ l ++ ([_] ++ [_]), _
      rw [← List.append_assoc]
      exact all1 _ (sgI_range _) (all1 _ (sgI_range _) h4)
theorem enc_fold (b : List UInt8) (i : Nat) (c : UInt8) (h : b[i]? = some c) (st : Nat × Int × List Int) : (b.take (i + 1)).foldl encStep st = encStep ((b.take i).foldl encStep st) c := by
  obtain ⟨hl, he⟩ := List.getElem?_eq_some_iff.mp h
  rw [List.take_succ_eq_append_getElem hl, List.foldl_append, he]
  rfl
theorem EncOk.take (b : List UInt8) : ∀ i, i ≤ b.length → EncOk i ((b.take i).foldl encStep (0, 0, []))
  | 0, _ => ⟨.inl rfl, ⟨Int.le_refl _, by show (0 : Int) < 65536; decide⟩, Nat.le_refl _, List.forall_mem_nil _⟩
  | i + 1, h => by
    have hi : i < b.length := h
    rw [enc_fold b i b[i] (List.getElem?_eq_getElem hi)]
    exact (EncOk.take b i (Nat.le_of_lt hi)).step _
noncomputable def gB2a : List Dt → List (Str × Dt) → Option Dt := gkF (Str.ofString "newline") (on1 (oB fun b => if b.length ≤ 100 then some (.bytes ((encD b).map fun n => n.toNat.toUInt8)) else none))
noncomputable def cf2 : Orc := ((cf0.or (Str.ofString "_buffer") gBuf).or (Str.ofString "_truth") gTruth)
theorem cf2_f (P : Params) : CF (Kx P) prog w 1 cf2 := CF.or (Nat.le_refl _) (CF.or (Nat.zero_le _) (cf0_f (m := 0)) (c_buffer P)) (c_truth P)
theorem cf2_g (P : Params) : CG (Kx P) cf2 := cf0_g P
noncomputable def encSt (b : List UInt8) (a : Addr) (st : Nat × Int × List Int) (tl : List (Str × Dt)) : Sg :=
  ([(Str.ofString "data", .bytes b), (Str.ofString "newline", .bool false), (Str.ofString "bin_data", .bytes b), (Str.ofString "out", .opq (.ref a)), (Str.ofString "leftbits", .int (st.1 : Int)), (Str.ofString "leftchar", .int st.2.1)] ++ tl, st.2.2)
theorem b2a_loop (P : Params) (b : List UInt8) (hb : b.length ≤ 100) (a : Addr) : ∃ σ', exs cf2 (some a) 30 (fdAt (Kx P) 93).scope.names ((upd [(Str.ofString "data", .bytes b), (Str.ofString "newline", .bool false), (Str.ofString "bin_data", .bytes b)] (Str.ofString "out") (.opq (.ref a))), []) ((bodyAt (Kx P) 93).drop 3) = some (.ret (.bytes ((encD b).map fun n => n.toNat.toUInt8)), σ') := by
  have hstep : ∀ (i : Nat) (c : UInt8) (lb : Nat) (lc : Int) (l : List Int) (tl : List (Str × Dt)), (tl = [] ∨ ∃ o, tl = [(Str.ofString "b", .int o)]) → EncOk i (lb, lc, l) → i < 100 → forF cf2 (some a) 26 (fdAt (Kx P) 93).scope.names (Str.ofString "b") (forB (stAt (Kx P) 93 5)) (.int c.toNat) (encSt b a (lb, lc, l) tl) = some (.next, encSt b a (encStep (lb, lc, l) c) [(Str.ofString "b", .int c.toNat)]) := by
    intro i c lb lc l tl htl ok hi
    obtain ⟨h1, h2, h3, h4⟩ := ok
    simp only at h1 h2 h3 h4
    obtain ⟨lcn, rfl⟩ : ∃ n : Nat, lc = (n : Int) := ⟨lc.toNat, (Int.toNat_of_nonneg h2.1).symm⟩
    have hor : Builtin.bitOr ((lcn : Int) * 256) (c.toNat : Int) = (lcn : Int) * 256 + (c.toNat : Int) := bitOr_add 8 lcn c.toNat c.toNat_lt
    have hlen : l.length ≤ 999 := Nat.le_trans h3 (Nat.le_trans (Nat.mul_le_mul_left 2 (Nat.le_of_lt hi)) (by decide))
    have f1 := bls lcn 8 256 rfl (Nat.lt_trans (Int.ofNat_lt.mp h2.2) (by decide))
    have f2 : binD .BitOr (.int ((lcn : Int) * 256)) (.int c.toNat) = some (.int ((lcn : Int) * 256 + (c.toNat : Int))) := congrArg (fun z => some (Dt.int z)) hor
    have f3 : binD .BitAnd (.int ((lcn : Int) * 256 + (c.toNat : Int))) (.int 65535) = some (.int (((lcn : Int) * 256 + (c.toNat : Int)) % 65536)) := congrArg (fun z => some (Dt.int z)) (bitAnd_m16 _)
    have eu : (upd (encSt b a (lb, ↑lcn, l) tl).1 (Str.ofString "b") (.int c.toNat), (encSt b a (lb, ↑lcn, l) tl).2) = encSt b a (lb, ↑lcn, l) [(Str.ofString "b", .int c.toNat)] := by rcases htl with rfl | ⟨o, rfl⟩ <;> kernel_rfl
    show exs cf2 (some a) 26 _ (upd (encSt b a (lb, ↑lcn, l) tl).1 (Str.ofString "b") (.int c.toNat), (encSt b a (lb, ↑lcn, l) tl).2) _ = _
    rw [eu]
    unfold encStep
    generalize ((lcn : Int) * 256 + (c.toNat : Int)) % 65536 = v at f3 ⊢
    have m6 : ∀ x : Int, binD .BitAnd (.int x) (.int 63) = some (.int (x % 64)) := fun x => congrArg (fun z => some (Dt.int z)) (bitAnd_m6 x)
    rcases h1 with rfl | rfl | rfl
    · exact exs_by [.d (.int ((lcn : Int) * 256)), .d (.int ((lcn : Int) * 256 + (c.toNat : Int))), .d (.int v), .b true, .d (.int (v / 4)), .d (.int (v / 4 % 64)), .d (.int (sgI (v / 4 % 64))), .b false]
        (fun z => ai f1 (ai f2 (ai f3 (ai (bb true) (ai (rfl : a = a) (ai (Nat.le_succ_of_le hlen) (ai (brs v 2 4 rfl) (ai (m6 (v / 4)) (ai (item_b64M (v / 4)) (ai (bb false) z)))))))))) (by kernel_rfl)
    · exact exs_by [.d (.int ((lcn : Int) * 256)), .d (.int ((lcn : Int) * 256 + (c.toNat : Int))), .d (.int v), .b true, .d (.int (v / 16)), .d (.int (v / 16 % 64)), .d (.int (sgI (v / 16 % 64))), .b false]
        (fun z => ai f1 (ai f2 (ai f3 (ai (bb true) (ai (rfl : a = a) (ai (Nat.le_succ_of_le hlen) (ai (brs v 4 16 rfl) (ai (m6 (v / 16)) (ai (item_b64M (v / 16)) (ai (bb false) z)))))))))) (by kernel_rfl)
    · show _ = some (Fl.next, encSt b a (0, v, l ++ ([sgI (v / 64 % 64)] ++ [sgI (v % 64)])) _)
      rw [← List.append_assoc]
      exact exs_by [.d (.int ((lcn : Int) * 256)), .d (.int ((lcn : Int) * 256 + (c.toNat : Int))), .d (.int v), .b true, .d (.int (v / 64)), .d (.int (v / 64 % 64)), .d (.int (sgI (v / 64 % 64))), .b true, .d (.int v), .d (.int (v % 64)), .d (.int (sgI (v % 64))), .b false]
        (fun z => ai f1 (ai f2 (ai f3 (ai (bb true) (ai (rfl : a = a) (ai (Nat.le_succ_of_le hlen) (ai (brs v 6 64 rfl) (ai (m6 (v / 64)) (ai (item_b64M (v / 64)) (ai (bb true) (ai (rfl : a = a) (ai (len1 (sgI (v / 64 % 64)) hlen) (ai (brs0 v) (ai (m6 v) (ai (item_b64M v) (ai (bb false) z)))))))))))))))) (by kernel_rfl)
  obtain ⟨σ', e, tl, htl, rfl⟩ := forGo_inv (f := forF cf2 (some a) 26 (fdAt (Kx P) 93).scope.names (Str.ofString "b") (forB (stAt (Kx P) 93 5))) (items := List.map (fun c : UInt8 => Dt.int (c.toNat : Int)) b) (σ := encSt b a (0, 0, []) []) (fun i σ => ∃ tl, (tl = [] ∨ ∃ o, tl = [(Str.ofString "b", .int o)]) ∧ σ = encSt b a ((b.take i).foldl encStep (0, 0, [])) tl) ⟨[], .inl rfl, rfl⟩ (by
    rintro i d σ hi ⟨tl, htl, rfl⟩
    rw [List.getElem?_map] at hi
    obtain ⟨c, hc, rfl⟩ := Option.map_eq_some_iff.mp hi
    have hil : i < b.length := (List.getElem?_eq_some_iff.mp hc).1
    refine ⟨_, .inl (hstep i c _ _ _ tl htl (EncOk.take b i (Nat.le_of_lt hil)) (Nat.lt_of_lt_of_le hil hb)), [(Str.ofString "b", .int c.toNat)], .inr ⟨_, rfl⟩, ?_⟩
    rw [enc_fold b i c hc])
  rw [List.length_map, List.take_length] at e
  clear hstep htl
  have ok := EncOk.take b b.length (Nat.le_refl _)
  rw [List.take_length] at ok
  unfold encD
  generalize b.foldl encStep (0, 0, []) = st at e ok ⊢
  obtain ⟨lb, lc, l⟩ := st
  obtain ⟨h1, h2, h3, h4⟩ := ok
  simp only at h1 h2 h3 h4
  have hlen : l.length ≤ 997 := Nat.le_trans h3 (Nat.le_trans (Nat.mul_le_mul_left 2 hb) (by decide))
  rcases h1 with rfl | rfl | rfl
  · exact exs_ret [.r .next (encSt b a (0, lc, l) tl), .b false, .b false, .b false]
      (fun z => ai e (ai (bb false) (ai (bb false) (ai (bb false) (ai (rfl : a = a) (ai (Nat.le_trans hlen (by decide) : l.length ≤ 1000) (ai (alld h4) z))))))) (by kernel_rfl)
  · have m2 : binD .BitAnd (.int lc) (.int 3) = some (.int (lc % 4)) := congrArg (fun z => some (Dt.int z)) (bitAnd_m2 lc)
    have i1 : itemD (.bytes b64) (.int (lc % 4 * 16)) = some (.int (sgI (lc % 4 * 16))) := item_b64 (mod_k lc (m := 4) (k := 16) (by decide) (by decide))
    rw [show encEnd (2, lc, l) = l ++ [sgI (lc % 4 * 16)] ++ [61] ++ [61] by rw [List.append_assoc, List.append_assoc]; rfl]
    exact exs_ret [.r .next (encSt b a (2, lc, l) tl), .b true, .d (.int (lc % 4)), .d (.int (lc % 4 * 16)), .d (.int (sgI (lc % 4 * 16))), .b false]
      (fun z => ai e (ai (bb true) (ai (rfl : a = a) (ai (Nat.le_trans hlen (by decide) : l.length ≤ 1000) (ai m2 (ai (bls (lc % 4) 4 16 rfl (mod_a lc (by decide) (by decide))) (ai i1 (ai (rfl : a = a) (ai (Nat.le_trans (len1 (sgI (lc % 4 * 16)) hlen) (by decide) : (l ++ [sgI (lc % 4 * 16)]).length ≤ 1000) (ai (rfl : a = a)
        (ai (Nat.le_trans (len1 61 (len1 (sgI (lc % 4 * 16)) hlen)) (by decide) : (l ++ [sgI (lc % 4 * 16)] ++ [61]).length ≤ 1000) (ai (bb false) (ai (rfl : a = a) (ai (len1 61 (len1 61 (len1 (sgI (lc % 4 * 16)) hlen)))
        (ai (alld (all1 61 (by decide) (all1 61 (by decide) (all1 (sgI (lc % 4 * 16)) (sgI_range _) h4)))) z))))))))))))))) (by kernel_rfl)
  · have m4 : binD .BitAnd (.int lc) (.int 15) = some (.int (lc % 16)) := congrArg (fun z => some (Dt.int z)) (bitAnd_m4 lc)
    have i2 : itemD (.bytes b64) (.int (lc % 16 * 4)) = some (.int (sgI (lc % 16 * 4))) := item_b64 (mod_k lc (m := 16) (k := 4) (by decide) (by decide))
    rw [show encEnd (4, lc, l) = l ++ [sgI (lc % 16 * 4)] ++ [61] by rw [List.append_assoc]; rfl]
    exact exs_ret [.r .next (encSt b a (4, lc, l) tl), .b false, .b true, .d (.int (lc % 16)), .d (.int (lc % 16 * 4)), .d (.int (sgI (lc % 16 * 4))), .b false]
      (fun z => ai e (ai (bb false) (ai (bb true) (ai (rfl : a = a) (ai (Nat.le_trans hlen (by decide) : l.length ≤ 1000) (ai m4 (ai (bls (lc % 16) 2 4 rfl (mod_a lc (by decide) (by decide))) (ai i2 (ai (rfl : a = a) (ai (Nat.le_trans (len1 (sgI (lc % 16 * 4)) hlen) (by decide) : (l ++ [sgI (lc % 16 * 4)]).length ≤ 1000) (ai (bb false) (ai (rfl : a = a)
        (ai (Nat.le_trans (len1 61 (len1 (sgI (lc % 16 * 4)) hlen)) (by decide) : (l ++ [sgI (lc % 16 * 4)] ++ [61]).length ≤ 1000)
        (ai (alld (all1 61 (by decide) (all1 (sgI (lc % 16 * 4)) (sgI_range _) h4))) z)))))))))))))) (by kernel_rfl)
theorem c_b2a (P : Params) : FnC (Kx P) prog w 2 (Str.ofString "b2a_base64") gB2a := by
  refine ⟨.ref 93, by kernel_rfl, (FnOk.of (names := [Str.ofString "data", Str.ofString "newline"]) (by kernel_rfl) : FnOk (Kx P) 93 _ _ _).fnv, fun ds ks d h A E s X vs kvs R G L hv hk => ?_⟩
  obtain ⟨rfl, h⟩ := gkF_x h
  obtain ⟨_, rfl, h⟩ := on1_x h
  obtain ⟨b, rfl, h⟩ := oB_x h
  obtain ⟨hc, h⟩ := ite_x h
  obtain rfl := Option.some.inj h
  have hlb := hc
  obtain ⟨v, rfl, hv1⟩ := hv.one
  obtain ⟨u, rfl, hu1⟩ := VL.one (d := .bool false) hk
  have FO : FnOk (Kx P) 93 (fdAt (Kx P) 93) (bodyAt (Kx P) 93) [Str.ofString "data", Str.ofString "newline"] := FnOk.of (by kernel_rfl)
  have hsp := split2 (show (bodyAt (Kx P) 93)[2]? = some (.Assign [.Name (Str.ofString "out") ⟨123, 4, 123, 7⟩] (.List [] ⟨123, 10, 123, 12⟩) ⟨123, 4, 123, 12⟩) by kernel_rfl)
  have hcs : canSet (fdAt (Kx P) 93).scope.names (Str.ofString "out") = true := by kernel_rfl
  have hpre : exs cf2 none 30 (fdAt (Kx P) 93).scope.names ([Str.ofString "data", Str.ofString "newline"].zip [.bytes b, .bool false], []) ((bodyAt (Kx P) 93).take 2) = some (.next, ([(Str.ofString "data", .bytes b), (Str.ofString "newline", .bool false), (Str.ofString "bin_data", .bytes b)], [])) := by
    exact exs_by [.d (.bytes b), .d (.bool false)] (fun z => ai (dd (.bytes b)) (ai (dd (.bool false)) z)) (by kernel_rfl)
  obtain ⟨σ', hpost⟩ := Classical.axiomOfChoice (b2a_loop P b hlb)
  have hbd : ∀ S, peek (Kx P) S (bindArgs (fdAt (Kx P) 93) ⟨[v], [(Str.ofString "newline", u)]⟩) = some ([Str.ofString "data", Str.ofString "newline"].zip [v, u]) := fun S => by kernel_rfl
  generalize fdAt (Kx P) 93 = fd at FO hcs hpre hpost hbd
  generalize bodyAt (Kx P) 93 = body at FO hsp hpre hpost
  exact fn_own (Bn_x P) (cf2_g P) (cf2_f P) FO hsp hcs hpre hpost R G L (by unfold VL; exact ⟨v, _, rfl, hv1, hk⟩) (kp_binds G.kin hbd)
end Mine
end
section
open PySem PySem.W PyProof.Rows
set_option genInjectivity false
set_option genSizeOfSpec false
set_option maxRecDepth 100000
set_option maxHeartbeats 4000000
namespace Mine
variable {prog : Program} {w : World}
structure DS where
  qp : Nat
  lc : Int
  pads : Int
  i : Int
  out : List Int
noncomputable def decStep (st : DS) (c : UInt8) : DS :=
  if c.toNat = 61 then { st with pads := st.pads + 1, i := st.i + 1 } else
  match st.qp with
  | 0 => ⟨1, valD c.toNat, 0, st.i + 1, st.out⟩
  | 1 => ⟨2, valD c.toNat % 16, 0, st.i + 1, st.out ++ [st.lc * 4 + valD c.toNat / 16]⟩
  | 2 => ⟨3, valD c.toNat % 4, 0, st.i + 1, st.out ++ [st.lc * 16 + valD c.toNat / 4]⟩
  | _ => ⟨0, 0, 0, st.i + 1, st.out ++ [st.lc * 64 + valD c.toNat]⟩
noncomputable def decD (b : List UInt8) : DS := b.foldl decStep ⟨0, 0, 0, 0, []⟩
structure DecOk (i : Nat) (st : DS) : Prop where
  qp : (st.qp = 0 ∧ st.lc < 64) ∨ (st.qp = 1 ∧ st.lc < 64) ∨ (st.qp = 2 ∧ st.lc < 16) ∨ (st.qp = 3 ∧ st.lc < 4)
  lc : 0 ≤ st.lc
  len : st.out.length ≤ i
  all : ∀ n ∈ st.out, 0 ≤ n ∧ n < 256
theorem ite_nn {c : Prop} [Decidable c] {a b : Int} (ha : c → 0 ≤ a) (hb : 0 ≤ b) : 0 ≤ if c then a else b := by
  split
  · exact ha ‹_›
  · exact hb
theorem valD_nn (c : Nat) : 0 ≤ valD (c : Int) :=
  ite_nn (fun h => Int.sub_nonneg_of_le h.1) (ite_nn (fun h => Int.sub_nonneg_of_le (Int.le_trans (by decide) h.1)) (ite_nn (fun _ => Int.natCast_nonneg (c + 4)) (ite_nn (fun _ => by decide) (ite_nn (fun _ => by decide) (by decide)))))
theorem byte {a k m r : Int} (e : m * k = 256) (h0 : 0 ≤ a) (h1 : a < m) (r0 : 0 ≤ r) (r1 : r < k) : 0 ≤ a * k + r ∧ a * k + r < 256 := by
  refine ⟨Int.add_nonneg (Int.mul_nonneg h0 (Int.le_of_lt (Int.lt_of_le_of_lt r0 r1))) r0, Int.lt_of_lt_of_le (Int.add_lt_add_left r1 _) ?_⟩
  have := Int.mul_le_mul_of_nonneg_right (Int.add_one_le_of_lt h1) (Int.le_of_lt (Int.lt_of_le_of_lt r0 r1))
  rw [Int.add_mul, Int.one_mul, e] at this
  exact this
theorem DecOk.step {i : Nat} {st : DS} (h : DecOk i st) (c : UInt8) (hc : c.toNat = 61 ∨ valD (c.toNat : Int) < 64) : DecOk (i + 1) (decStep st c) := by
  obtain ⟨qp, lc, pads, j, out⟩ := st
  obtain ⟨h1, h2, h3, h4⟩ := h
  unfold decStep
  by_cases hn : c.toNat = 61
  · rw [if_pos hn]
    exact ⟨h1, h2, Nat.le_succ_of_le h3, h4⟩
  · rw [if_neg hn]
    have hv := hc.resolve_left hn
    have hv0 := valD_nn c.toNat
    generalize valD (c.toNat : Int) = v at hv hv0 ⊢
    rcases h1 with ⟨q, hl⟩ | ⟨q, hl⟩ | ⟨q, hl⟩ | ⟨q, hl⟩ <;> cases q
    · exact ⟨.inr (.inl ⟨rfl, hv⟩), hv0, Nat.le_succ_of_le h3, h4⟩
    · exact ⟨.inr (.inr (.inl ⟨rfl, (mod_r v (by decide)).2⟩)), (mod_r v (by decide)).1, len1 _ h3, all1 _ (byte (m := 64) rfl h2 hl (Int.ediv_nonneg hv0 (by decide)) (Int.ediv_lt_of_lt_mul (by decide) hv)) h4⟩
    · exact ⟨.inr (.inr (.inr ⟨rfl, (mod_r v (by decide)).2⟩)), (mod_r v (by decide)).1, len1 _ h3, all1 _ (byte (m := 16) rfl h2 hl (Int.ediv_nonneg hv0 (by decide)) (Int.ediv_lt_of_lt_mul (by decide) hv)) h4⟩
    · exact ⟨.inl ⟨rfl, by show (0 : Int) < 64; decide⟩, Int.le_refl 0, len1 _ h3, all1 _ (byte (m := 4) rfl h2 hl hv0 hv) h4⟩
theorem DecOk.l64 {i : Nat} {st : DS} (h : DecOk i st) : st.lc < 64 := h.qp.elim (·.2) (·.elim (·.2) (·.elim (fun q => Int.lt_trans q.2 (by decide)) fun q => Int.lt_trans q.2 (by decide)))
theorem dec_fold (b : List UInt8) (i : Nat) (c : UInt8) (h : b[i]? = some c) (st : DS) : (b.take (i + 1)).foldl decStep st = decStep ((b.take i).foldl decStep st) c := by
  obtain ⟨hl, he⟩ := List.getElem?_eq_some_iff.mp h
  rw [List.take_succ_eq_append_getElem hl, List.foldl_append, he]
  rfl
noncomputable def signOk (c : UInt8) : Bool := decide (c.toNat = 61) || decide (valD (c.toNat : Int) < 64)
theorem signOk_iff {c : UInt8} (h : signOk c = true) : c.toNat = 61 ∨ valD (c.toNat : Int) < 64 := by
  unfold signOk at h
  simpa using h
theorem DecOk.take (b : List UInt8) (hb : b.all signOk = true) : ∀ i, i ≤ b.length → DecOk i ((b.take i).foldl decStep ⟨0, 0, 0, 0, []⟩)
  | 0, _ => ⟨.inl ⟨rfl, by show (0 : Int) < 64; decide⟩, Int.le_refl _, Nat.le_refl _, List.forall_mem_nil _⟩
  | i + 1, h => by
    have hi : i < b.length := h
    rw [dec_fold b i b[i] (List.getElem?_eq_getElem hi)]
    exact (DecOk.take b hb i (Nat.le_of_lt hi)).step _ (signOk_iff (List.all_eq_true.mp hb _ (List.getElem_mem hi)))
noncomputable def gA2b : List Dt → List (Str × Dt) → Option Dt := gkF (Str.ofString "strict_mode") (on1 (oB fun b => if b.length ≤ 100 ∧ b.all signOk = true ∧ (decD b).qp ≠ 1 ∧ ((decD b).qp = 0 ∨ 4 ≤ ((decD b).qp : Int) + (decD b).pads) then some (.bytes ((decD b).out.map fun n => n.toNat.toUInt8)) else none))
noncomputable def cf3 : Orc := (((cf0.or (Str.ofString "_ascii_buffer") gBuf).or (Str.ofString "_truth") gTruth).or (Str.ofString "_b64_value") gVal)
theorem cf3_f (P : Params) : CF (Kx P) prog w 1 cf3 := CF.or (Nat.le_refl _) (CF.or (Nat.le_refl _) (CF.or (Nat.zero_le _) (cf0_f (m := 0)) (c_ascii P)) (c_truth P)) (c_val P)
theorem cf3_g (P : Params) : CG (Kx P) cf3 := cf0_g P
noncomputable def decSt (b : List UInt8) (a : Addr) (st : DS) (tl : List (Str × Dt)) : Sg :=
  ([(Str.ofString "data", .bytes b), (Str.ofString "strict_mode", .bool false), (Str.ofString "ascii_data", .bytes b), (Str.ofString "out", .opq (.ref a)), (Str.ofString "quad_pos", .int (st.qp : Int)), (Str.ofString "leftchar", .int st.lc), (Str.ofString "pads", .int st.pads), (Str.ofString "i", .int st.i)] ++ tl, st.out)
theorem a2b_loop (P : Params) (b : List UInt8) (hb : b.length ≤ 100) (hs : b.all signOk = true) (hq : (decD b).qp ≠ 1) (hq2 : (decD b).qp = 0 ∨ 4 ≤ ((decD b).qp : Int) + (decD b).pads) (a : Addr) :
    ∃ σ', exs cf3 (some a) 30 (fdAt (Kx P) 85).scope.names ((upd [(Str.ofString "data", .bytes b), (Str.ofString "strict_mode", .bool false), (Str.ofString "ascii_data", .bytes b)] (Str.ofString "out") (.opq (.ref a))), []) ((bodyAt (Kx P) 85).drop 3) = some (.ret (.bytes ((decD b).out.map fun n => n.toNat.toUInt8)), σ') := by
  have hstep : ∀ (i : Nat) (c : UInt8) (st : DS) (tl : List (Str × Dt)), (tl = [] ∨ ∃ o, tl = [(Str.ofString "this_ch", .int o)]) → DecOk i st → i < 100 → (c.toNat = 61 ∨ valD (c.toNat : Int) < 64) → ∃ o, (forF cf3 (some a) 24 (fdAt (Kx P) 85).scope.names (Str.ofString "this_ch") (forB (stAt (Kx P) 85 7))) (.int c.toNat) (decSt b a st tl) = some (.next, decSt b a (decStep st c) [(Str.ofString "this_ch", .int o)]) ∨ (forF cf3 (some a) 24 (fdAt (Kx P) 85).scope.names (Str.ofString "this_ch") (forB (stAt (Kx P) 85 7))) (.int c.toNat) (decSt b a st tl) = some (.cont, decSt b a (decStep st c) [(Str.ofString "this_ch", .int o)]) := by
    intro i c st tl htl ok hi hc
    have eu : (upd (decSt b a st tl).1 (Str.ofString "this_ch") (.int c.toNat), (decSt b a st tl).2) = decSt b a st [(Str.ofString "this_ch", .int c.toNat)] := by rcases htl with rfl | ⟨o, rfl⟩ <;> kernel_rfl
    have ef : (forF cf3 (some a) 24 (fdAt (Kx P) 85).scope.names (Str.ofString "this_ch") (forB (stAt (Kx P) 85 7))) (.int c.toNat) (decSt b a st tl) = exs cf3 (some a) 24 (fdAt (Kx P) 85).scope.names (decSt b a st [(Str.ofString "this_ch", .int c.toNat)]) (forB (stAt (Kx P) 85 7)) := congrArg (fun σ => exs cf3 (some a) 24 (fdAt (Kx P) 85).scope.names σ (forB (stAt (Kx P) 85 7))) eu
    rw [ef]
    clear eu ef htl
    obtain ⟨qp, lc, pads, j, l⟩ := st
    have h64 := ok.l64
    obtain ⟨h1, h2, h3, h4⟩ := ok
    simp only at h1 h2 h3 h64
    clear h4
    by_cases h61 : c.toNat = 61
    · refine ⟨61, .inr ?_⟩
      have e61 : ((c.toNat : Nat) : Int) = 61 := congrArg Int.ofNat h61
      rw [e61, show decStep ⟨qp, lc, pads, j, l⟩ c = ⟨qp, lc, pads + 1, j + 1, l⟩ from if_pos h61]
      clear e61 h61 hc
      rcases h1 with ⟨rfl, hl⟩ | ⟨rfl, hl⟩ | ⟨rfl, hl⟩ | ⟨rfl, hl⟩
      · exact exs_by [.b true, .b false, .b false] (fun z => ai (bb true) (ai (bb false) (ai (bb false) z))) (by kernel_rfl)
      · exact exs_by [.b true, .b false, .b false] (fun z => ai (bb true) (ai (bb false) (ai (bb false) z))) (by kernel_rfl)
      · by_cases hz : 2 + (pads + 1) ≤ 4
        · exact exs_by [.b true, .b true, .b true] (fun z => ai (bb true) (ai (bb true) (ai (cle hz) z))) (by kernel_rfl)
        · exact exs_by [.b true, .b true, .b false, .b false] (fun z => ai (bb true) (ai (bb true) (ai (cnle hz) (ai (bb false) z)))) (by kernel_rfl)
      · by_cases hz : 3 + (pads + 1) ≤ 4
        · exact exs_by [.b true, .b true, .b true] (fun z => ai (bb true) (ai (bb true) (ai (cle hz) z))) (by kernel_rfl)
        · exact exs_by [.b true, .b true, .b false, .b false] (fun z => ai (bb true) (ai (bb true) (ai (cnle hz) (ai (bb false) z)))) (by kernel_rfl)
    · have hv := hc.resolve_left h61
      have hv0 := valD_nn c.toNat
      refine ⟨valD c.toNat, .inl ?_⟩
      have hn61 : (c.toNat : Int) ≠ 61 := fun q => h61 (Int.ofNat.inj q)
      unfold decStep
      rw [if_neg h61]
      clear h61 hc
      obtain ⟨v, hve⟩ : ∃ n : Nat, valD (c.toNat : Int) = (n : Int) := ⟨(valD (c.toNat : Int)).toNat, (Int.toNat_of_nonneg hv0).symm⟩
      have hcal : cf3.fn (Str.ofString "_b64_value") [.int (c.toNat : Int)] [] = some (.int (v : Int)) := (show cf3.fn (Str.ofString "_b64_value") [.int (c.toNat : Int)] [] = some (.int (valD (c.toNat : Int))) by kernel_rfl).trans (by rw [hve])
      rw [hve] at hv ⊢
      clear hve hv0
      obtain ⟨lcn, rfl⟩ : ∃ n : Nat, lc = (n : Int) := ⟨lc.toNat, (Int.toNat_of_nonneg h2).symm⟩
      have hlen : l.length ≤ 1000 := Nat.le_trans h3 (Nat.le_trans (Nat.le_of_lt hi) (by decide))
      have hv64 : ¬ (64 : Int) ≤ (v : Int) := Int.not_le.mpr hv
      have hn : ((lcn : Int)).natAbs < 2 ^ 64 := Nat.lt_trans (Int.ofNat_lt.mp h64) (by decide)
      have o2 : binD .BitOr (.int ((lcn : Int) * 4)) (.int ((v : Int) / 16)) = some (.int ((lcn : Int) * 4 + (v : Int) / 16)) := congrArg (fun z => some (Dt.int z)) (bitOr_add 2 lcn (v / 16) (Nat.div_lt_of_lt_mul (Int.ofNat_lt.mp hv)))
      have o4 : binD .BitOr (.int ((lcn : Int) * 16)) (.int ((v : Int) / 4)) = some (.int ((lcn : Int) * 16 + (v : Int) / 4)) := congrArg (fun z => some (Dt.int z)) (bitOr_add 4 lcn (v / 4) (Nat.div_lt_of_lt_mul (Int.ofNat_lt.mp hv)))
      have o6 : binD .BitOr (.int ((lcn : Int) * 64)) (.int (v : Int)) = some (.int ((lcn : Int) * 64 + (v : Int))) := congrArg (fun z => some (Dt.int z)) (bitOr_add 6 lcn v (Int.ofNat_lt.mp hv))
      have m4 : binD .BitAnd (.int (v : Int)) (.int 15) = some (.int ((v : Int) % 16)) := congrArg (fun z => some (Dt.int z)) (bitAnd_m4 v)
      have m2 : binD .BitAnd (.int (v : Int)) (.int 3) = some (.int ((v : Int) % 4)) := congrArg (fun z => some (Dt.int z)) (bitAnd_m2 v)
      clear hi h3 hv h64
      rcases h1 with ⟨rfl, hl⟩ | ⟨rfl, hl⟩ | ⟨rfl, hl⟩ | ⟨rfl, hl⟩ <;> clear hl <;> cases hp0 : (pads != 0)
      · exact exs_by [.b false, .d (.int (v : Int)), .b false, .b false, .b true] (fun z => ai (cneq hn61) (ai hcal (ai (cnge hv64) (ai (trI pads hp0) (ai (bb true) z))))) (by kernel_rfl)
      · exact exs_by [.b false, .d (.int (v : Int)), .b false, .b true, .b false, .b true] (fun z => ai (cneq hn61) (ai hcal (ai (cnge hv64) (ai (trI pads hp0) (ai (bb false) (ai (bb true) z)))))) (by kernel_rfl)
      · exact exs_by [.b false, .d (.int (v : Int)), .b false, .b false, .b false, .b true, .d (.int ((lcn : Int) * 4)), .d (.int ((v : Int) / 16)), .d (.int ((lcn : Int) * 4 + (v : Int) / 16)), .d (.int ((v : Int) % 16))] (fun z => ai (cneq hn61) (ai hcal (ai (cnge hv64) (ai (trI pads hp0) (ai (bb false) (ai (bb true) (ai (rfl : a = a) (ai hlen (ai (bls lcn 2 4 rfl hn) (ai (brs v 4 16 rfl) (ai o2 (ai m4 z)))))))))))) (by kernel_rfl)
      · exact exs_by [.b false, .d (.int (v : Int)), .b false, .b true, .b false, .b false, .b true, .d (.int ((lcn : Int) * 4)), .d (.int ((v : Int) / 16)), .d (.int ((lcn : Int) * 4 + (v : Int) / 16)), .d (.int ((v : Int) % 16))] (fun z => ai (cneq hn61) (ai hcal (ai (cnge hv64) (ai (trI pads hp0) (ai (bb false) (ai (bb false) (ai (bb true) (ai (rfl : a = a) (ai hlen (ai (bls lcn 2 4 rfl hn) (ai (brs v 4 16 rfl) (ai o2 (ai m4 z))))))))))))) (by kernel_rfl)
      · exact exs_by [.b false, .d (.int (v : Int)), .b false, .b false, .b false, .b false, .b true, .d (.int ((lcn : Int) * 16)), .d (.int ((v : Int) / 4)), .d (.int ((lcn : Int) * 16 + (v : Int) / 4)), .d (.int ((v : Int) % 4))] (fun z => ai (cneq hn61) (ai hcal (ai (cnge hv64) (ai (trI pads hp0) (ai (bb false) (ai (bb false) (ai (bb true) (ai (rfl : a = a) (ai hlen (ai (bls lcn 4 16 rfl hn) (ai (brs v 2 4 rfl) (ai o4 (ai m2 z))))))))))))) (by kernel_rfl)
      · exact exs_by [.b false, .d (.int (v : Int)), .b false, .b true, .b false, .b false, .b false, .b true, .d (.int ((lcn : Int) * 16)), .d (.int ((v : Int) / 4)), .d (.int ((lcn : Int) * 16 + (v : Int) / 4)), .d (.int ((v : Int) % 4))] (fun z => ai (cneq hn61) (ai hcal (ai (cnge hv64) (ai (trI pads hp0) (ai (bb false) (ai (bb false) (ai (bb false) (ai (bb true) (ai (rfl : a = a) (ai hlen (ai (bls lcn 4 16 rfl hn) (ai (brs v 2 4 rfl) (ai o4 (ai m2 z)))))))))))))) (by kernel_rfl)
      · exact exs_by [.b false, .d (.int (v : Int)), .b false, .b false, .b false, .b false, .b false, .d (.int ((lcn : Int) * 64)), .d (.int ((lcn : Int) * 64 + (v : Int)))] (fun z => ai (cneq hn61) (ai hcal (ai (cnge hv64) (ai (trI pads hp0) (ai (bb false) (ai (bb false) (ai (bb false) (ai (rfl : a = a) (ai hlen (ai (bls lcn 6 64 rfl hn) (ai o6 z))))))))))) (by kernel_rfl)
      · exact exs_by [.b false, .d (.int (v : Int)), .b false, .b true, .b false, .b false, .b false, .b false, .d (.int ((lcn : Int) * 64)), .d (.int ((lcn : Int) * 64 + (v : Int)))] (fun z => ai (cneq hn61) (ai hcal (ai (cnge hv64) (ai (trI pads hp0) (ai (bb false) (ai (bb false) (ai (bb false) (ai (bb false) (ai (rfl : a = a) (ai hlen (ai (bls lcn 6 64 rfl hn) (ai o6 z)))))))))))) (by kernel_rfl)
  obtain ⟨σ', e, tl, htl, rfl⟩ := forGo_inv (f := forF cf3 (some a) 24 (fdAt (Kx P) 85).scope.names (Str.ofString "this_ch") (forB (stAt (Kx P) 85 7))) (items := List.map (fun c : UInt8 => Dt.int (c.toNat : Int)) b) (σ := decSt b a ⟨0, 0, 0, 0, []⟩ []) (fun i σ => ∃ tl, (tl = [] ∨ ∃ o, tl = [(Str.ofString "this_ch", .int o)]) ∧ σ = decSt b a ((b.take i).foldl decStep ⟨0, 0, 0, 0, []⟩) tl) ⟨[], .inl rfl, rfl⟩ (by
    rintro i d σ hi ⟨tl, htl, rfl⟩
    rw [List.getElem?_map] at hi
    obtain ⟨c, hc, rfl⟩ := Option.map_eq_some_iff.mp hi
    have hil : i < b.length := (List.getElem?_eq_some_iff.mp hc).1
    have ok := DecOk.take b hs i (Nat.le_of_lt hil)
    obtain ⟨o, ho⟩ := hstep i c _ tl htl ok (Nat.lt_of_lt_of_le hil hb) (signOk_iff (List.all_eq_true.mp hs c (List.mem_of_getElem? hc)))
    refine ⟨_, ho, [(Str.ofString "this_ch", .int o)], .inr ⟨_, rfl⟩, ?_⟩
    rw [dec_fold b i c hc])
  rw [List.length_map, List.take_length] at e
  clear hstep htl
  have ok := DecOk.take b hs b.length (Nat.le_refl _)
  rw [List.take_length] at ok
  have hD : b.foldl decStep ⟨0, 0, 0, 0, []⟩ = decD b := rfl
  rw [hD] at ok e
  generalize decD b = st at ok hq hq2 e ⊢
  obtain ⟨qp, lc, pads, j, l⟩ := st
  obtain ⟨h1, h2, h3, h4⟩ := ok
  simp only at h1 h3 h4 hq hq2
  have hlen : l.length ≤ 1000 := Nat.le_trans h3 (Nat.le_trans hb (by decide))
  have hall : l.all (fun n => decide (0 ≤ n ∧ n < 256)) = true := alld h4
  rcases h1 with ⟨rfl, _⟩ | ⟨rfl, _⟩ | ⟨rfl, _⟩ | ⟨rfl, _⟩
  · exact exs_ret [.r .next (decSt b a ⟨0, lc, pads, j, l⟩ tl), .b false, .b false] (fun z => ai e (ai (bb false) (ai (bb false) (ai (rfl : a = a) (ai hlen (ai hall z)))))) (by kernel_rfl)
  · exact absurd rfl hq
  · have hz : ¬ (2 + pads < 4) := fun q => hq2.elim (fun x => by cases x) fun x => absurd x (Int.not_le.mpr q)
    exact exs_ret [.r .next (decSt b a ⟨2, lc, pads, j, l⟩ tl), .b false, .b true, .b false] (fun z => ai e (ai (bb false) (ai (bb true) (ai (cnlt hz) (ai (rfl : a = a) (ai hlen (ai hall z))))))) (by kernel_rfl)
  · have hz : ¬ (3 + pads < 4) := fun q => hq2.elim (fun x => by cases x) fun x => absurd x (Int.not_le.mpr q)
    exact exs_ret [.r .next (decSt b a ⟨3, lc, pads, j, l⟩ tl), .b false, .b true, .b false] (fun z => ai e (ai (bb false) (ai (bb true) (ai (cnlt hz) (ai (rfl : a = a) (ai hlen (ai hall z))))))) (by kernel_rfl)
theorem c_a2b (P : Params) : FnC (Kx P) prog w 2 (Str.ofString "a2b_base64") gA2b := by
  refine ⟨.ref 85, by kernel_rfl, (FnOk.of (names := [Str.ofString "data", Str.ofString "strict_mode"]) (by kernel_rfl) : FnOk (Kx P) 85 _ _ _).fnv, fun ds ks d h A E s X vs kvs R G L hv hk => ?_⟩
  obtain ⟨rfl, h⟩ := gkF_x h
  obtain ⟨_, rfl, h⟩ := on1_x h
  obtain ⟨b, rfl, h⟩ := oB_x h
  obtain ⟨hc, h⟩ := ite_x h
  obtain rfl := Option.some.inj h
  refine bc fun nG => ?_
  obtain ⟨hlb, hsg, hq, hq2⟩ := hc
  obtain ⟨v, rfl, hv1⟩ := hv.one
  obtain ⟨u, rfl, hu1⟩ := VL.one (d := .bool false) hk
  refine nG ?_
  have FO : FnOk (Kx P) 85 (fdAt (Kx P) 85) (bodyAt (Kx P) 85) [Str.ofString "data", Str.ofString "strict_mode"] := FnOk.of (by kernel_rfl)
  have hsp := split2 (show (bodyAt (Kx P) 85)[2]? = some (.Assign [.Name (Str.ofString "out") ⟨69, 4, 69, 7⟩] (.List [] ⟨69, 10, 69, 12⟩) ⟨69, 4, 69, 12⟩) by kernel_rfl)
  have hcs : canSet (fdAt (Kx P) 85).scope.names (Str.ofString "out") = true := by kernel_rfl
  have hpre : exs cf3 none 30 (fdAt (Kx P) 85).scope.names ([Str.ofString "data", Str.ofString "strict_mode"].zip [.bytes b, .bool false], []) ((bodyAt (Kx P) 85).take 2) = some (.next, ([(Str.ofString "data", .bytes b), (Str.ofString "strict_mode", .bool false), (Str.ofString "ascii_data", .bytes b)], [])) := by
    exact exs_by [.d (.bytes b), .d (.bool false)] (fun z => ai (dd (.bytes b)) (ai (dd (.bool false)) z)) (by kernel_rfl)
  obtain ⟨σ', hpost⟩ := Classical.axiomOfChoice (a2b_loop P b hlb hsg hq hq2)
  have hbd : ∀ S, peek (Kx P) S (bindArgs (fdAt (Kx P) 85) ⟨[v], [(Str.ofString "strict_mode", u)]⟩) = some ([Str.ofString "data", Str.ofString "strict_mode"].zip [v, u]) := fun S => by kernel_rfl
  generalize fdAt (Kx P) 85 = fd at FO hcs hpre hpost hbd
  generalize bodyAt (Kx P) 85 = body at FO hsp hpre hpost
  exact fn_own (Bn_x P) (cf3_g P) (cf3_f P) FO hsp hcs hpre hpost R G L (by unfold VL; exact ⟨v, _, rfl, hv1, hk⟩) (kp_binds G.kin hbd)
end Mine
end
section
open PySem PySem.W PyProof.Rows
set_option maxRecDepth 100000
namespace Mine
open PySem.Builtin PySem.Builtin._codecs
theorem foldl_bytes : ∀ (l : List Nat) (acc : Array UInt8), l.foldl (fun acc y => acc ++ ([y.toUInt8] : List UInt8).toArray) acc = acc ++ (l.map (·.toUInt8)).toArray
  | [], acc => by simp
  | c :: r, acc => by
    rw [List.foldl_cons, foldl_bytes r]
    apply Array.toList_inj.mp
    simp
theorem enc_shape (id : String) (self : Value) (s : Str) : ∃ f : Nat → Nat × Array UInt8 × Faults → Sem (ForInStep (Nat × Array UInt8 × Faults)),
    encodeNarrow id asciiCodec none self s = (forIn [:s.length] ((0, #[], {}) : Nat × Array UInt8 × Faults) f >>= fun r => pure r.2.1) ∧
    (∀ k i out st x, ¬ out.size > sizeLine → s.cps[i]? = some x → asciiCodec.bad x = false → f k (i, out, st) =
      pure (.yield (i + ((s.cps.extract i s.cps.size).findIdx? asciiCodec.bad).getD (s.cps.extract i s.cps.size).size, ((s.cps.extract i s.cps.size).extract 0 (((s.cps.extract i s.cps.size).findIdx? asciiCodec.bad).getD (s.cps.extract i s.cps.size).size)).foldl (fun acc y => acc ++ (asciiCodec.bytesOf y).toArray) out, st))) ∧
    ∀ k i out st, ¬ out.size > sizeLine → s.cps[i]? = none → f k (i, out, st) = pure (.done (i, out, st)) := by
  refine ⟨_, rfl, fun k i out st x h1 h2 h3 => (if_neg h1).trans ?_, fun k i out st h1 h2 => (if_neg h1).trans ?_⟩
  · rw [show (i, out, st).1 = i from rfl, h2]
    exact if_pos (by rw [h3]; rfl)
  · rw [show (i, out, st).1 = i from rfl, h2]
theorem enc_ascii (id : String) (self : Value) (s : Str) (h : ∀ c ∈ s.cps.toList, c < 128) (hl : s.length ≤ 1000) : encodeNarrow id asciiCodec none self s = pure (s.cps.toList.map (·.toUInt8)).toArray := by
  obtain ⟨f, e, h1, h2⟩ := enc_shape id self s
  rw [e]
  generalize ({} : Faults) = st
  have hl' : s.cps.size ≤ 1000 := hl
  have hsz : ¬ ((s.cps.toList.map (·.toUInt8)).toArray).size > sizeLine := by
    rw [List.size_toArray, List.length_map, Array.length_toList, sizeLine_eq]
    exact Nat.not_lt.mpr (Nat.le_trans hl' (by decide))
  have ex : s.cps.extract 0 s.cps.size = s.cps := Array.extract_size
  have hb : s.cps.findIdx? asciiCodec.bad = none := Array.findIdx?_eq_none_iff.mpr fun x hx => decide_eq_false (Nat.not_le.mpr (h x (Array.mem_toList_iff.mpr hx)))
  rw [Std.Legacy.Range.forIn_eq_forIn_range']
  show (forIn (List.range' 0 ((s.cps.size - 0 + 1 - 1) / 1)) _ _ >>= _) = _
  rw [Nat.div_one, Nat.add_sub_cancel, Nat.sub_zero]
  cases hn : s.cps.size with
  | zero =>
    rw [Array.eq_empty_of_size_eq_zero hn]; rfl
  | succ n =>
    have hc : s.cps[0]? = some s.cps[0] := Array.getElem?_eq_getElem (by rw [hn]; exact Nat.succ_pos n)
    have g1 : ∀ k, f k (0, #[], st) = pure (.yield (n + 1, (s.cps.toList.map (·.toUInt8)).toArray, st)) := fun k => by
      rw [h1 k 0 #[] st _ (Nat.not_lt.mpr (Nat.zero_le _)) hc (decide_eq_false (Nat.not_le.mpr (h _ (Array.mem_toList_iff.mpr (Array.getElem_mem _))))), ex, hb, Option.getD_none, ex, Nat.zero_add, ← Array.foldl_toList, hn]
      rw [show (List.foldl (fun acc y => acc ++ (asciiCodec.bytesOf y).toArray) #[] s.cps.toList) = #[] ++ (s.cps.toList.map (·.toUInt8)).toArray from foldl_bytes _ _, Array.empty_append]
    rw [List.range'_succ, List.forIn_cons, g1, pure_bind]
    show (forIn (List.range' _ n) _ _ >>= _) = _
    cases n with
    | zero => rfl
    | succ n =>
      rw [List.range'_succ, List.forIn_cons, h2 _ _ _ _ hsz (by rw [Array.getElem?_eq_none_iff, hn]; exact Nat.le_refl _), pure_bind]
      rfl
theorem enc_tree (x : Str) (t u : Tok) : «str.encode» ⟨[.str x t, .str (Str.ofString "ascii") u], []⟩ = (do ret (← encodeRoad "str.encode" (.str x t) x (Str.ofString "ascii") none)) := by
  first | rfl | kernel_rfl
theorem encodeRoad_ascii (id : String) (self : Value) (x : Str) (errors : Option Str) : encodeRoad id self x (Str.ofString "ascii") errors = (do mkBytes (← encodeNarrow id asciiCodec errors self x)) := by
  first | rfl | (unfold encodeRoad; rfl) | kernel_rfl
end Mine
end
section
open PySem PySem.W PyProof.Rows
set_option maxRecDepth 100000
set_option maxHeartbeats 4000000
namespace Mine
variable {prog : Program} {w : World}
noncomputable def isAsc (t : Str) : Bool := (t.cps.toList.all fun c => decide (c < 128)) && decide (t.length ≤ 1000)
theorem isAsc_iff {t : Str} (h : isAsc t = true) : (∀ c ∈ t.cps.toList, c < 128) ∧ t.length ≤ 1000 := by
  unfold isAsc at h
  rw [Bool.and_eq_true, List.all_eq_true] at h
  exact ⟨fun c hc => of_decide_eq_true (h.1 c hc), of_decide_eq_true h.2⟩
noncomputable def ascB (t : Str) : List UInt8 := t.cps.toList.map (·.toUInt8)
theorem gives_enc (x : Str) (t u : Tok) (h : isAsc x = true) : Gives (Builtin.«str.encode» ⟨[.str x t, .str (Str.ofString "ascii") u], []⟩) (.bytes (ascB x).toArray) := by
  refine .of_eq ?_
  rw [enc_tree, encodeRoad_ascii, enc_ascii _ _ _ (isAsc_iff h).1 (isAsc_iff h).2]
  rfl
noncomputable def gBfd : List Dt → List (Str × Dt) → Option Dt := gk0 (on1 (oS fun t => if isAsc t = true then some (.bytes (ascB t)) else none))
theorem bind36 (P : Params) {s : Shared} {v : Value} (X : (Kx P).In s.heap) : BindsTo s (fdAt (Kx P) 36) ⟨[v], []⟩ ([Str.ofString "s"].zip [v]) := by
  have e : ∀ S, peek (Kx P) S (bindArgs (fdAt (Kx P) 36) ⟨[v], []⟩) = some ([Str.ofString "s"].zip [v]) := by
    intro S
    kernel_rfl
  generalize fdAt (Kx P) 36 = fd at e ⊢
  exact kp_binds X e
theorem bind101 (P : Params) {s : Shared} {v : Value} (X : (Kx P).In s.heap) : BindsTo s (fdAt (Kx P) 101) ⟨[v], []⟩ ([Str.ofString "s", Str.ofString "altchars"].zip [v, .none]) := by
  have e : ∀ S, peek (Kx P) S (bindArgs (fdAt (Kx P) 101) ⟨[v], []⟩) = some ([Str.ofString "s", Str.ofString "altchars"].zip [v, .none]) := by
    intro S
    kernel_rfl
  generalize fdAt (Kx P) 101 = fd at e ⊢
  exact kp_binds X e
theorem bind109 (P : Params) {s : Shared} {v : Value} (X : (Kx P).In s.heap) : BindsTo s (fdAt (Kx P) 109) ⟨[v], []⟩ ([Str.ofString "s", Str.ofString "altchars", Str.ofString "validate"].zip [v, .none, .bool false]) := by
  have e : ∀ S, peek (Kx P) S (bindArgs (fdAt (Kx P) 109) ⟨[v], []⟩) = some ([Str.ofString "s", Str.ofString "altchars", Str.ofString "validate"].zip [v, .none, .bool false]) := by
    intro S
    kernel_rfl
  generalize fdAt (Kx P) 109 = fd at e ⊢
  exact kp_binds X e
theorem c_bfd (P : Params) : FnC (Kx P) prog w 1 (Str.ofString "_bytes_from_decode_data") gBfd := by
  have FO : FnOk (Kx P) 36 (fdAt (Kx P) 36) (bodyAt (Kx P) 36) [Str.ofString "s"] := FnOk.of (by kernel_rfl)
  refine ⟨.ref 36, by kernel_rfl, FO.fnv, fun ds ks d h A E s X vs kvs R G L hv hk => ?_⟩
  obtain ⟨rfl, h⟩ := gk0_x h
  obtain ⟨_, rfl, h⟩ := on1_x h
  obtain ⟨t, rfl, h⟩ := oS_x h
  obtain ⟨hc, h⟩ := ite_x h
  obtain rfl := Option.some.inj h
  obtain ⟨v, rfl, hv1⟩ := hv.one
  have : kvs = [] := by unfold VL at hk; exact hk
  subst this
  refine fn_frame (m := 0) (names := [Str.ofString "s"]) (ds := [.str t]) (vals := [v]) FO ?_ R G L hv (@bind36 P s v G.kin)
  intro env A E s X _ S Sp N G GW R
  have hname : ∀ (p : Pos) (A : Around) (E : Value → Shared → Prop), wpAny (model prog w) A (eval (.Name (Str.ofString "s") p) env) (fun v s' => Keeps s s' ∧ V s'.heap X (.str t) v) E s := fun p A E =>
    name_step (cf := cf0) (n := 0) (Bn_x P) (cf0_g P) (by kernel_rfl) S N.env G
  have hstr : ∀ (p : Pos) (A : Around) (E : Value → Shared → Prop) (s₁ : Shared), Keeps s s₁ → wpAny (model prog w) A (eval (.Name (Str.ofString "str") p) env) (fun v s' => Keeps s₁ s' ∧ V s'.heap X (.ty "str") v) E s₁ := fun p A E s₁ k =>
    name_step (cf := cf0) (n := 0) (Bn_x P) (cf0_g P) (by kernel_rfl) S (N.env.ext (Keeps.ext k)) (G.ext (Keeps.ext k))
  have hkis : env.kindOf (Str.ofString "isinstance") = some .globalImplicit := kind_glob S (by kernel_rfl)
  conv => arg 3; arg 1; whnf
  refine wpAny_execs_cons (wpAny_If (PyProof.Rows.isTrue_plain ?_ rfl))
  refine wpAny_Call_Name_kw (blt_name G N.env hkis (v := .builtin "isinstance") (by kernel_rfl) (by decide +kernel) (by decide +kernel) (by decide +kernel) ?_)
  refine callWith_of (P := fun h => True) rfl (fun h _ => FnV.keeps (h := h) (f := .builtin "isinstance") trivial) ?_
  refine evalArgs_any rfl rfl (PySem.Calls.spliced_cons (mono2 (hname _ _ _) fun v1 s₁ k₁ hv1' => ?_))
  refine PySem.Calls.spliced_cons (wpAny_mono (hstr _ _ _ s₁ k₁) (fun v2 s₂ q => PySem.Calls.spliced_nil (wpAny_evalAll_nil ⟨trivial, ?_⟩)) fun _ _ x => x)
  obtain ⟨k₂, hv2⟩ := q
  obtain ⟨t1, rfl⟩ := hv1'
  subst hv2
  refine IsiPair.str_str (wpAny_truthy_bool ?_)
  rw [if_pos rfl]
  have k₁₂ := Keeps.trans' k₁ k₂
  refine wpAny_execs_cons (wpAny_Try_except (wpAny_execs_cons (wpAny_Return_some ?_)))
  have N₂ := N.ext (Keeps.ext k₁₂)
  refine Call_method1 rfl rfl rfl (mono2 (name_step (cf := cf0) (n := 0) (d := .str t) (X := X) (Bn_x P) (cf0_g P) (by kernel_rfl) S N₂.env (G.ext (Keeps.ext k₁₂))) fun ov s₃ k₃ hov => ?_)
  obtain ⟨t3, rfl⟩ := hov
  refine MethodOnS.str1 (id := "str.encode") PySem.F.slot_str_encode PySem.F.type_str_encode PySem.F.entry_str_encode (wpAny_Constant_str ⟨PySem.F.args_str_encode_2 _ _, _, gives_enc t t3 _ hc, ?_⟩)
  have k₁₃ := Keeps.trans' k₁₂ k₃
  have fin : ∀ tk tk', KeepsW (Wr env none) s { s₃ with toks := tk } ∧ ∃ v, Flow.ret (.bytes (ascB t).toArray tk') = .ret v ∧ V s₃.heap X (.bytes (ascB t)) v := fun tk tk' => ⟨KeepsW.of (Keeps.trans' k₁₃ (Keeps.tok _)), _, rfl, by unfold V; exact ⟨_, rfl⟩⟩
  exact ⟨by rw [List.size_toArray, sizeLine_eq]; have := (isAsc_iff hc).2; unfold ascB; rw [List.length_map]; simp [Str.length] at this; simp; lia, fin _ _⟩
noncomputable def gEnc : List Dt → List (Str × Dt) → Option Dt := gk0 (on1 (oB fun b => if b.length ≤ 100 then some (.bytes ((encD b).map fun n => n.toNat.toUInt8)) else none))
noncomputable def cf4 : Orc := cf0.or (Str.ofString "b2a_base64") gB2a
theorem cf4_f (P : Params) : CF (Kx P) prog w 2 cf4 := CF.or (Nat.zero_le _) (cf0_f (m := 0)) (c_b2a P)
theorem cf4_g (P : Params) : CG (Kx P) cf4 := cf0_g P
theorem c_enc (P : Params) : FnC (Kx P) prog w 3 (Str.ofString "b64encode") gEnc := by
  have FO : FnOk (Kx P) 101 (fdAt (Kx P) 101) (bodyAt (Kx P) 101) [Str.ofString "s", Str.ofString "altchars"] := FnOk.of (by kernel_rfl)
  refine ⟨.ref 101, by kernel_rfl, FO.fnv, fun ds ks d h A E s X vs kvs R G L hv hk => ?_⟩
  obtain ⟨rfl, h⟩ := gk0_x h
  obtain ⟨_, rfl, h⟩ := on1_x h
  obtain ⟨b, rfl, h⟩ := oB_x h
  obtain ⟨hc, h⟩ := ite_x h
  obtain rfl := Option.some.inj h
  obtain ⟨v, rfl, hv1⟩ := hv.one
  have : kvs = [] := by unfold VL at hk; exact hk
  subst this
  have hex : ∃ σ', exs cf4 none 20 (fdAt (Kx P) 101).scope.names ([Str.ofString "s", Str.ofString "altchars"].zip [.bytes b, .none], []) (bodyAt (Kx P) 101) = some (.ret (.bytes ((encD b).map fun n => n.toNat.toUInt8)), σ') := by
    have hg : gB2a [.bytes b] [(Str.ofString "newline", .bool false)] = some (.bytes ((encD b).map fun n => n.toNat.toUInt8)) := (gkF_i _ _ _).trans (if_pos hc)
    exact exs_ret [.d (.bytes ((encD b).map fun n => n.toNat.toUInt8)), .b false] (fun z => ai hg (ai (bb false) z)) (by kernel_rfl)
  obtain ⟨σ', hex⟩ := hex
  exact fn_call (vals := [v, .none]) (Bn_x P) (cf4_g P) (cf4_f P) FO hex R G L (by unfold VL; exact ⟨v, _, rfl, hv1, by unfold VL; exact ⟨_, _, rfl, by unfold V; rfl, by unfold VL; rfl⟩⟩) (@bind101 P s v G.kin)
noncomputable def gDec : List Dt → List (Str × Dt) → Option Dt := gk0 (on1 (oS fun t => if isAsc t = true ∧ (ascB t).length ≤ 100 ∧ (ascB t).all signOk = true ∧ (decD (ascB t)).qp ≠ 1 ∧ ((decD (ascB t)).qp = 0 ∨ 4 ≤ ((decD (ascB t)).qp : Int) + (decD (ascB t)).pads) then some (.bytes ((decD (ascB t)).out.map fun n => n.toNat.toUInt8)) else none))
noncomputable def cf5 : Orc := (cf0.or (Str.ofString "_bytes_from_decode_data") gBfd).or (Str.ofString "a2b_base64") gA2b
theorem cf5_f (P : Params) : CF (Kx P) prog w 2 cf5 := CF.or (by lia) (CF.or (Nat.zero_le _) (cf0_f (m := 0)) (c_bfd P)) (c_a2b P)
theorem cf5_g (P : Params) : CG (Kx P) cf5 := cf0_g P
theorem c_dec (P : Params) : FnC (Kx P) prog w 3 (Str.ofString "b64decode") gDec := by
  have FO : FnOk (Kx P) 109 (fdAt (Kx P) 109) (bodyAt (Kx P) 109) [Str.ofString "s", Str.ofString "altchars", Str.ofString "validate"] := FnOk.of (by kernel_rfl)
  refine ⟨.ref 109, by kernel_rfl, FO.fnv, fun ds ks d h A E s X vs kvs R G L hv hk => ?_⟩
  obtain ⟨rfl, h⟩ := gk0_x h
  obtain ⟨_, rfl, h⟩ := on1_x h
  obtain ⟨t, rfl, h⟩ := oS_x h
  obtain ⟨hc, h⟩ := ite_x h
  obtain rfl := Option.some.inj h
  obtain ⟨v, rfl, hv1⟩ := hv.one
  have : kvs = [] := by unfold VL at hk; exact hk
  subst this
  have hex : ∃ σ', exs cf5 none 20 (fdAt (Kx P) 109).scope.names ([Str.ofString "s", Str.ofString "altchars", Str.ofString "validate"].zip [.str t, .none, .bool false], []) (bodyAt (Kx P) 109) = some (.ret (.bytes ((decD (ascB t)).out.map fun n => n.toNat.toUInt8)), σ') := by
    have hg : gA2b [.bytes (ascB t)] [(Str.ofString "strict_mode", .bool false)] = some (.bytes ((decD (ascB t)).out.map fun n => n.toNat.toUInt8)) := (gkF_i _ _ _).trans (if_pos hc.2)
    have hg2 : gBfd [.str t] [] = some (.bytes (ascB t)) := if_pos hc.1
    exact exs_ret [.d (.bytes (ascB t)), .b false, .d (.bytes ((decD (ascB t)).out.map fun n => n.toNat.toUInt8))] (fun z => ai hg2 (ai (bb false) (ai hg z))) (by kernel_rfl)
  obtain ⟨σ', hex⟩ := hex
  exact fn_call (vals := [v, .none, .bool false]) (Bn_x P) (cf5_g P) (cf5_f P) FO hex R G L (by unfold VL; exact ⟨v, _, rfl, hv1, by unfold VL; exact ⟨_, _, rfl, by unfold V; rfl, by unfold VL; exact ⟨_, _, rfl, by unfold V; rfl, by unfold VL; rfl⟩⟩⟩) (@bind109 P s v G.kin)
noncomputable def gAsked : List Dt → List (Str × Dt) → Option Dt := gk0 (on2 fun x y => oB (fun a => oB (fun b => some (.list [.bool (Builtin.Bytes.order a b == .lt), .bool (Builtin.Bytes.order a b == .gt), .bool (Builtin.Bytes.order a b != .gt), .bool (Builtin.Bytes.order a b != .lt), .bool (a == b), .bool (a != b)])) y) x)
theorem c_asked (P : Params) : FnC (Kx P) prog w 1 (Str.ofString "_law_asked") gAsked := by
  refine FnC.of_ex (n := 20) (a := 161) (Bn_x P) (cf0_g P) cf0_f (by kernel_rfl) (FnOk.of (names := [Str.ofString "one", Str.ofString "two"]) (by kernel_rfl)) (fun vs h S => ?_) fun ds ks d h => ?_
  · obtain ⟨v, u, rfl⟩ := ln2 h
    kernel_rfl
  · obtain ⟨rfl, h⟩ := gk0_x h
    obtain ⟨_, _, rfl, h⟩ := on2_x h
    obtain ⟨a, rfl, h⟩ := oB_x h
    obtain ⟨b, rfl, h⟩ := oB_x h
    obtain rfl := Option.some.inj h
    refine ⟨rfl, rfl, ?_⟩
    exact exs_ret [.b (Builtin.Bytes.order a b == .lt), .b (Builtin.Bytes.order a b == .gt), .b (Builtin.Bytes.order a b != .gt), .b (Builtin.Bytes.order a b != .lt), .b (a == b), .b (a != b)] (fun z => ai (bb (Builtin.Bytes.order a b == .lt)) (ai (bb (Builtin.Bytes.order a b == .gt)) (ai (bb (Builtin.Bytes.order a b != .gt)) (ai (bb (Builtin.Bytes.order a b != .lt)) (ai (bb (a == b)) (ai (bb (a != b)) z)))))) (by kernel_rfl)
end Mine
end
section
open PySem PySem.W PyProof.Rows
set_option maxRecDepth 100000
namespace Mine
variable {prog : Program} {w : World} {A : Around} {E : Value → Shared → Prop} {s : Shared} {env : Env}
structure Fresh0 (K : Frag) (s s' : Shared) (X : List Addr) (fd : FuncData) (names : List Str) (ds : List Dt) (env : Env) (m : Nat) (A' : Around) : Prop where
  code : env.code = fd.code
  keeps : Keeps s s'
  fresh : ∀ b ∈ Wr env none, s.heap.get? b = Option.none
  sc : ScOk fd.scope.names env
  sep : Sep (Wr env none ++ X) env none
  st : StOk s'.heap (Wr env none ++ X) env none (names.zip ds, [])
  gd : Gd K s'.heap
  gw : GdW K (Wr env none)
  rm : Rm A' m
  cel : ∃ n, env.cells = cellsFrom n fd.scope.names []
theorem fn_enter {K : Frag} {m : Nat} {a : Addr} {fd : FuncData} {body : List Stmt} {names : List Str} {ds : List Dt} {Q : Value → Shared → Prop} (FO : FnOk K a fd body names)
    {X : List Addr} {pos : List Value} {kw : List (Str × Value)} {vals : List Value} (R : Rm A (m + 1)) (G : Gd K s.heap) (L : Live s.heap X) (hv : VL s.heap X ds vals) (hb : BindsTo s fd ⟨pos, kw⟩ (names.zip vals))
    (hrun : ∀ (env : Env) (E : Value → Shared → Prop) (s' : Shared), Fresh0 K s s' X fd names ds env m (A.deeper env) → wpAny (model prog w) (A.deeper env) (execs body env) (fun f s'' => ∃ v, f = .ret v ∧ Q v s'') E s') :
    wpAny (model prog w) A (call (.ref a) pos kw) Q E s := by
  obtain ⟨o, ho, hd⟩ := FO.obj
  refine wpAny_call (codeAny_call_function (by have := R.2.1; lia) (G.kin _ _ ho) hd FO.co FO.gen FO.body (codeRec_of G.kin FO.cd) ?_)
  refine hb _ _ _ _ ?_
  rw [FO.clo, FO.gl, FO.bl]
  have keysub := zip_keys_sub names vals
  refine wpAny_newFunctionEnv_cells FO.kind (fun x hx => ?_) fun env he s' IC => ⟨G.lim.keeps IC.toInCall.keep, codeAny_func ?_⟩
  · have : x.1 ∈ names := keysub.subset (List.mem_map_of_mem hx)
    rcases FO.kinds x.1 this with q | q
    · exact .inl q
    · exact .inr ⟨q, cellsFrom_some _ _ _ _ (.inl (mem_of_lookup q))⟩
  · have hkind : ∀ x, env.kindOf x = fd.scope.names.lookup x := fun x => by rw [he]; rfl
    have hloc : env.locals = s.heap.objs.size := by rw [he]; rfl
    have hcells : env.cells = cellsFrom (s.heap.objs.size + 1) fd.scope.names [] := by rw [he]; rfl
    have hge : ∀ b ∈ Wr env none, s.heap.objs.size ≤ b := fun b hb => by
      unfold Wr at hb
      simp only [Option.toList_none, List.append_nil] at hb
      rcases List.mem_cons.mp hb with q | q
      · rw [q, hloc]; exact Nat.le_refl _
      · obtain ⟨p, hp, rfl⟩ := List.mem_map.mp q
        have := IC.above p.1 p.2 hp
        rw [hloc] at this
        exact Nat.le_of_lt this
    have hfresh : ∀ b ∈ Wr env none, s.heap.get? b = Option.none := fun b hb => fresh_none _ (hge b hb)
    have hlt : ∀ {b : Addr} {o : Obj}, s.heap.get? b = some o → b ∉ Wr env none := fun {b o} e q => by rw [hfresh b q] at e; cases e
    have GW : GdW K (Wr env none) := ⟨fun b o e => hlt (G.kin b o e), by obtain ⟨_, o, _, _, e, _⟩ := G.g; exact hlt e, by obtain ⟨_, ⟨o, _, _, e, _⟩, _⟩ := G.b; exact hlt e, by obtain ⟨_, ⟨o, _, _, e, _⟩, _⟩ := G.lim; exact hlt e⟩
    have S : ScOk fd.scope.names env := fun x k e => .inl (by rw [hkind, e])
    have k₁ : Keeps s s' := by
      obtain ⟨h', tk, e⟩ := IC.toInCall.same
      have := IC.toInCall.keep
      exact ⟨h', tk, e, fun b o q => by have := this b o q; rw [e] at this; exact this⟩
    have up : ∀ {d : Dt} {v : Value}, V s.heap X d v → V s'.heap (Wr env none ++ X) d v := fun {d v} x => V.ext (Keeps.ext k₁) (V.more (fun b hb hn => by
      rcases List.mem_append.mp hb with q | q
      · exact hfresh b q
      · exact absurd q hn) d v x)
    have P : Sep (Wr env none ++ X) env none := by
      refine ⟨fun b hb => List.mem_append_left _ hb, fun x c hc => ?_, fun x y c hx hy => name_of_addr IC.apart (mem_of_lookup hx) (mem_of_lookup hy), fun a e => by cases e⟩
      exact Nat.ne_of_gt (IC.above x c (mem_of_lookup hc))
    have hnd : ((names.zip vals).map (·.1)).Nodup := keysub.nodup FO.nodup
    have N : StOk s'.heap (Wr env none ++ X) env none (names.zip ds, []) := by
      refine ⟨⟨by rw [he]; exact FO.kind, by rw [he]; rfl, by rw [he]; rfl, List.mem_append_left _ (Wr.loc env none), fun b hb => ?_, ⟨_, IC.toInCall.ns, fun x dd e hk => ?_⟩, fun x hk => ?_⟩, fun a e => by cases e⟩
      · rcases List.mem_append.mp hb with q | q
        · unfold Wr at q
          simp only [Option.toList_none, List.append_nil] at q
          rcases List.mem_cons.mp q with q | q
          · rw [q]; obtain ⟨o, _, _, ho, _⟩ := IC.toInCall.ns; exact ⟨o, ho⟩
          · obtain ⟨p, hp, rfl⟩ := List.mem_map.mp q
            have hc := lookup_of_mem (by rw [hcells]; exact cellsFrom_nodup fd.scope.names _ [] FO.uniq (by simp) (by simp)) hp
            obtain ⟨o, ho, _⟩ := IC.cell p.1 p.2 hc; exact ⟨o, ho⟩
        · obtain ⟨o, ho⟩ := L b q; exact ⟨o, Keeps.ext k₁ b o ho⟩
      · obtain ⟨v, hm, hV⟩ := zip_lookup hv e
        exact ⟨v, bindL_get _ _ _ _ hnd hm hk, up hV⟩
      · have hkc : fd.scope.names.lookup x = some .cell := by
          rcases hk with hk | hk
          · rw [← hkind]; exact hk
          · rw [hkind] at hk
            exact absurd rfl (FO.nofree _ (mem_of_lookup hk))
        obtain ⟨c, hc⟩ := Option.isSome_iff_exists.mp (cellsFrom_some fd.scope.names (s.heap.objs.size + 1) [] x (.inl (mem_of_lookup hkc)))
        rw [← hcells] at hc
        refine ⟨c, _, hc, IC.cell x c hc, List.mem_append_left _ (Wr.cel hc), fun dd e => ?_⟩
        obtain ⟨v, hm, hV⟩ := zip_lookup hv e
        exact ⟨v, bindC_get _ _ _ _ hnd hm (by rw [hkind, hkc]; intro q; cases q), up hV⟩
    have R' : Rm (A.deeper env) m := ⟨R.1, by have := R.2.1; show A.depth + 1 + m < _; lia, by have := R.2.2; show A.units + 3 + 100 * m + 200 < _; lia⟩
    refine wpAny_mono (hrun env _ s' ⟨by rw [he]; rfl, k₁, hfresh, S, P, N, G.ext (Keeps.ext k₁), GW, R', ⟨_, hcells⟩⟩) (fun f s'' q => ?_) fun _ _ x => x
    obtain ⟨v, rfl, hV⟩ := q
    exact hV
structure CloOk (h : Heap) (a : Addr) (fd : FuncData) (names : List Str) : Prop where
  obj : ∃ o, h.get? a = some o ∧ o.data = .func fd
  gl : fd.globals = mainGlobals
  bl : fd.builtins = builtinsNs
  cd : h.CodeRec fd.code fd.qualname
  co : fd.scope.isCoroutine = false
  gen : fd.scope.isGenerator = false
  kind : fd.scope.kind = .function
  nodup : names.Nodup
  kinds : ∀ x ∈ names, fd.scope.names.lookup x = some .local
  locs : ∀ x, fd.scope.names.lookup x = some .local → x ∈ names
  nocell : ∀ x ∈ fd.scope.names, x.2 ≠ .cell
structure CloIn (K : Frag) (s s' : Shared) (X : List Addr) (fd : FuncData) (ρ : List (Str × Dt)) (env : Env) : Prop where
  code : env.code = fd.code
  loc : env.locals = s.heap.objs.size
  cells : env.cells = fd.closure
  keeps : Keeps s s'
  fresh : s.heap.get? env.locals = Option.none
  sc : ScOk fd.scope.names env
  st : EnvOk s'.heap (env.locals :: X) env ρ
  gd : Gd K s'.heap
theorem clo_env {K : Frag} {a : Addr} {fd : FuncData} {names : List Str} {ds : List Dt} {ρc : List (Str × Dt)} {vals : List Value} {X : List Addr} {Q : Env → Shared → Prop} (CO : CloOk s.heap a fd names) (G : Gd K s.heap) (L : Live s.heap X) (hv : VL s.heap X ds vals)
    (hfree : ∀ x, fd.scope.names.lookup x = some .free → ∃ c ov, fd.closure.lookup x = some c ∧ s.heap.IsCell c ov ∧ c ∈ X ∧ ∀ d, ρc.lookup x = some d → ∃ v, ov = some v ∧ V s.heap X d v)
    (hkey : ∀ x d, ρc.lookup x = some d → x ∉ names)
    (hrun : ∀ (env : Env) (s' : Shared), CloIn K s s' X fd (names.zip ds ++ ρc) env → Q env s') :
    wpAny (model prog w) A (newFunctionEnv fd.scope fd.globals fd.closure (names.zip vals) (fd.qualname ++ ".<locals>.") (some a) fd.code Option.none fd.builtins) (fun env s₂ => s₂.heap.NoLimit ∧ Q env s₂) E s := by
  have keysub := zip_keys_sub names vals
  have hnd : ((names.zip vals).map (·.1)).Nodup := keysub.nodup CO.nodup
  refine wpAny_newFunctionEnv CO.nocell (fun x hx => CO.kinds x.1 (keysub.subset (List.mem_map_of_mem hx))) (fun h' hns hsb => ?_) CO.kind
  have hk : Ext s.heap h' := fun b o e => hsb.extBut b o (Nat.ne_of_lt (Heap.lt_size e)) (Heap.get?_push_of_some _ e)
  have kk : Keeps s { s with heap := h', toks := s.toks + (names.zip vals).length } := Keeps.heap' _ hk
  refine ⟨G.lim.keeps hk, hrun _ _ ⟨rfl, rfl, rfl, kk, fresh_none _ (Nat.le_refl _), fun x k e => .inl e, ?_, G.ext hk⟩⟩
  have hf : s.heap.get? s.heap.objs.size = Option.none := fresh_none _ (Nat.le_refl _)
  have up : ∀ {d : Dt} {v : Value}, V s.heap X d v → V h' (s.heap.objs.size :: X) d v := fun {d v} x => V.ext hk (V.more (fun b hb hn => by
    rcases List.mem_cons.mp hb with q | q
    · rw [q]; exact hf
    · exact absurd q hn) d v x)
  refine ⟨CO.kind, CO.gl, CO.bl, .head _, fun b hb => ?_, ⟨_, hns, fun x dd e hkx => ?_⟩, fun x hkx => ?_⟩
  · rcases List.mem_cons.mp hb with q | q
    · rw [q]; obtain ⟨o, _, _, ho, _⟩ := hns; exact ⟨o, ho⟩
    · obtain ⟨o, ho⟩ := L b q; exact ⟨o, hk b o ho⟩
  · have hin := CO.locs x hkx
    have e' : (names.zip ds).lookup x = some dd := by
      rw [List.lookup_append] at e
      cases hz : (names.zip ds).lookup x with
      | some d' => rw [hz] at e; simpa using e
      | none =>
        rw [hz] at e
        exact absurd hin (hkey x dd (by simpa using e))
    obtain ⟨v, hm, hV⟩ := zip_lookup hv e'
    refine ⟨v, ?_, up hV⟩
    have hl : (names.zip vals).lookup x = some v := lookup_of_mem (p := (x, v)) hnd hm
    show (names.zip vals).reverse.lookup x = some v
    refine lookup_of_mem (p := (x, v)) ?_ (List.mem_reverse.mpr hm)
    rw [List.map_reverse]
    exact (List.reverse_perm _).nodup_iff.mpr hnd
  · have hkf : fd.scope.names.lookup x = some .free := by
      rcases hkx with q | q
      · exact absurd rfl (CO.nocell _ (mem_of_lookup q))
      · exact q
    obtain ⟨c, ov, h1, h2, h3, h4⟩ := hfree x hkf
    refine ⟨c, ov, h1, h2.keeps hk, .tail _ h3, fun dd e => ?_⟩
    have : ρc.lookup x = some dd := by
      rw [List.lookup_append] at e
      cases hz : (names.zip ds).lookup x with
      | some d' =>
        have hx : x ∈ names := by
          have := mem_of_lookup hz
          exact (List.of_mem_zip this).1
        rw [CO.kinds x hx] at hkf; cases hkf
      | none => rw [hz] at e; simpa using e
    obtain ⟨v, hv1, hv2⟩ := h4 dd this
    exact ⟨v, hv1, up hv2⟩
theorem clo_stmts {K : Frag} {m : Nat} {a : Addr} {fd : FuncData} {body : List Stmt} {names : List Str} {ds : List Dt} {ρc : List (Str × Dt)} {vals pos : List Value} {kw : List (Str × Value)} {X : List Addr} {Q : Value → Shared → Prop} (CO : CloOk s.heap a fd names) (hbody : fd.body = .stmts body) (R : Rm A (m + 1)) (G : Gd K s.heap) (L : Live s.heap X) (hv : VL s.heap X ds vals)
    (hb : BindsTo s fd ⟨pos, kw⟩ (names.zip vals))
    (hfree : ∀ x, fd.scope.names.lookup x = some .free → ∃ c ov, fd.closure.lookup x = some c ∧ s.heap.IsCell c ov ∧ c ∈ X ∧ ∀ d, ρc.lookup x = some d → ∃ v, ov = some v ∧ V s.heap X d v)
    (hkey : ∀ x d, ρc.lookup x = some d → x ∉ names)
    (hrun : ∀ (env : Env) (E : Value → Shared → Prop) (s' : Shared), CloIn K s s' X fd (names.zip ds ++ ρc) env → Rm (A.deeper env) m → wpAny (model prog w) (A.deeper env) (execs body env) (fun f s'' => ∃ v, f = .ret v ∧ Q v s'') E s') :
    wpAny (model prog w) A (call (.ref a) pos kw) Q E s := by
  obtain ⟨o, ho, hd⟩ := CO.obj
  refine wpAny_call (codeAny_call_function (by have := R.2.1; lia) ho hd CO.co CO.gen hbody CO.cd ?_)
  refine hb _ _ _ _ ?_
  refine clo_env CO G L hv hfree hkey fun env s' CI => codeAny_func ?_
  have R' : Rm (A.deeper env) m := ⟨R.1, by have := R.2.1; show A.depth + 1 + m < _; lia, by have := R.2.2; show A.units + 3 + 100 * m + 200 < _; lia⟩
  refine wpAny_mono (hrun env _ s' CI R') (fun f s'' q => ?_) fun _ _ x => x
  obtain ⟨v, rfl, hV⟩ := q
  exact hV
theorem clo_expr {K : Frag} {m : Nat} {a : Addr} {fd : FuncData} {body : Expr} {names : List Str} {ds : List Dt} {ρc : List (Str × Dt)} {vals pos : List Value} {kw : List (Str × Value)} {X : List Addr} {Q : Value → Shared → Prop} (CO : CloOk s.heap a fd names) (hbody : fd.body = .expr body) (R : Rm A (m + 1)) (G : Gd K s.heap) (L : Live s.heap X) (hv : VL s.heap X ds vals)
    (hb : BindsTo s fd ⟨pos, kw⟩ (names.zip vals))
    (hfree : ∀ x, fd.scope.names.lookup x = some .free → ∃ c ov, fd.closure.lookup x = some c ∧ s.heap.IsCell c ov ∧ c ∈ X ∧ ∀ d, ρc.lookup x = some d → ∃ v, ov = some v ∧ V s.heap X d v)
    (hkey : ∀ x d, ρc.lookup x = some d → x ∉ names)
    (hrun : ∀ (env : Env) (E : Value → Shared → Prop) (s' : Shared), CloIn K s s' X fd (names.zip ds ++ ρc) env → Rm (A.deeper env) m → wpAny (model prog w) (A.deeper env) (eval body env) Q E s') :
    wpAny (model prog w) A (call (.ref a) pos kw) Q E s := by
  refine bc fun nG => ?_
  obtain ⟨o, ho, hd⟩ := CO.obj
  refine nG ?_
  refine wpAny_call (kla_callFunE (by have := R.2.1; lia) ho hd CO.co CO.gen hbody CO.cd ?_)
  refine hb _ _ _ _ ?_
  refine clo_env CO G L hv hfree hkey fun env s' CI => kla_codeExpr ?_
  have R' : Rm (A.deeper env) m := ⟨R.1, by have := R.2.1; show A.depth + 1 + m < _; lia, by have := R.2.2; show A.units + 3 + 100 * m + 200 < _; lia⟩
  exact hrun env _ s' CI R'
theorem clo_ev {cf : Orc} {K : Frag} {m n : Nat} {a : Addr} {fd : FuncData} {body : Expr} {names : List Str} {ds : List Dt} {d : Dt} {ρc : List (Str × Dt)} {vals pos : List Value} {kw : List (Str × Value)} {X : List Addr} (B : Bn K) (CG' : CG K cf) (C : CF K prog w m cf) (CO : CloOk s.heap a fd names) (hbody : fd.body = .expr body) (R : Rm A (m + 1)) (G : Gd K s.heap) (L : Live s.heap X) (hv : VL s.heap X ds vals)
    (hb : BindsTo s fd ⟨pos, kw⟩ (names.zip vals))
    (hfree : ∀ x, fd.scope.names.lookup x = some .free → ∃ c ov, fd.closure.lookup x = some c ∧ s.heap.IsCell c ov ∧ c ∈ X ∧ ∀ d, ρc.lookup x = some d → ∃ v, ov = some v ∧ V s.heap X d v)
    (hkey : ∀ x d, ρc.lookup x = some d → x ∉ names)
    (hev : ev cf n fd.scope.names (names.zip ds ++ ρc) body = some d) :
    wpAny (model prog w) A (call (.ref a) pos kw) (fun r s' => Keeps s s' ∧ V s'.heap X d r) E s := by
  refine clo_expr CO hbody R G L hv hb hfree hkey fun env E s' CI R' => ?_
  refine wpAny_mono ((ev_sound B CG' C n).1 _ _ body d env _ _ s' _ hev CI.sc CI.st CI.gd R') (fun v s'' q => ⟨Keeps.trans' CI.keeps q.1, V.less (fun b hb => .tail _ hb) q.2⟩) fun _ _ x => x
end Mine
end
section
open PySem PySem.W PyProof.Rows
set_option maxRecDepth 100000
namespace Mine
variable {prog : Program} {w : World} {A : Around} {E : Value → Shared → Prop} {s : Shared} {env : Env}
noncomputable def EltOk (prog : Program) (w : World) (A : Around) (K : Frag) (W : List Addr) (J : Nat → Heap → List Addr → Prop) (cd : Value) (ql : Str) (x : Str) (ρ : List (Str × Dt)) (csc : Scope) (elt : Expr) (items : List Dt) (g : Dt → Dt) : Prop :=
  ∀ (i : Nat) d, items[i]? = some d → ∀ (cenv : Env) (s' : Shared) (X' : List Addr) (E' : Value → Shared → Prop), EnvOk s'.heap X' cenv ((x, d) :: ρ) → ScOk csc.names cenv → Gd K s'.heap → EnvW W cenv → (∀ b ∈ W, b ∈ X') → (cenv.code = cd ∧ cenv.qual = ql) → J i s'.heap X' →
      wpAny (model prog w) A (eval elt cenv) (fun r s₃ => KeepsW W s' s₃ ∧ V s₃.heap X' (g d) r ∧ J (i + 1) s₃.heap X') E' s'
theorem compGo_all {g : Dt → Dt} {items : List Dt} : compGo (fun d => some (some (g d))) items = some (items.map g) := compGo_map fun _ _ => rfl
theorem comp_ef {cf : Orc} {K : Frag} {m n : Nat} {elt iter : Expr} {x : Str} {px : Pos} {csc : Scope} {pos : Pos} {sc : List (Str × NameKind)} {ρ : List (Str × Dt)} {X W : List Addr} {J : Nat → Heap → List Addr → Prop} {it : Dt} {items : List Dt} {g : Dt → Dt}
    (B : Bn K) (CG' : CG K cf) (C : CF K prog w m cf) (S : ScOk sc env) (N : EnvOk s.heap X env ρ) (G : Gd K s.heap) (R : Rm A m) (hok : compOk sc csc.names ρ x = true) (hk : csc.kind = .function) (hsz : items.length ≤ 1000)
    (hWX : ∀ b ∈ W, b ∈ X) (EW : EnvW W env) (KW : GdW K W) (FJ : Eff W J) (h1 : ev cf n sc ρ iter = some it) (hit : itemsD it = some items) (h0 : J 0 s.heap X)
    (hE : EltOk prog w A K W J env.code env.qual x ρ csc elt items g) :
    wpAny (model prog w) A (eval (.ListComp elt [⟨.Name x px, iter, [], 0⟩] csc pos) env) (fun v s' => KeepsW W s s' ∧ V s'.heap X (.list (items.map g)) v ∧ J items.length s'.heap X) E s := by
  exact lc_eval FJ (comp_core2 (dd := fun d => d) (f := fun d => some (some (g d))) S N G R.1 hok hk hsz (set_ev h1 env) hWX EW KW FJ (fun _ _ => TgOk.name (compFacts hok).x hk)
    (wpAny_mono ((ev_sound B CG' C n).1 sc ρ iter it env A E s X h1 S N G R) (fun v s₁ q => ⟨KeepsW.of q.1, q.2, FJ.keep _ _ _ _ (fun b o _ e => Keeps.ext q.1 b o e) h0⟩) fun _ _ x => x) hit compGo_all (fun _ _ _ h => by cases h)
    (fun d hd y hy cenv s' X' E' N' S' G' => by cases hy; exact wpAny_tests_nil ⟨Keeps.refl' _, rfl⟩)
    (fun i d hd y hy cenv s' X' E' N' S' G' EW' hW' hc hJ _ => by cases hy; exact hE i d hd cenv s' X' E' N' S' G' EW' hW' hc hJ))
theorem EnvW.of {W : List Addr} {oa : Option Addr} (h : ∀ b ∈ W, b ∉ Wr env oa) : EnvW W env := ⟨fun q => h _ q (Wr.loc env oa), fun _ _ hc q => h _ q (Wr.cel hc)⟩
theorem assign_comp2 {cf : Orc} {K : Frag} {m n : Nat} {elt iter : Expr} {y x : Str} {py px : Pos} {csc : Scope} {pos p : Pos} {sc : List (Str × NameKind)} {σ : Sg} {X W : List Addr} {J : Nat → Heap → List Addr → Prop} {it : Dt} {items : List Dt} {g : Dt → Dt}
    (B : Bn K) (CG' : CG K cf) (C : CF K prog w m cf) (hc : canSet sc x = true) (S : ScOk sc env) (P : Sep X env Option.none) (N : StOk s.heap X env Option.none σ) (G : Gd K s.heap) (R : Rm A m) (hok : compOk sc csc.names σ.1 y = true) (hk : csc.kind = .function) (hsz : items.length ≤ 1000)
    (hWX : ∀ b ∈ W, b ∈ X) (EW : ∀ b ∈ W, b ∉ Wr env Option.none) (KW : GdW K W) (FJ : Eff W J) (h1 : ev cf n sc σ.1 iter = some it) (hit : itemsD it = some items) (h0 : J 0 s.heap X)
    (hsw : swapsWith (.ListComp elt [⟨.Name y py, iter, [], 0⟩] csc pos) (some (.Name x px)) p.line env = pure true)
    (hE : ∀ (i : Nat) d, items[i]? = some d → ∀ (cenv : Env) (s' : Shared) (X' : List Addr) (E' : Value → Shared → Prop), EnvOk s'.heap X' cenv ((y, d) :: σ.1) → ScOk csc.names cenv → Gd K s'.heap → EnvW W cenv → (∀ b ∈ W, b ∈ X') → (cenv.code = env.code ∧ cenv.qual = env.qual) → J i s'.heap X' → (∀ b o, b ∉ W → s.heap.get? b = some o → s'.heap.get? b = some o) →
      wpAny (model prog w) A (eval elt cenv) (fun r s₃ => KeepsW W s' s₃ ∧ V s₃.heap X' (g d) r ∧ J (i + 1) s₃.heap X') E' s') :
    wpAny (model prog w) A (exec (.Assign [.Name x px] (.ListComp elt [⟨.Name y py, iter, [], 0⟩] csc pos) p) env) (fun f s' => f = .next ∧ KeepsW (W ++ Wr env Option.none) s s' ∧ StOk s'.heap X env Option.none (upd σ.1 x (.list (items.map g)), σ.2) ∧ J items.length s'.heap X) E s := by
  exact assign_lc hc S P N hWX EW FJ hsw (comp_core2 (dd := fun d => d) (f := fun d => some (some (g d))) S N.env G R.1 hok hk hsz (set_ev h1 env) hWX (EnvW.of EW) KW FJ (fun _ _ => TgOk.name (compFacts hok).x hk)
    (wpAny_mono ((ev_sound B CG' C n).1 sc σ.1 iter it env A E s X h1 S N.env G R) (fun v s₁ q => ⟨KeepsW.of q.1, q.2, FJ.keep _ _ _ _ (fun b o _ e => Keeps.ext q.1 b o e) h0⟩) fun _ _ x => x) hit compGo_all (fun _ _ _ h => by cases h)
    (fun d hd y hy cenv s' X' E' N' S' G' => by cases hy; exact wpAny_tests_nil ⟨Keeps.refl' _, rfl⟩)
    (fun i d hd y hy cenv s' X' E' N' S' G' EW' hW' hc hJ hx => by cases hy; exact hE i d hd cenv s' X' E' N' S' G' EW' hW' hc hJ hx))
theorem assign_comp {cf : Orc} {K : Frag} {m n : Nat} {elt iter : Expr} {y x : Str} {py px : Pos} {csc : Scope} {pos p : Pos} {sc : List (Str × NameKind)} {σ : Sg} {X W : List Addr} {J : Nat → Heap → List Addr → Prop} {it : Dt} {items : List Dt} {g : Dt → Dt}
    (B : Bn K) (CG' : CG K cf) (C : CF K prog w m cf) (hc : canSet sc x = true) (S : ScOk sc env) (P : Sep X env Option.none) (N : StOk s.heap X env Option.none σ) (G : Gd K s.heap) (R : Rm A m) (hok : compOk sc csc.names σ.1 y = true) (hk : csc.kind = .function) (hsz : items.length ≤ 1000)
    (hWX : ∀ b ∈ W, b ∈ X) (EW : ∀ b ∈ W, b ∉ Wr env Option.none) (KW : GdW K W) (FJ : Eff W J) (h1 : ev cf n sc σ.1 iter = some it) (hit : itemsD it = some items) (h0 : J 0 s.heap X)
    (hsw : swapsWith (.ListComp elt [⟨.Name y py, iter, [], 0⟩] csc pos) (some (.Name x px)) p.line env = pure false)
    (hE : EltOk prog w A K W J env.code env.qual y σ.1 csc elt items g) :
    wpAny (model prog w) A (exec (.Assign [.Name x px] (.ListComp elt [⟨.Name y py, iter, [], 0⟩] csc pos) p) env) (fun f s' => f = .next ∧ KeepsW (W ++ Wr env Option.none) s s' ∧ StOk s'.heap X env Option.none (upd σ.1 x (.list (items.map g)), σ.2) ∧ J items.length s'.heap X) E s := by
  rw [exec_Assign_Name env x px _ p hsw]
  refine wpAny_bind (wpAny_standAt (wpAny_bind (mono3 (comp_ef B CG' C S N.env G R hok hk hsz hWX (EnvW.of EW) KW FJ h1 hit h0 hE) fun v s₁ k₁ hv hJ => ?_)))
  have N₁ : StOk s₁.heap X env Option.none σ := N.frame P (fun b o hb e => k₁.out b o (fun q => hb.elim (fun n => n (hWX b q)) (fun n => EW b q n)) e) (k₁.live N.env.live)
  refine wpAny_bind (wpAny_standAt (wpAny_bind (wpAny_bindName (wpAny_mono (store_ok hc S P N₁ hv) (fun _ s₂ q => ?_) fun _ _ x => x))))
  exact wpAny_pure ⟨rfl, (k₁.sub fun b hb => List.mem_append_left _ hb).trans (q.1.sub fun b hb => List.mem_append_right _ hb), q.2, FJ.keep _ _ _ _ (fun b o hb e => q.1.out b o (fun z => hb.elim (fun n => n (P.sub b z)) (fun n => EW b n z)) e) hJ⟩
end Mine
end
section
open PySem PySem.W PyProof.Rows
set_option maxRecDepth 100000
set_option maxHeartbeats 4000000
namespace Mine
variable {prog : Program} {w : World} {A : Around} {E : Value → Shared → Prop} {s : Shared} {env : Env}
theorem call_iter {v : Value} {Q : Value → Shared → Prop} (h : wpAny (model prog w) A.in1 (pyIter v) Q E s) : wpAny (model prog w) A (call (.builtin "iter") [v]) Q E s := by
  refine PySem.Calls.call_function_entry (by decide +kernel) (by decide +kernel) kdk_entry_iter (kdk_args_iter _) ?_
  unfold Builtin.«iter»
  refine wpAny_bind (m := someArgs "iter" 1 2 _) (wpAny_of_eq (a := [v]) (by first | rfl | kernel_rfl!) ?_)
  show wpAny _ _ (pyIter v >>= _) _ _ _
  exact wpAny_bind (wpAny_mono h (fun u s' q => wpAny_pure ⟨_, rfl, q⟩) fun _ _ x => x)
theorem call_pos {cf : Orc} {K : Frag} {m n : Nat} (B : Bn K) (CG' : CG K cf) (C : CF K prog w m cf) {sc : List (Str × NameKind)} {ρ : List (Str × Dt)} {f : Str} {p pos : Pos} {args : List Expr} {ds : List Dt} {X : List Addr} {fv : Value} {Q : Value → Shared → Prop}
    (hf : ∀ Q' : Value → Shared → Prop, Q' fv s → wpAny (model prog w) A (eval (.Name f p) env) Q' E s) (hfv : ∀ h, Ext s.heap h → FnV h fv) (h1 : evs cf n sc ρ args = some ds) (S : ScOk sc env) (N : EnvOk s.heap X env ρ) (G : Gd K s.heap) (R : Rm A m)
    (h : ∀ vs s', Keeps s s' → VL s'.heap X ds vs → wpAny (model prog w) A (call fv vs []) Q E s') :
    wpAny (model prog w) A (eval (.Call (.Name f p) args [] pos) env) Q E s := by
  have hsp := (ev_sound B CG' C n).2.1 sc ρ args ds env A E s X pos h1 S N G R
  refine wpAny_Call_Name_kw (hf _ ?_)
  refine callWith_of (P := fun h => Ext s.heap h) ?_ (fun h hK => (hfv h hK).keeps) ?_
  · rw [hsp.1]; rfl
  · refine evalArgs_any hsp.1 rfl (wpAny_mono hsp.2 (fun vs s₁ q₁ => ?_) fun _ _ x => x)
    exact wpAny_evalAll_nil ⟨Keeps.ext q₁.1, h vs s₁ q₁.1 q₁.2⟩
theorem opq_name {sc : List (Str × NameKind)} {ρ : List (Str × Dt)} {X : List Addr} {y : Str} {p : Pos} {v : Value} {Q : Value → Shared → Prop} (S : ScOk sc env) (N : EnvOk s.heap X env ρ) (hl : isLoc sc y = true) (e : ρ.lookup y = some (.opq v))
    (hd : (y == Str.ofString "__debug__") = false) (hc : (y == Str.ofString "__classdict__") = false) (h : Q v s) : wpAny (model prog w) A (eval (.Name y p) env) Q E s := by
  rw [arm_eval_Name]
  refine wpAny_bind (wpAny_standAt ?_)
  have h1' : (y == ("__debug__" : Str)) = false := hd
  rw [h1']
  refine loc_load S N hl e hc fun u hu => ?_
  unfold V at hu
  rw [hu]; exact h
inductive ItInv (I : Addr) (W : List Addr) (n : Nat) (St : Nat → Heap → Prop) (N : Nat → Heap → Prop) (s : Shared) (k : Nat) (s' : Shared) : Prop
  | mk (i : Nat) (e : k = n + 1 - i) (hi : i ≤ n) (hst : St i s'.heap) (N : N i s'.heap) (K : KeepsW (I :: W) s s')
theorem for_it {K : Frag} {sc : List (Str × NameKind)} {x : Str} {px p : Pos} {iter : Expr} {body : List Stmt} {X fp : List Addr} {I : Addr} {items : List Dt} {PP : Nat → Value → Prop} {St : Nat → Heap → Prop} {σs : Nat → Sg}
    (hcs : canSet sc x = true) (hset : ∀ x, foldedSetIterable iter env x = pure x)
    (hiter : ∀ Q' : Value → Shared → Prop, Q' (.ref I) s → wpAny (model prog w) A (eval iter env) Q' E s)
    (W' : Walks prog w A I fp [I] items.length PP St) (hst : St 0 s.heap) (hfp : ∀ b ∈ fp, b ∉ Wr env Option.none) (hP : ∀ i u, PP i u → ∃ d, items[i]? = some d ∧ ∀ h X, V h X d u) (hlv : ∀ i h, St i h → ∃ o, h.get? I = some o)
    (hIX : I ∉ X) (hIW : I ∉ Wr env Option.none) (GW : GdW K (I :: Wr env Option.none))
    (S : ScOk sc env) (P : Sep X env Option.none) (N : StOk s.heap ([I] ++ X) env Option.none (σs 0)) (G : Gd K s.heap)
    (turn : ∀ i d, items[i]? = some d → ∀ (s' : Shared) (E' : Value → Shared → Prop), KeepsW (I :: Wr env Option.none) s s' → StOk s'.heap ([I] ++ X) env Option.none (upd (σs i).1 x d, (σs i).2) → Gd K s'.heap →
      wpAny (model prog w) A (execs body env) (fun f s'' => f = .next ∧ KeepsW (Wr env Option.none) s' s'' ∧ StOk s''.heap ([I] ++ X) env Option.none (σs (i + 1))) E' s') :
    wpAny (model prog w) A (exec (.For (.Name x px) iter body [] p) env) (fun f s' => f = .next ∧ KeepsD I (Wr env Option.none) s s' ∧ StOk s'.heap X env Option.none (σs items.length)) E s := by
  have P' : Sep ([I] ++ X) env Option.none := P.grow fun b hb => List.mem_append_right _ hb
  refine wpAny_For (hiter _ ?_) hset
  refine W'.self 0 _ _ _ hst ?_
  refine codeAny_forLoop (ItInv I (Wr env Option.none) items.length St (fun i h => StOk h ([I] ++ X) env Option.none (σs i)) s) ?_ (items.length + 1)
    ⟨0, rfl, Nat.zero_le _, hst, N, KeepsW.of (Keeps.refl' _)⟩
  rintro k s' ⟨i, rfl, hi, hst', N', K'⟩
  by_cases hlt : i < items.length
  · refine W'.item i _ _ _ hlt hst' fun v h₃ tk₃ hPv hst₃ hk₃ => ?_
    obtain ⟨d, hd, hVd⟩ := hP i v hPv
    have hI₃ : ∃ o, h₃.get? I = some o := hlv (i + 1) h₃ hst₃
    have N₃ : StOk h₃ ([I] ++ X) env Option.none (σs i) := StOk.turn P hIX N' hI₃ hk₃
    have K₃ := K'.trans (KeepsW.turn (tk := tk₃) hI₃ hk₃)
    refine wpAny_assign_Name (mono2 (store_ok hcs S P' N₃ (hVd _ _)) fun _ s₄ k₄ N₄ => ?_)
    have K₄ := K₃.trans k₄.up
    have st₄ : St (i + 1) s₄.heap := W'.frame _ _ _ hst₃ fun b hb o e => k₄.out b o (hfp b hb) e
    refine mono3 (turn i d hd s₄ _ K₄ N₄ (Gd.keepsW K₄ GW G)) fun f s₅ qq0 k₅ N₅ => ?_
    obtain rfl := qq0
    have st₅ : St (i + 1) s₅.heap := W'.frame _ _ _ st₄ fun b hb o e => k₅.out b o (hfp b hb) e
    exact ⟨items.length + 1 - (i + 1), dec_lt hlt, i + 1, rfl, hlt, st₅, N₅, K₄.trans k₅.up⟩
  · have hin : i = items.length := Nat.le_antisymm hi (Nat.not_lt.mp hlt)
    subst hin
    refine W'.done _ _ _ hst' fun h₃ tk₃ hk₃ => ?_
    exact wpAny_execs_nil ⟨rfl, K'.dropI hIW hk₃, StOk.drop P hIX N' fun b o hb e => hk₃ b o (fun q => hb (List.mem_singleton.mp q)) e⟩
noncomputable def Fn2 (prog : Program) (w : World) (K : Frag) (m : Nat) (fs : List (Addr × Obj)) (f : Addr) (op : Int → Int → Int) : Prop :=
  ∀ (A : Around) (E : Value → Shared → Prop) (s : Shared) (vs : List Value) (X : List Addr) (a b : Int), Rm A m → Gd K s.heap → Live s.heap X → (∀ p ∈ fs, s.heap.get? p.1 = some p.2) → VL s.heap X [.int a, .int b] vs → wpAny (model prog w) A (call (.ref f) vs []) (fun r s' => Keeps s s' ∧ V s'.heap X (.int (op a b)) r) E s
noncomputable def redD (op : Int → Int → Int) (b : List UInt8) (a : Int) : Int := b.foldl (fun k c => op k (c.toNat : Int)) a
theorem redD_take (op : Int → Int → Int) (b : List UInt8) (a : Int) (i : Nat) (c : UInt8) (h : b[i]? = some c) : redD op (b.take (i + 1)) a = op (redD op (b.take i) a) (c.toNat : Int) := by
  unfold redD
  obtain ⟨hl, he⟩ := List.getElem?_eq_some_iff.mp h
  rw [List.take_succ_eq_append_getElem hl, List.foldl_append, he]
  rfl
end Mine
end
section
open PySem PySem.W PyProof.Rows
set_option maxRecDepth 100000
set_option maxHeartbeats 4000000
namespace Mine
variable {prog : Program} {w : World} {A : Around} {E : Value → Shared → Prop} {s : Shared} {env : Env}
theorem c_reduce (P : Params) {m : Nat} {fs : List (Addr × Obj)} {fo : Obj} {f : Addr} {op : Int → Int → Int} {fd₀ : FuncData} (hF : Fn2 prog w (Kx P) m fs f op) (hmf : (f, fo) ∈ fs) (hfd : fo.data = .func fd₀) {b : List UInt8} {a : Int} {t ta : Tok} {X : List Addr}
    (R : Rm A (m + 1)) (G : Gd (Kx P) s.heap) (L : Live s.heap X) (hf : ∀ p ∈ fs, s.heap.get? p.1 = some p.2) :
    wpAny (model prog w) A (call (.ref 125) [.ref f, .bytes b.toArray t, .int a ta] []) (fun r s' => Keeps s s' ∧ V s'.heap X (.int (redD op b a)) r) E s := by
  have FO : FnOk (Kx P) 125 (fdAt (Kx P) 125) (bodyAt (Kx P) 125) [Str.ofString "function", Str.ofString "sequence", Str.ofString "initial"] := FnOk.of (by kernel_rfl)
  refine fn_enter (m := m) (ds := [.opq (.ref f), .bytes b, .int a]) (vals := [.ref f, .bytes b.toArray t, .int a ta]) (X := X) FO R G L (by unfold VL V; exact ⟨_, _, rfl, rfl, by unfold VL V; exact ⟨_, _, rfl, ⟨_, rfl⟩, by unfold VL V; exact ⟨_, _, rfl, ⟨_, rfl⟩, by unfold VL; rfl⟩⟩⟩) (kp_binds G.kin fun S => by kernel_rfl) fun env E s₁ FR => ?_
  obtain ⟨hcode, k₁, hfr, S, Sp, N, G₁, GW, R₁⟩ := FR
  have hfX : ∀ b ∈ Wr env Option.none, ∀ p ∈ fs, b ≠ p.1 := fun b hb p hp q => by
    have := hfr b hb
    rw [q, hf p hp] at this; cases this
  conv => arg 3; arg 1; whnf
  refine wpAny_execs_cons ?_
  rw [exec_Assign_Name env _ _ _ _ rfl]
  refine wpAny_bind (wpAny_standAt (wpAny_bind ?_))
  have hkit : env.kindOf (Str.ofString "iter") = some .globalImplicit := kind_glob S (by kernel_rfl)
  refine call_pos (cf := cf0) (n := 5) (ds := [.bytes b]) (X := Wr env Option.none ++ X) (fv := .builtin "iter") (Bn_x P) (cf0_g P) cf0_f (fun Q' q => blt_name G₁ N.env hkit (by kernel_rfl) (by decide +kernel) (by decide +kernel) (by decide +kernel) q) (fun _ _ => trivial) (by kernel_rfl) S N.env G₁ R₁ fun vs s₂ k₂ hvs => ?_
  obtain ⟨v, rfl, hv⟩ := hvs.one
  refine call_iter (wpAny_mono (iter_walks (X := Wr env Option.none ++ X) hv rfl R₁.1) (fun itv s₃ q₃ => ?_) fun _ _ e => e)
  obtain ⟨fp, PP, St, rfl, W', hst, hfp, ⟨oI, hoI, hlI⟩, k₃, hlv, hP⟩ := q₃
  generalize hII : s₂.heap.objs.size = I at W' ⊢
  have W'' : Walks prog w (A.deeper env) I fp [I] (List.map (fun c : UInt8 => Dt.int (c.toNat : Int)) b).length PP St := by rw [← hII] at W' ⊢; exact W'.of_in1
  have hIn : s₂.heap.get? I = Option.none := fresh_none _ (by lia)
  have hlI' : s₃.heap.get? I = some oI := hII ▸ hlI
  have N₂ := N.ext (Keeps.ext k₂)
  have hIX : I ∉ Wr env Option.none ++ X := fun q => by
    obtain ⟨o, ho⟩ := N₂.env.live I q
    rw [hIn] at ho; cases ho
  have hIW : I ∉ Wr env Option.none := fun q => hIX (List.mem_append_left _ q)
  have k₁₂ := Keeps.trans' k₁ k₂
  have hfI : ∀ p ∈ fs, p.1 ≠ I := fun p hp q => by
    have := Keeps.ext k₁₂ _ _ (hf p hp)
    rw [q, hIn] at this; cases this
  have Sp' : Sep ([I] ++ (Wr env Option.none ++ X)) env Option.none := Sp.grow fun b hb => List.mem_append_right _ hb
  have N₃ : StOk s₃.heap ([I] ++ (Wr env Option.none ++ X)) env Option.none _ := N₂.grow (fun b hb => by
    have e : b = I := by simpa using hb
    rw [e]; exact hIn) (Keeps.ext k₃) fun a ha => by
      have e : a = I := by simpa using ha
      rw [e]; exact ⟨_, hlI'⟩
  have G₃ := G₁.ext (Keeps.ext (Keeps.trans' k₂ k₃))
  have hcs : canSet (fdAt (Kx P) 125).scope.names (Str.ofString "it") = true := by kernel_rfl
  refine wpAny_bind (wpAny_standAt (wpAny_bind (wpAny_bindName (mono2 (store_ok (d := .opq (.ref I)) hcs S Sp' N₃ (by unfold V; rfl)) fun _ s₄ k₄ N₄ => ?_))))
  have G₄ := Gd.keepsW k₄ GW G₃
  refine wpAny_pure ?_
  refine wpAny_execs_cons (wpAny_If (wpAny_isTrue_Compare1 ?_ rfl))
  refine mono2 (name_step (cf := cf0) (n := 0) (d := .int a) (X := [I] ++ (Wr env Option.none ++ X)) (Bn_x P) (cf0_g P) (by kernel_rfl) S N₄.env G₄) fun u s₅ k₅ hu => ?_
  obtain ⟨tu, rfl⟩ := hu
  have N₅ := N₄.ext (Keeps.ext k₅)
  have G₅ := G₄.ext (Keeps.ext k₅)
  have hkim : env.kindOf (Str.ofString "_initial_missing") = some .globalImplicit := kind_glob S (by kernel_rfl)
  refine glob_name (v := .ref 117) G₅ N₅.env hkim (by kernel_rfl) (by decide +kernel) ?_
  refine wpAny_is_other rfl (fun z => nomatch z) (wpAny_truthy_bool ?_)
  rw [if_neg (by decide)]
  refine wpAny_mono ((ex_sound (Bn_x P) (cf0_g P) cf0_f 10).2 (fdAt (Kx P) 125).scope.names ((upd ([Str.ofString "function", Str.ofString "sequence", Str.ofString "initial"].zip [Dt.opq (.ref f), Dt.bytes b, Dt.int a]) (Str.ofString "it") (.opq (.ref I))), []) _ .next ([(Str.ofString "function", .opq (.ref f)), (Str.ofString "sequence", .bytes b), (Str.ofString "initial", .int a), (Str.ofString "it", .opq (.ref I)), (Str.ofString "value", .int a)], []) env _ _ s₅ ([I] ++ (Wr env Option.none ++ X)) (by kernel_rfl) S Sp' N₅ G₅ GW R₁) (fun f' s₆ q₆ => ?_) fun _ _ x => x
  obtain ⟨k₆, N₆, F₆⟩ := q₆
  have : f' = .next := F₆
  subst this
  have G₆ := Gd.keepsW k₆ GW G₅
  have k₄₆ : KeepsW (Wr env Option.none) s₃ s₆ := (k₄.trans (KeepsW.of k₅)).trans k₆
  refine wpAny_execs_cons ?_
  have hit : ∀ (p : Pos) (Q' : Value → Shared → Prop), Q' (.ref I) s₆ → wpAny (model prog w) (A.deeper env) (eval (.Name (Str.ofString "it") p) env) Q' E s₆ := fun p Q' q =>
    opq_name (sc := (fdAt (Kx P) 125).scope.names) S N₆.env (by kernel_rfl) (by kernel_rfl) (by decide +kernel) (by decide +kernel) q
  have hfpW : ∀ b ∈ fp, b ∉ Wr env Option.none := fun b hb q => by
    rcases (hfp b hb).2 with e | e
    · exact hIW (by rw [← hII, ← e]; exact q)
    · exact e (List.mem_append_left _ q)
  have hst₆ : St 0 s₆.heap := W'.frame _ _ _ hst fun b hb o e => k₄₆.out b o (hfpW b hb) e
  have GW' : GdW (Kx P) (I :: Wr env Option.none) := by
    have gI : ∀ a o, s₂.heap.get? a = some o → a ≠ I := fun a o e q => by rw [q, hIn] at e; cases e
    have G₂ := G₁.ext (Keeps.ext k₂)
    refine ⟨fun a o e q => ?_, fun q => ?_, fun q => ?_, fun q => ?_⟩
    · rcases List.mem_cons.mp q with q | q
      · exact gI a o (G₂.kin a o e) q
      · exact GW.k a o e q
    · rcases List.mem_cons.mp q with q | q
      · obtain ⟨_, o, _, _, ho, _⟩ := G₂.g; exact gI _ o ho q
      · exact GW.g q
    · rcases List.mem_cons.mp q with q | q
      · obtain ⟨_, ⟨o, _, _, ho, _⟩, _⟩ := G₂.b; exact gI _ o ho q
      · exact GW.b q
    · rcases List.mem_cons.mp q with q | q
      · obtain ⟨_, ⟨o, _, _, ho, _⟩, _⟩ := G₂.lim; exact gI _ o ho q
      · exact GW.c q
  have fo₆ : ∀ p ∈ fs, s₆.heap.get? p.1 = some p.2 := fun p hp => k₄₆.out _ _ (fun q => hfX _ q p hp rfl) (Keeps.ext (Keeps.trans' k₁₂ k₃) _ _ (hf p hp))
  have hpv : ∀ i u, PP i u → ∃ d, (List.map (fun c : UInt8 => Dt.int (c.toNat : Int)) b)[i]? = some d ∧ ∀ h X, V h X d u := fun i u hu => by
    obtain ⟨d, hd, hV⟩ := hP i u hu
    refine ⟨d, hd, fun h X => ?_⟩
    rw [List.getElem?_map] at hd
    obtain ⟨c, _, rfl⟩ := Option.map_eq_some_iff.mp hd
    unfold V at hV ⊢; exact hV
  refine wpAny_mono (for_it (σs := fun i => ([(Str.ofString "function", .opq (.ref f)), (Str.ofString "sequence", .bytes b), (Str.ofString "initial", .int a), (Str.ofString "it", .opq (.ref I)), (Str.ofString "value", .int (redD op (b.take i) a))] ++ (match i with | 0 => [] | i + 1 => [(Str.ofString "element", .int ((b.getD i 0).toNat : Int))]), []))
    (items := List.map (fun c : UInt8 => Dt.int (c.toNat : Int)) b) (PP := PP) (St := St) (X := Wr env Option.none ++ X) (sc := (fdAt (Kx P) 125).scope.names) (K := Kx P)
    (show canSet (fdAt (Kx P) 125).scope.names (Str.ofString "element") = true by kernel_rfl) (fun _ => rfl) (hit _) W'' hst₆ hfpW hpv (fun i h st => by have := hlv i h st; rw [hII] at this; exact this) hIX hIW GW' S Sp N₆ G₆ ?_) (fun f' s₇ q₇ => ?_) fun _ _ x => x
  · intro i d hd s' E' K' N' G'
    rw [List.getElem?_map] at hd
    obtain ⟨c, hc, rfl⟩ := Option.map_eq_some_iff.mp hd
    have N'' : StOk s'.heap ([I] ++ (Wr env Option.none ++ X)) env Option.none ([(Str.ofString "function", .opq (.ref f)), (Str.ofString "sequence", .bytes b), (Str.ofString "initial", .int a), (Str.ofString "it", .opq (.ref I)), (Str.ofString "value", .int (redD op (b.take i) a)), (Str.ofString "element", .int (c.toNat : Int))], []) := by
      cases i <;> exact cast (by kernel_rfl) N'
    have hf' : ∀ p ∈ fs, s'.heap.get? p.1 = some p.2 := fun p hp => K'.out _ _ (fun q => (List.mem_cons.mp q).elim (hfI p hp) (fun q => hfX _ q p hp rfl)) (fo₆ p hp)
    refine wpAny_execs_cons ?_
    rw [exec_Assign_Name env _ _ _ _ rfl]
    refine wpAny_bind (wpAny_standAt (wpAny_bind ?_))
    refine call_pos (cf := cf0) (n := 5) (ds := [.int (redD op (b.take i) a), .int (c.toNat : Int)]) (X := [I] ++ (Wr env Option.none ++ X)) (fv := .ref f) (Bn_x P) (cf0_g P) cf0_f (fun Q' q => opq_name (sc := (fdAt (Kx P) 125).scope.names) S N''.env (by kernel_rfl) (by kernel_rfl) (by decide +kernel) (by decide +kernel) q)
      (fun h x => ⟨fo, fd₀, x _ _ (hf' _ hmf), hfd⟩) (by kernel_rfl) S N''.env G' R₁ fun vs s₁₀ k₁₀ hvs => ?_
    have G₁₀ := G'.ext (Keeps.ext k₁₀)
    refine mono2 (hF _ _ s₁₀ vs ([I] ++ (Wr env Option.none ++ X)) _ _ R₁ G₁₀ (N''.env.live.ext (Keeps.ext k₁₀)) (fun p hp => Keeps.ext k₁₀ _ _ (hf' p hp)) hvs) fun r s₁₁ k₁₁ hr => ?_
    have k₁₀₁₁ := Keeps.trans' k₁₀ k₁₁
    refine wpAny_bind (wpAny_standAt (wpAny_bind (wpAny_bindName (wpAny_mono (store_ok (d := .int (op (redD op (b.take i) a) (c.toNat : Int))) (show canSet (fdAt (Kx P) 125).scope.names (Str.ofString "value") = true by kernel_rfl) S Sp' (N''.ext (Keeps.ext k₁₀₁₁)) hr) (fun _ s₁₂ q => ?_) fun _ _ x => x))))
    refine wpAny_pure (wpAny_execs_nil ⟨rfl, (KeepsW.of k₁₀₁₁).trans q.1, ?_⟩)
    have q2 := q.2
    rw [redD_take op b a i c hc]
    have hcd : b.getD i 0 = c := by rw [List.getD_eq_getElem?_getD, hc]; rfl
    have hcd' : (match i + 1 with | 0 => ([] : List (Str × Dt)) | i + 1 => [(Str.ofString "element", Dt.int ((b.getD i 0).toNat : Int))]) = [(Str.ofString "element", .int (c.toNat : Int))] := by
      show [(Str.ofString "element", Dt.int ((b.getD i 0).toNat : Int))] = _
      rw [hcd]
    rw [hcd']
    exact cast (by kernel_rfl) q2
  · obtain ⟨rfl, k₇, N₇⟩ := q₇
    rw [List.length_map, List.take_length] at N₇
    refine wpAny_execs_cons (wpAny_Return_some ?_)
    have k₃₇ : KeepsD I (Wr env Option.none) s₃ s₇ := by
      obtain ⟨h4, t4, rfl, e4, l4⟩ := k₄₆
      obtain ⟨h7, t7, rfl, e7, l7⟩ := k₇
      exact ⟨h7, t7, rfl, fun b o n1 n2 e => e7 b o n1 n2 (e4 b o n2 e), fun b hb e => l7 b hb (l4 b hb e)⟩
    have G₇ : Gd (Kx P) s₇.heap := by
      obtain ⟨h7, t7, rfl, e7, l7⟩ := k₇
      have key : ∀ b o, b ∉ I :: Wr env Option.none → s₆.heap.get? b = some o → h7.get? b = some o := fun b o n e => e7 b o (fun q => n (q ▸ .head _)) (fun q => n (.tail _ q)) e
      exact ⟨fun a o e => key a o (GW'.k a o e) (G₆.kin a o e), let ⟨mg, e⟩ := G₆.g; ⟨mg, e.at' fun o q => key _ o GW'.g q⟩, let ⟨mb, e, r⟩ := G₆.b; ⟨mb, e.at' fun o q => key _ o GW'.b q, r⟩, let ⟨mc, e, r⟩ := G₆.lim; ⟨mc, e.at' fun o q => key _ o GW'.c q, r⟩⟩
    refine mono2 (name_step (cf := cf0) (n := 0) (d := .int (redD op b a)) (X := Wr env Option.none ++ X) (Bn_x P) (cf0_g P) (by kernel_rfl) S N₇.env G₇) fun u s₈ k₈ hu => ?_
    refine ⟨u, rfl, ?_, V.less (fun b hb => List.mem_append_right _ hb) hu⟩
    have k₁₃ := Keeps.trans' k₁₂ k₃
    obtain ⟨h3, t3, rfl, e3⟩ := k₁₃
    obtain ⟨h7, t7, rfl, e7, l7⟩ := k₃₇
    obtain ⟨h8, t8, rfl, e8⟩ := k₈
    refine ⟨h8, t8, rfl, fun b o e => e8 b o (e7 b o (fun q => ?_) (fun q => ?_) (e3 b o e))⟩
    · have := Keeps.ext k₁₂ b o e
      rw [q, hIn] at this; cases this
    · have := hfr b q
      rw [this] at e; cases e
end Mine
end
section
open PySem PySem.W PyProof.Rows
set_option maxRecDepth 100000
set_option maxHeartbeats 4000000
namespace Mine
variable {prog : Program} {w : World} {A : Around} {E : Value → Shared → Prop} {s : Shared} {env : Env}
noncomputable def codeHdB (K : Frag) (c P : Addr) : Bool := match K.lookup c with
  | some o => (o.cls == .type "code") && (c != P) && (match o.data with
    | .fields vs => (vs[11]? == some (.ref P)) && (match vs.getD 18 .none with | .str _ _ => true | _ => false) && (match vs.getD 7 .none with | .int _ _ => true | _ => false) && (match vs.getD 9 .none with | .bool _ => true | _ => false) && (match vs.getD 10 .none with | .int _ _ => true | _ => false)
    | _ => false)
  | Option.none => false
theorem CodeHd.ofB {K : Frag} {c P : Addr} {h : Heap} (X : K.In h) (e : codeHdB K c P = true) : CodeHd h c P := by
  unfold codeHdB at e
  split at e
  · rename_i o ho
    rw [Bool.and_eq_true, Bool.and_eq_true] at e
    obtain ⟨⟨e1, e2⟩, e3⟩ := e
    split at e3
    · rename_i vs hd
      simp only [Bool.and_eq_true] at e3
      obtain ⟨⟨⟨⟨f1, f2⟩, f3⟩, f4⟩, f5⟩ := e3
      have g1 : vs[11]? = some (.ref P) := by simpa using f1
      have g2 : vs.getD 11 .none = .ref P := by rw [Array.getD_eq_getD_getElem?, g1]; rfl
      split at f2
      · rename_i a1 a2 b2
        split at f3
        · rename_i a3 b3 c3
          split at f4
          · rename_i a4 b4
            split at f5
            · rename_i a5 b5 c5
              exact ⟨o, vs, a1, a2, a3, b3, a4, a5, b5, X _ _ ho, by simpa using e1, hd, g1, g2, b2, c3, b4, c5, by simpa using e2⟩
            · cases f5
          · cases f4
        · cases f3
      · cases f2
    · cases e3
  · cases e
theorem law_code (P : Params) : codeHdB (Kx P) 165 163 = true := by kernel_rfl
theorem cmp_code (P : Params) : codeHdB (Kx P) 115 111 = true := by kernel_rfl
noncomputable def bltB (K : Frag) : Bool := match K.lookup 4 with
  | some o => (o.cls == .type "module") && (o.dict == some builtinsNs) && (match o.data with | .plain => true | _ => false)
  | Option.none => false
theorem bltB_x (P : Params) : bltB (Kx P) = true := by kernel_rfl
theorem blt_at {P : Params} {h : Heap} {mg : Str → Option Value} (X : (Kx P).In h) (hg : h.Ns mainGlobals mg) (T : Addr) (hT : T ≠ 4) : h.BuiltinsAt mg T := by
  have e := bltB_x P
  unfold bltB at e
  split at e
  · rename_i o ho
    simp only [Bool.and_eq_true] at e
    obtain ⟨⟨e1, e2⟩, e3⟩ := e
    refine ⟨4, o, mg_of X hg (by kernel_rfl), by decide, by decide, Ne.symm hT, X _ _ ho, by simpa using e1, by simpa using e2, ?_⟩
    split at e3
    · assumption
    · cases e3
  · cases e
noncomputable abbrev lamObj (env : Env) (params : Arguments) (body : Expr) (scope : Scope) (clos : List (Str × Addr)) (pm : Value) (c' : Addr) (ctv : Value) : Obj :=
  kla_obj "<lambda>" (env.qual ++ "<lambda>") params body scope clos pm c' ctv
structure LamMade (s s' : Shared) (f c' : Addr) (env : Env) (params : Arguments) (body : Expr) (scope : Scope) (clos : List (Str × Addr)) : Prop where
  keep : KeepsW [163] s s'
  fresh : s.heap.get? f = Option.none
  obj : ∃ pm ctv, s'.heap.get? f = some (lamObj env params body scope clos pm c' ctv)
  crec : s'.heap.CodeRec (.ref c') (env.qual ++ "<lambda>")
theorem lam_new {P : Params} {params : Arguments} {body : Expr} {scope : Scope} {pos : Pos} {clos : List (Str × Addr)} {ps : Array Value} {Q : Value → Shared → Prop}
    (G : Gd (Kx P) s.heap) (hdef : defaultsOf params env = ([], [])) (hcl : closureFor scope env = pure clos) (hge : env.globals = mainGlobals) (hcode : env.code = .ref 165) (hP : s.heap.get? 163 = some (tabObj ps)) (ht : TriplesOk ps.toList) (hnf : codeAmong pos ps.toList = Option.none)
    (h : ∀ f c' s', LamMade s s' f c' env params body scope clos → s.heap.get? c' = Option.none → f ≠ c' → s'.heap.get? 163 = some (tabObj (ps ++ #[rawInt pos.line, rawInt pos.col, .ref c'])) → Q (.ref f) s') :
    wpAny (model prog w) A (eval (.Lambda params body scope pos) env) Q E s := by
  obtain ⟨mg, hg⟩ := G.g
  refine kla_eval hdef (kla_makeFunction hcl hge hg hcode (CodeHd.ofB G.kin (law_code P)) hP ht hnf (by decide) (blt_at G.kin hg 163 (by decide)) fun c' ctv h' tk hx h1 h2 h3 h4 => ?_)
  have hsz : s.heap.objs.size ≤ h'.objs.size := Nat.le_trans h1 (Nat.le_of_lt h2)
  refine h _ c' _ ⟨⟨_, _, rfl, fun b o hb e => Heap.get?_push_of_some _ (hx b o (fun q => hb (q ▸ .head _)) e), fun b hb e => ?_⟩, fresh_none _ hsz, ⟨_, _, Heap.get?_push_size _ rfl⟩, ?_⟩ (fresh_none _ h1) (Nat.ne_of_gt h2) (Heap.get?_push_of_some _ h4)
  · have e : b = 163 := by simpa using hb
    subst e
    exact ⟨_, Heap.get?_push_of_some _ h4⟩
  · obtain ⟨c₂, oc, vs, t, e2, hoc, hd, hv⟩ := h3
    exact ⟨c₂, oc, vs, t, e2, Heap.get?_push_of_some _ hoc, hd, hv⟩
theorem lam_hit {P : Params} {params : Arguments} {body : Expr} {scope : Scope} {pos : Pos} {clos : List (Str × Addr)} {ps : Array Value} {c' : Addr} {Q : Value → Shared → Prop}
    (G : Gd (Kx P) s.heap) (hdef : defaultsOf params env = ([], [])) (hcl : closureFor scope env = pure clos) (hge : env.globals = mainGlobals) (hcode : env.code = .ref 165) (hP : s.heap.get? 163 = some (tabObj ps)) (ht : TriplesOk ps.toList) (hf : codeAmong pos ps.toList = some (.ref c')) (hrec : s.heap.CodeRec (.ref c') (env.qual ++ "<lambda>"))
    (h : ∀ f s', LamMade s s' f c' env params body scope clos → s'.heap.get? 163 = some (tabObj ps) → Q (.ref f) s') :
    wpAny (model prog w) A (eval (.Lambda params body scope pos) env) Q E s := by
  obtain ⟨mg, hg⟩ := G.g
  refine kla_eval hdef (kla_makeFunctionHit hcl hge hg hcode (CodeHd.ofB G.kin (law_code P)) hP ht hf (blt_at G.kin hg 163 (by decide)) fun ctv h' tk hx hsz => ?_)
  refine h _ _ ⟨⟨_, _, rfl, fun b o hb e => Heap.get?_push_of_some _ (hx b o e), fun b hb e => let ⟨o, e⟩ := e; ⟨o, Heap.get?_push_of_some _ (hx b o e)⟩⟩, fresh_none _ hsz, ⟨_, _, Heap.get?_push_size _ rfl⟩, ?_⟩ (Heap.get?_push_of_some _ (hx _ _ hP))
  obtain ⟨c₂, oc, vs, t, e2, hoc, hd, hv⟩ := hrec
  exact ⟨c₂, oc, vs, t, e2, Heap.get?_push_of_some _ (hx _ _ hoc), hd, hv⟩
end Mine
end
section
open PySem PySem.W PyProof.Rows
set_option maxRecDepth 100000
set_option maxHeartbeats 4000000
namespace Mine
variable {prog : Program} {w : World} {A : Around} {E : Value → Shared → Prop} {s : Shared} {env : Env}
section
variable (a1 a2 p1 p2 p3 p4 p5 : Pos) (k : Nat)
noncomputable def redParams : Arguments := { posonlyargs := [], args := [{ arg := Str.ofString "number", annotation := none, pos := a1 }, { arg := Str.ofString "octet", annotation := none, pos := a2 }], vararg := none, kwonlyargs := [], kw_defaults := [], kwarg := none, defaults := [] }
noncomputable def redBody : Expr := .BinOp (.BinOp (.Name (Str.ofString "number") p1) .Mult (.Constant (.int 256) k p2) p3) .Add (.Name (Str.ofString "octet") p4) p5
noncomputable def redScope : Scope := { kind := .function, names := [(Str.ofString "number", .local), (Str.ofString "octet", .local)], isGenerator := false, isCoroutine := false, more := [] }
end
theorem red_kinds : ∀ x ∈ [Str.ofString "number", Str.ofString "octet"], redScope.names.lookup x = some .local := by decide +kernel
theorem red_nocell : ∀ x ∈ redScope.names, x.2 ≠ .cell := by decide +kernel
theorem red_locs : ∀ x, redScope.names.lookup x = some .local → x ∈ [Str.ofString "number", Str.ofString "octet"] := by
  intro x hx
  have := mem_of_lookup hx
  simp only [redScope, List.mem_cons, Prod.mk.injEq, List.not_mem_nil, or_false] at this
  rcases this with ⟨rfl, _⟩ | ⟨rfl, _⟩ <;> simp
theorem red_nofree : ∀ x, redScope.names.lookup x ≠ some .free := by
  intro x hx
  have := mem_of_lookup hx
  simp only [redScope, List.mem_cons, Prod.mk.injEq, List.not_mem_nil, or_false] at this
  rcases this with ⟨_, h⟩ | ⟨_, h⟩ <;> cases h
theorem lam_red (P : Params) {m : Nat} {a1 a2 p1 p2 p3 p4 p5 : Pos} {k : Nat} {f c' : Addr} {pm ctv : Value} {q : Str} {oc : Obj} {vs : Array Value} {t : Tok} (hoc : oc.data = .fields vs) (hq : vs[1]? = some (.str q t)) :
    Fn2 prog w (Kx P) (m + 1) [(f, kla_obj "<lambda>" q (redParams a1 a2) (redBody p1 p2 p3 p4 p5 k) redScope [] pm c' ctv), (c', oc)] f (fun a b => a * 256 + b) := by
  intro A E s vals X a b R G L hfs hv
  have hf := hfs _ (.head _)
  have hc := hfs _ (.tail _ (.head _))
  dsimp only at hf hc
  obtain ⟨v, r, rfl, h1, h2⟩ : ∃ v r, vals = v :: r ∧ V s.heap X (.int a) v ∧ VL s.heap X [.int b] r := by unfold VL at hv; exact hv
  obtain ⟨u, rfl, h3⟩ := h2.one
  have CO : CloOk s.heap f (kla_fn "<lambda>" q (redParams a1 a2) (redBody p1 p2 p3 p4 p5 k) redScope [] pm (.ref c') ctv) [Str.ofString "number", Str.ofString "octet"] :=
    { obj := ⟨_, hf, rfl⟩, gl := rfl, bl := rfl, cd := ⟨c', oc, vs, t, rfl, hc, hoc, hq⟩, co := rfl, gen := rfl, kind := rfl, nodup := by decide +kernel, kinds := red_kinds, locs := red_locs, nocell := red_nocell }
  refine clo_ev (m := m) (n := 6) (ρc := []) (names := [Str.ofString "number", Str.ofString "octet"]) (ds := [.int a, .int b]) (vals := [v, u]) (cf := cf0) (Bn_x P) (cf0_g P) cf0_f CO rfl R G L hv (BindsTo.of_eq (by kernel_rfl)) (fun x hx => ?_) (fun x d e => by simp at e) ?_
  · exact absurd hx (red_nofree x)
  · exact ev_by [.d (.int (a * 256))] (fun z => ai (bmr a 256 rfl) z) (by kernel_rfl)
noncomputable def TabSt (lp : Pos) (q : Str) (h : Heap) (X : List Addr) : Prop :=
  h.get? 163 = some (tabObj #[]) ∨ ∃ c', h.get? 163 = some (tabObj #[rawInt lp.line, rawInt lp.col, .ref c']) ∧ h.CodeRec (.ref c') q ∧ c' ∉ X
theorem TabSt.eff (lp : Pos) (q : Str) : Eff [163] (fun _ => TabSt lp q) where
  keep := fun i h h' X k x => by
    rcases x with x | ⟨c', x, y, z⟩
    · exact .inl (k _ _ (.inr (by simp)) x)
    · refine bc fun nG => ?_
      obtain ⟨c₂, oc, vs, t, e2, hoc, hd, hv⟩ := y
      refine nG ?_
      cases e2
      exact .inr ⟨c', k _ _ (.inr (by simp)) x, ⟨c', oc, vs, t, rfl, k _ _ (.inl z) hoc, hd, hv⟩, z⟩
  more := fun i h X Y k x => by
    rcases x with x | ⟨c', x, y, z⟩
    · exact .inl x
    · refine .inr ⟨c', x, y, fun hy => ?_⟩
      refine bc fun nG => ?_
      obtain ⟨c₂, oc, vs, t, e2, hoc, hd, hv⟩ := y
      refine nG ?_
      cases e2
      rw [k c' hy z] at hoc; cases hoc
noncomputable def redG : Dt → Dt
  | .bytes b => .int (redD (fun a c => a * 256 + c) b 1)
  | d => d
theorem gdw_of {K : Frag} {a : Addr} (h : K.lookup a = Option.none) (h1 : a ≠ mainGlobals) (h2 : a ≠ builtinsNs) (h3 : a ≠ cStatics) : GdW K [a] where
  k := fun b o e q => by
    have z : b = a := by simpa using q
    rw [z, h] at e; cases e
  g := fun q => h1 (by simpa using Eq.symm (List.mem_singleton.mp q))
  b := fun q => h2 (by simpa using Eq.symm (List.mem_singleton.mp q))
  c := fun q => h3 (by simpa using Eq.symm (List.mem_singleton.mp q))
theorem gdw163 (P : Params) : GdW (Kx P) [163] := gdw_of (by kernel_rfl) (by decide) (by decide) (by decide)
theorem gdw111 (P : Params) : GdW (Kx P) [111] := gdw_of (by kernel_rfl) (by decide) (by decide) (by decide)
theorem red_elt (P : Params) {m : Nat} {a1 a2 p1 p2 p3 p4 p5 lp q1 q2 q3 q4 : Pos} {k k' : Nat} {ρ : List (Str × Dt)} {csc : Scope} {items : List Dt} {ql : Str} (R : Rm A (m + 3)) (hit : ∀ d ∈ items, ∃ b, d = .bytes b)
    (hrow : csc.names.lookup (Str.ofString "row") = some .local) (hred : csc.names.lookup (Str.ofString "reduce") = some .globalImplicit) :
    EltOk prog w A (Kx P) [163] (fun _ => TabSt lp (ql ++ "<lambda>")) (.ref 165) ql (Str.ofString "row") ρ csc (.Call (.Name (Str.ofString "reduce") q1) [.Lambda (redParams a1 a2) (redBody p1 p2 p3 p4 p5 k) redScope lp, .Name (Str.ofString "row") q2, .Constant (.int 1) k' q3] [] q4) items redG := by
  intro i d hd cenv s' X' E' N' S' G' EW' hW' hc hJ
  obtain ⟨b, rfl⟩ := hit d (List.mem_of_getElem? hd)
  have hkr : cenv.kindOf (Str.ofString "reduce") = some .globalImplicit := kind_glob S' (by rw [hred]; rfl)
  refine wpAny_Call_Name_kw (glob_name (v := .ref 125) G' N' hkr (by kernel_rfl) (by decide +kernel) ?_)
  refine callWith_of (P := fun h => (Kx P).In h) rfl (fun h hK => ((FnOk.of (names := [Str.ofString "function", Str.ofString "sequence", Str.ofString "initial"]) (by kernel_rfl) : FnOk (Kx P) 125 _ _ _).fnv h hK).keeps) ?_
  have cont : ∀ f c' s₁, LamMade s' s₁ f c' cenv (redParams a1 a2) (redBody p1 p2 p3 p4 p5 k) redScope [] → TabSt lp (ql ++ "<lambda>") s₁.heap X' → wpAny (model prog w) A (eval (.Name (Str.ofString "row") q2) cenv)
      (fun v s₂ => wpAny (model prog w) A (eval (.Constant (.int 1) k' q3) cenv) (fun u s₃ => (Kx P).In s₃.heap ∧ wpAny (model prog w) A (call (.ref 125) [.ref f, v, u] []) (fun r s₄ => KeepsW [163] s' s₄ ∧ V s₄.heap X' (redG (.bytes b)) r ∧ TabSt lp (ql ++ "<lambda>") s₄.heap X') E' s₃) E' s₂) E' s₁ := by
    intro f c' s₁ LM TS
    refine bc fun nG => ?_
    obtain ⟨kp, hfr, ⟨pm, ctv, hob⟩, ⟨c₂, oc, vs, t, e2, hoc, hdd, hv⟩⟩ := LM
    refine nG ?_
    cases e2
    have GW := gdw163 P
    have G₁ : Gd (Kx P) s₁.heap := Gd.keepsW kp GW G'
    have N₁ : EnvOk s₁.heap X' cenv ((Str.ofString "row", .bytes b) :: ρ) := N'.keepsW kp hW' EW'
    refine wpAny_mono (name_step (cf := cf0) (n := 0) (d := .bytes b) (Bn_x P) (cf0_g P) (ev_loc (by unfold isLoc; rw [hrow]) (by kernel_rfl) (by kernel_rfl)) S' N₁ G₁) (fun v s₂ q => ?_) fun _ _ x => x
    refine bc fun nG => ?_
    obtain ⟨k₂, hv₂⟩ := q
    unfold V at hv₂
    obtain ⟨tv, rfl⟩ := hv₂
    refine nG ?_
    refine wpAny_Constant_int ?_
    have G₂ := G₁.ext (Keeps.ext k₂)
    have k₂' : Keeps s₁ { s₂ with toks := s₂.toks + 1 } := Keeps.trans' k₂ (Keeps.tok _)
    refine ⟨G₂.kin, ?_⟩
    have hfs : ∀ p ∈ [(f, kla_obj "<lambda>" (cenv.qual ++ "<lambda>") (redParams a1 a2) (redBody p1 p2 p3 p4 p5 k) redScope [] pm c' ctv), (c', oc)], s₂.heap.get? p.1 = some p.2 := fun p hp => by
      rcases List.mem_cons.mp hp with rfl | hp
      · exact Keeps.ext k₂ _ _ hob
      · have e : p = (c', oc) := by simpa using hp
        rw [e]; exact Keeps.ext k₂ _ _ hoc
    refine mono2 (c_reduce P (m := m + 1) (X := X') (lam_red (prog := prog) (w := w) (m := m) P hdd hv) (.head _) rfl (R.mono (by lia)) G₂ (N₁.live.ext (Keeps.ext k₂')) hfs) fun r s₄ k₄ hr => ?_
    refine ⟨(kp.trans (KeepsW.of k₂')).trans (KeepsW.of k₄), hr, (TabSt.eff lp (ql ++ "<lambda>")).keep 0 _ _ _ (fun b o _ e => Keeps.ext (Keeps.trans' k₂' k₄) b o e) TS⟩
  refine evalArgs_any rfl rfl (PySem.Calls.spliced_cons ?_)
  rcases hJ with hJ | ⟨c₀, hJ, hrec, hcX⟩
  · refine lam_new G' rfl rfl N'.glob hc.1 hJ trivial rfl fun f c' s₁ LM hcn hne htab => PySem.Calls.spliced_cons (wpAny_mono (cont f c' s₁ LM (.inr ⟨c', htab, by rw [← hc.2]; exact LM.crec, fun q => ?_⟩)) (fun v s₂ q => PySem.Calls.spliced_cons (wpAny_mono q (fun u s₃ q => PySem.Calls.spliced_nil (wpAny_evalAll_nil q)) fun _ _ x => x)) fun _ _ x => x)
    obtain ⟨o, ho⟩ := N'.live c' q
    rw [hcn] at ho; cases ho
  · refine lam_hit (c' := c₀) G' rfl rfl N'.glob hc.1 hJ ?_ ?_ (by rw [hc.2]; exact hrec) fun f s₁ LM htab => PySem.Calls.spliced_cons (wpAny_mono (cont f c₀ s₁ LM (.inr ⟨c₀, htab, by rw [← hc.2]; exact LM.crec, hcX⟩)) (fun v s₂ q => PySem.Calls.spliced_cons (wpAny_mono q (fun u s₃ q => PySem.Calls.spliced_nil (wpAny_evalAll_nil q)) fun _ _ x => x)) fun _ _ x => x)
    · exact trivial
    · simp [codeAmong, rawInt]
end Mine
end
section
open PySem PySem.W PyProof.Rows
set_option maxRecDepth 100000
set_option maxHeartbeats 4000000
namespace Mine
variable {prog : Program} {w : World} {A : Around} {E : Value → Shared → Prop} {R : Result → Shared → Prop} {s : Shared} {env : Env}
noncomputable abbrev lc2 (elt t1 i1 t2 i2 : Expr) (csc : Scope) (pos : Pos) : Expr := .ListComp elt [⟨t1, i1, [], 0⟩, ⟨t2, i2, [], 0⟩] csc pos
theorem turn2_out (elt t1 i1 t2 i2 : Expr) (csc : Scope) (pos : Pos) (it acc : Value) (env : Env) :
    compTurn (lc2 elt t1 i1 t2 i2 csc pos) 0 it acc env = (standAt i1.pos >>= fun _ => pyNext it >>= fun r => match r with
      | none => pure (.done .next)
      | some v => letOwnedTupleGo t1 it v >>= fun _ => assign t1 env v >>= fun _ => eval i2 env >>= fun x => standAt i2.pos >>= fun _ => foldedSetIterable i2 env x >>= fun x => holding [x] (pyIter x) >>= fun it2 =>
        runOwn (.compStart (lc2 elt t1 i1 t2 i2 csc pos) 1 it2 acc env) env >>= fun _ => again (.compLoop (lc2 elt t1 i1 t2 i2 csc pos) 0 it acc env)) := by rfl
theorem turn2_in (elt t1 i1 t2 i2 : Expr) (csc : Scope) (pos : Pos) (it acc : Value) (env : Env) :
    compTurn (lc2 elt t1 i1 t2 i2 csc pos) 1 it acc env = (standAt i2.pos >>= fun _ => pyNext it >>= fun r => match r with
      | none => pure (.done .next)
      | some v => letOwnedTupleGo t2 it v >>= fun _ => assign t2 env v >>= fun _ =>
        (eval elt env >>= fun x => call (.builtin "list.append") [acc, x] >>= fun _ => pure ()) >>= fun _ => again (.compLoop (lc2 elt t1 i1 t2 i2 csc pos) 1 it acc env)) := by rfl
theorem start2_in {elt t1 i1 t2 i2 : Expr} {csc : Scope} {pos : Pos} {it acc : Value} {env : Env}
    (h0 : codeAny (model prog w) A (.compLoop (lc2 elt t1 i1 t2 i2 csc pos) 1 it acc env) R s)
    (h : wpAny (model prog w) A (pyIter it) (fun it' s' => codeAny (model prog w) A (.compLoop (lc2 elt t1 i1 t2 i2 csc pos) 1 it' acc env) R s') (notedBy (model prog w) A env fun x s' => R (.error x) s') s) :
    codeAny (model prog w) A (.compStart (lc2 elt t1 i1 t2 i2 csc pos) 1 it acc env) R s := by
  refine codeAny_of_tree ?_
  show wpAny _ _ ((compStart (lc2 elt t1 i1 t2 i2 csc pos) 1 it acc env).onRaise (fun x => do noteFrame x env; standAt theWindowsPlace)) _ _ s
  refine wpAny_notedAt ?_
  unfold compStart
  show wpAny _ _ (ask >>= _) _ _ s
  refine wpAny_bind (wpAny_askSetting (wpAny_ite ?_))
  split
  · first
      | exact wpAny_bind (wpAny_pure (wpAny_pure (And.intro rfl h0)))
      | exact wpAny_pure (And.intro rfl h0)
  · first
      | exact wpAny_bind (wpAny_rule (wpAny_bind (wpAny_standAt (wpAny_bind (wpAny_mono h (fun it' s' h' => wpAny_pure (And.intro rfl h')) fun _ _ x => x)))))
      | (refine wpAny_bind (wpAny_rule ?_); show wpAny _ _ (standAt i2.pos >>= _) _ _ s; exact wpAny_bind (wpAny_standAt (wpAny_bind (wpAny_mono h (fun it' s' h' => wpAny_pure (And.intro rfl h')) fun _ _ x => x))))
noncomputable def St2 (h : Heap) (X : List Addr) (cenv : Env) (D : Addr) (ys : List Str) (ρ : List (Str × Dt)) (acc : List Int) : Prop :=
  ∃ ρ', StOk h X cenv (some D) (ρ', acc) ∧ ∀ y, y ∉ ys → ρ'.lookup y = ρ.lookup y
theorem store_loc {sc : List (Str × NameKind)} {X : List Addr} {oa : Option Addr} {σ : Sg} {x : Str} {d : Dt} {v : Value} {D : Addr} (hc : sc.lookup x = some .local) (S : ScOk sc env) (P : Sep X env oa) (N : StOk s.heap X env oa σ) (hv : V s.heap X d v) :
    wpAny (model prog w) A (storeName env x v) (fun _ s' => KeepsW [env.locals, D] s s' ∧ StOk s'.heap X env oa (upd σ.1 x d, σ.2)) E s :=
  set_loc ((S x _ hc).elim id fun q => nomatch q.1) (.head _) P N hv
theorem w2_sub (cenv : Env) (D : Addr) : ∀ b ∈ [cenv.locals, D], b ∈ Wr cenv (some D) := fun b hb => by
  rcases List.mem_cons.mp hb with q | q
  · rw [q]; exact Wr.loc _ _
  · have e : b = D := by simpa using q
    rw [e]; exact Wr.own rfl
theorem inner_loop {K : Frag} {t1 i1 i2 : Expr} {x2 : Str} {px p2 : Pos} {csc : Scope} {pos : Pos} {cenv : Env} {X fp ys : _} {I D : Addr} {items : List Int} {PP : Nat → Value → Prop} {St : Nat → Heap → Prop} {ρ : List (Str × Dt)} {acc : List Int} {cf : Orc} (B : Bn K) (CG' : CG K cf)
    (hcs : csc.names.lookup x2 = some .local) (hd1 : (x2 == Str.ofString "__debug__") = false) (hd2 : (x2 == Str.ofString "__classdict__") = false)
    (W' : Walks prog w A I fp [I] items.length PP St) (hst : St 0 s.heap) (hfp : ∀ b ∈ fp, b ∉ [cenv.locals, D]) (hP : ∀ i u, PP i u → ∃ n, items[i]? = some n ∧ ∀ h X, V h X (.int n) u) (hlv : ∀ i h, St i h → ∃ o, h.get? I = some o)
    (hIX : I ∉ X) (hIW : I ∉ [cenv.locals, D]) (GW : GdW K (I :: [cenv.locals, D])) (hsz : acc.length + items.length ≤ 100000) (hxy : x2 ∈ (ys : List Str))
    (S : ScOk csc.names cenv) (P : Sep X cenv (some D)) (N : St2 s.heap ([I] ++ X) cenv D ys ρ acc) (G : Gd K s.heap)
    (hR : ∀ s', KeepsD I ([cenv.locals, D]) s s' → St2 s'.heap X cenv D ys ρ (acc ++ items) → R (.ok .next) s') :
    codeAny (model prog w) A (.compLoop (lc2 (.Name x2 px) t1 i1 (.Name x2 p2) i2 csc pos) 1 (.ref I) (.ref D) cenv) R s := by
  have P' : Sep ([I] ++ X) cenv (some D) := P.grow fun b hb => List.mem_append_right _ hb
  have w2sub : ∀ b ∈ [cenv.locals, D], b ∈ Wr cenv (some D) := w2_sub cenv D
  refine codeAny_loop rfl (ItInv I [cenv.locals, D] items.length St (fun i h => St2 h ([I] ++ X) cenv D ys ρ (acc ++ items.take i)) s) ?_ (items.length + 1)
    ⟨0, rfl, Nat.zero_le _, hst, by simpa using N, KeepsW.of (Keeps.refl' _)⟩
  rintro k s' ⟨i, rfl, hi, hst', ⟨ρ', N', hρ'⟩, K'⟩
  show wpAny _ _ ((compTurn (lc2 (.Name x2 px) t1 i1 (.Name x2 p2) i2 csc pos) 1 (.ref I) (.ref D) cenv).onRaise (fun x => do noteFrame x cenv; theTreesLotGoes x)) _ _ s'
  refine wpAny_noted ?_
  rw [turn2_in]
  refine wpAny_bind (wpAny_standAt (wpAny_bind ?_))
  by_cases hlt : i < items.length
  · refine W'.item i _ _ _ hlt hst' fun v h₃ tk₃ hPv hst₃ hk₃ => ?_
    obtain ⟨n, hn, hVd⟩ := hP i v hPv
    have hI₃ : ∃ o, h₃.get? I = some o := hlv (i + 1) h₃ hst₃
    have N₃ : StOk h₃ ([I] ++ X) cenv (some D) (ρ', acc ++ items.take i) := StOk.turn P hIX N' hI₃ hk₃
    have K₃ := K'.trans (KeepsW.turn (tk := tk₃) hI₃ hk₃)
    refine wpAny_bind (m := letOwnedTupleGo (.Name x2 p2) (.ref I) v) (wpAny_of_eq (a := ()) rfl ?_)
    refine wpAny_bind (wpAny_assign_Name (mono2 (store_loc (D := D) hcs S P' N₃ (hVd _ _)) fun _ s₄ k₄ N₄ => ?_))
    have K₄ := K₃.trans k₄.up
    have st₄ : St (i + 1) s₄.heap := W'.frame _ _ _ hst₃ fun b hb o e => k₄.out b o (hfp b hb) e
    refine wpAny_bind (wpAny_bind ?_)
    have hloc : isLoc csc.names x2 = true := by unfold isLoc; rw [hcs]
    refine wpAny_mono (name_step (cf := cf) (n := 0) (d := .int n) B CG' (by
      rw [ev_name, hd1, hd2, hloc]
      simp [upd_lookup]) S N₄.env (Gd.keepsW K₄ GW G)) (fun u s₅ q => ?_) fun _ _ x => x
    obtain ⟨k₅, hu⟩ := q
    obtain ⟨tu, rfl⟩ := hu
    have N₅ := N₄.ext (Keeps.ext k₅)
    have hl : (acc ++ items.take i).length ≤ 100000 := by rw [List.length_append, List.length_take]; lia
    refine wpAny_bind (own_append (W := [cenv.locals, D]) (.tail _ (.head _)) rfl P' N₅ hl fun _ h₆ k₆ N₆ => wpAny_pure (wpAny_pure ⟨rfl, items.length + 1 - (i + 1), dec_lt hlt, i + 1, rfl, hlt, ?_, ⟨upd ρ' x2 (.int n), ?_, fun y hy => ?_⟩, K₄.trans ((KeepsW.of k₅).trans k₆.up)⟩))
    · exact W'.frame _ _ _ (W'.frame _ _ _ st₄ fun b hb o e => Keeps.ext k₅ b o e) fun b hb o e => k₆.out b o (hfp b hb) e
    · have e : acc ++ items.take (i + 1) = acc ++ items.take i ++ [n] := by
        rw [List.append_assoc, List.take_add_one, hn]; rfl
      rw [e]; exact N₆
    · have hne : (y == x2) = false := by
        cases h : y == x2 with
        | false => rfl
        | true => exact absurd (by rw [eq_of_beq h]; exact hxy) hy
      rw [upd_lookup, hne]; exact hρ' y hy
  · have hin : i = items.length := Nat.le_antisymm hi (Nat.not_lt.mp hlt)
    subst hin
    rw [List.take_length] at N'
    refine W'.done _ _ _ hst' fun h₃ tk₃ hk₃ => ?_
    exact wpAny_pure (hR _ (K'.dropI hIW hk₃) ⟨ρ', StOk.drop P hIX N' fun b o hb e => hk₃ b o (fun q => hb (List.mem_singleton.mp q)) e, hρ'⟩)
theorem intsD {ns : List Int} {i : Nat} {d : Dt} (h : (ns.map Dt.int)[i]? = some d) : ∃ n, ns[i]? = some n ∧ d = .int n := by
  rw [List.getElem?_map] at h
  obtain ⟨n, hn, rfl⟩ := Option.map_eq_some_iff.mp h
  exact ⟨n, hn, rfl⟩
theorem outer_loop {K : Frag} {m n : Nat} {i1 i2 : Expr} {x1 x2 : Str} {px p1 p2 : Pos} {csc : Scope} {pos : Pos} {cenv : Env} {X fp : List Addr} {ys : List Str} {I D : Addr} {items : List Dt} {g : Dt → List Int} {PP : Nat → Value → Prop} {St : Nat → Heap → Prop} {ρ : List (Str × Dt)} {cf : Orc} (B : Bn K) (CG' : CG K cf) (C : CF K prog w m cf) (Rm' : Rm A m)
    (hcs1 : csc.names.lookup x1 = some .local) (hcs : csc.names.lookup x2 = some .local) (hd1 : (x2 == Str.ofString "__debug__") = false) (hd2 : (x2 == Str.ofString "__classdict__") = false) (hx1 : x1 ∈ ys) (hx2 : x2 ∈ ys)
    (W' : Walks prog w A I fp [I] items.length PP St) (hst : St 0 s.heap) (hfp : ∀ b ∈ fp, b ∉ [cenv.locals, D]) (hP : ∀ i u, PP i u → ∃ d, items[i]? = some d ∧ ∀ h X, V h X d u) (hlv : ∀ i h, St i h → ∃ o, h.get? I = some o)
    (hIX : I ∉ X) (hIW : I ∉ [cenv.locals, D]) (GW : GdW K (I :: [cenv.locals, D]))
    (hev : ∀ d ∈ items, ∀ ρ'', ρ''.lookup x1 = some d → (∀ y, y ∉ ys → ρ''.lookup y = ρ.lookup y) → ev cf n csc.names ρ'' i2 = some (.list ((g d).map .int))) (hlen : ∀ d ∈ items, (g d).length ≤ 1000) (hsz : items.length ≤ 50)
    (S : ScOk csc.names cenv) (P : Sep X cenv (some D)) (N : St2 s.heap ([I] ++ X) cenv D ys ρ []) (G : Gd K s.heap)
    (hR : ∀ s', KeepsD I ([cenv.locals, D]) s s' → St2 s'.heap X cenv D ys ρ ((items.map g).flatten) → R (.ok .next) s') :
    codeAny (model prog w) A (.compLoop (lc2 (.Name x2 px) (.Name x1 p1) i1 (.Name x2 p2) i2 csc pos) 0 (.ref I) (.ref D) cenv) R s := by
  have P' : Sep ([I] ++ X) cenv (some D) := P.grow fun b hb => List.mem_append_right _ hb
  have w2sub : ∀ b ∈ [cenv.locals, D], b ∈ Wr cenv (some D) := w2_sub cenv D
  have hflat : ∀ i, i ≤ items.length → (((items.take i).map g).flatten).length ≤ 1000 * i := by
    intro i hi
    induction i with
    | zero => simp
    | succ i ih =>
      have hi' : i < items.length := hi
      rw [List.take_add_one, List.getElem?_eq_getElem hi']
      simp only [Option.toList_some, List.map_append, List.map_cons, List.map_nil, List.flatten_append, List.flatten_cons, List.flatten_nil, List.append_nil, List.length_append]
      have hl := hlen items[i] (List.getElem_mem hi')
      have := ih (by lia)
      lia
  refine codeAny_loop rfl (ItInv I [cenv.locals, D] items.length St (fun i h => St2 h ([I] ++ X) cenv D ys ρ (((items.take i).map g).flatten)) s) ?_ (items.length + 1)
    ⟨0, rfl, Nat.zero_le _, hst, by simpa using N, KeepsW.of (Keeps.refl' _)⟩
  rintro k s' ⟨i, rfl, hi, hst', ⟨ρ', N', hρ'⟩, K'⟩
  show wpAny _ _ ((compTurn (lc2 (.Name x2 px) (.Name x1 p1) i1 (.Name x2 p2) i2 csc pos) 0 (.ref I) (.ref D) cenv).onRaise (fun x => do noteFrame x cenv; theTreesLotGoes x)) _ _ s'
  refine wpAny_noted ?_
  rw [turn2_out]
  refine wpAny_bind (wpAny_standAt (wpAny_bind ?_))
  by_cases hlt : i < items.length
  · refine W'.item i _ _ _ hlt hst' fun v h₃ tk₃ hPv hst₃ hk₃ => ?_
    obtain ⟨d, hd, hVd⟩ := hP i v hPv
    have hI₃ : ∃ o, h₃.get? I = some o := hlv (i + 1) h₃ hst₃
    have N₃ : StOk h₃ ([I] ++ X) cenv (some D) (ρ', ((items.take i).map g).flatten) := StOk.turn P hIX N' hI₃ hk₃
    have K₃ := K'.trans (KeepsW.turn (tk := tk₃) hI₃ hk₃)
    refine wpAny_bind (m := letOwnedTupleGo (.Name x1 p1) (.ref I) v) (wpAny_of_eq (a := ()) rfl ?_)
    refine wpAny_bind (wpAny_assign_Name (mono2 (store_loc (D := D) hcs1 S P' N₃ (hVd _ _)) fun _ s₄ k₄ N₄ => ?_))
    have K₄ := K₃.trans k₄.up
    have st₄ : St (i + 1) s₄.heap := W'.frame _ _ _ hst₃ fun b hb o e => k₄.out b o (hfp b hb) e
    have hne : ∀ y, y ∉ ys → (y == x1) = false := fun y hy => by
      cases h : y == x1 with
      | false => rfl
      | true => exact absurd (by rw [eq_of_beq h]; exact hx1) hy
    have hv2 := hlen d (List.mem_of_getElem? hd)
    have hv1 := hev d (List.mem_of_getElem? hd) (upd ρ' x1 d) (by rw [upd_lookup]; simp) (fun y hy => by rw [upd_lookup, hne y hy]; exact hρ' y hy)
    have G₄ := Gd.keepsW K₄ GW G
    refine wpAny_bind (mono2 ((ev_sound B CG' C n).1 csc.names _ i2 _ cenv A _ s₄ ([I] ++ X) hv1 S N₄.env G₄ Rm') fun u s₅ k₅ hu => ?_)
    have N₅ := N₄.ext (Keeps.ext k₅)
    have G₅ := G₄.ext (Keeps.ext k₅)
    refine wpAny_bind (wpAny_standAt (wpAny_bind (wpAny_of_eq (set_ev hv1 cenv u) (wpAny_bind (wpAny_holding ?_)))))
    refine wpAny_mono (iter_walks (X := [I] ++ X) hu rfl Rm'.1) (fun itv s₆ q₆ => ?_) fun _ _ x => x
    obtain ⟨fp2, PP2, St', rfl, W2, hst2, hfp2, ⟨oI, hoI, hlI⟩, k₆, hlv2, hP2⟩ := q₆
    generalize hII : s₅.heap.objs.size = I2 at W2 ⊢
    have hIn : s₅.heap.get? I2 = Option.none := fresh_none _ (Nat.le_of_eq hII)
    have hlI' : s₆.heap.get? I2 = some oI := hII ▸ hlI
    have hI2X : I2 ∉ [I] ++ X := N₅.env.notin hIn
    have hI2W : I2 ∉ [cenv.locals, D] := fun q => hI2X (P'.sub _ (w2sub _ q))
    have N₆ : StOk s₆.heap ([I2] ++ ([I] ++ X)) cenv (some D) (upd ρ' x1 d, ((items.take i).map g).flatten) := N₅.grow1 hIn (Keeps.ext k₆) hlI'
    have G₆ := G₅.ext (Keeps.ext k₆)
    have hfp2W : ∀ b ∈ fp2, b ∉ [cenv.locals, D] := fun b hb q => by
      rcases (hfp2 b hb).2 with e | e
      · exact hI2W (by rw [← hII, ← e]; exact q)
      · exact e (P'.sub _ (w2sub _ q))
    have GW2 : GdW K (I2 :: [cenv.locals, D]) := (show GdW K [cenv.locals, D] from ⟨fun a o e q => GW.k a o e (.tail _ q), fun q => GW.g (.tail _ q), fun q => GW.b (.tail _ q), fun q => GW.c (.tail _ q)⟩).cons G₅ hIn
    have hlenE : ((g d).map Dt.int).length = (g d).length := List.length_map _
    rw [hlenE] at W2
    refine wpAny_bind (wpAny_runOwn ?_)
    have hP2' : ∀ i u, PP2 i u → ∃ n, (g d)[i]? = some n ∧ ∀ h X, V h X (.int n) u := fun j u hj => by
      obtain ⟨dd, hdd, hV⟩ := hP2 j u hj
      obtain ⟨nn, h1, rfl⟩ := intsD hdd
      refine ⟨nn, h1, fun h X => ?_⟩
      unfold V at hV ⊢; exact hV
    have hlim : (((items.take i).map g).flatten).length + (g d).length ≤ 100000 := by
      have := hflat i hi
      lia
    have loop : ∀ R' : Result → Shared → Prop, (∀ s₇, KeepsD I2 ([cenv.locals, D]) s₆ s₇ → St2 s₇.heap ([I] ++ X) cenv D ys ρ (((items.take i).map g).flatten ++ g d) → R' (.ok .next) s₇) → codeAny (model prog w) A (.compLoop (lc2 (.Name x2 px) (.Name x1 p1) i1 (.Name x2 p2) i2 csc pos) 1 (.ref I2) (.ref D) cenv) R' s₆ := fun R' hR' =>
      inner_loop (fp := fp2) (PP := PP2) (St := St') (ys := ys) (ρ := ρ) (X := [I] ++ X) (cf := cf) B CG' hcs hd1 hd2 W2 hst2 hfp2W hP2' (fun i h st => by have := hlv2 i h st; rw [hII] at this; exact this) hI2X hI2W GW2 hlim hx2 S P'
        ⟨_, N₆, fun y hy => by rw [upd_lookup, hne y hy]; exact hρ' y hy⟩ G₆ hR'
    refine start2_in (loop _ ?fin) (W2.self 0 _ _ _ hst2 (loop _ ?fin))
    · intro s₇ k₇ N₇
      refine wpAny_pure ⟨rfl, items.length + 1 - (i + 1), dec_lt hlt, i + 1, rfl, hlt, ?_, ?_, ?_⟩
      · obtain ⟨h7, t7, rfl, e7, l7⟩ := k₇
        refine W'.frame _ _ _ st₄ fun b hb o e => ?_
        have e5 := Keeps.ext k₅ b o e
        exact e7 b o (fun q => by rw [q, hIn] at e5; cases e5) (hfp b hb) (Keeps.ext k₆ b o e5)
      · have e : ((items.take (i + 1)).map g).flatten = ((items.take i).map g).flatten ++ g d := by
          rw [List.take_add_one, hd]; simp
        rw [e]; exact N₇
      · obtain ⟨h7, t7, rfl, e7, l7⟩ := k₇
        have k₅₆ := Keeps.trans' k₅ k₆
        obtain ⟨h6, t6, rfl, e6⟩ := k₅₆
        have key : ∀ b o, b ∉ [cenv.locals, D] → s₄.heap.get? b = some o → h7.get? b = some o := fun b o n e => e7 b o (fun q => by
          have e5 := Keeps.ext k₅ b o e
          rw [q, hIn] at e5; cases e5) n (e6 b o e)
        refine K₄.trans ⟨h7, t7, rfl, fun b o n e => key b o (fun q => n (.tail _ q)) e, fun b hb e => ?_⟩
        obtain ⟨o, ho⟩ := e
        by_cases q : b ∈ [cenv.locals, D]
        · exact l7 b q ⟨o, e6 b o ho⟩
        · exact ⟨o, key b o q ho⟩
  · have hin : i = items.length := Nat.le_antisymm hi (Nat.not_lt.mp hlt)
    subst hin
    rw [List.take_length] at N'
    refine W'.done _ _ _ hst' fun h₃ tk₃ hk₃ => ?_
    exact wpAny_pure (hR _ (K'.dropI hIW hk₃) ⟨ρ', StOk.drop P hIX N' fun b o hb e => hk₃ b o (fun q => hb (List.mem_singleton.mp q)) e, hρ'⟩)
noncomputable def comp2Ok (sc csc : List (Str × NameKind)) (ρ : List (Str × Dt)) : Bool :=
  csc.all (fun p => p.2 != .cell && (p.2 != .free || isCap sc p.1) && (p.2 != .local || ((csc.lookup p.1 == some .local) && (ρ.lookup p.1).isNone)))
theorem comp2_sound {K : Frag} {m n : Nat} {i1 i2 : Expr} {x1 x2 : Str} {px p1 p2 : Pos} {csc : Scope} {pos : Pos} {X : List Addr} {it : Dt} {items : List Dt} {g : Dt → List Int} {sc : List (Str × NameKind)} {ρ : List (Str × Dt)} {cf : Orc} (B : Bn K) (CG' : CG K cf) (C : CF K prog w m cf) (Rm' : Rm A m)
    (S : ScOk sc env) (P : Sep X env Option.none) (N : EnvOk s.heap X env ρ) (G : Gd K s.heap) (hok : comp2Ok sc csc.names ρ = true) (hk : csc.kind = .function)
    (hcs1 : csc.names.lookup x1 = some .local) (hcs : csc.names.lookup x2 = some .local) (hd1 : (x2 == Str.ofString "__debug__") = false) (hd2 : (x2 == Str.ofString "__classdict__") = false)
    (h1 : ev cf n sc ρ i1 = some it) (hit : itemsD it = some items)
    (hev : ∀ d ∈ items, ∀ ρ'', ρ''.lookup x1 = some d → (∀ y, y ∉ [x1, x2] → ρ''.lookup y = ρ.lookup y) → ev cf n csc.names ρ'' i2 = some (.list ((g d).map .int))) (hlen : ∀ d ∈ items, (g d).length ≤ 1000) (hsz : items.length ≤ 50)
    (hval : ∀ d ∈ items, ∃ i, d = .int i) :
    wpAny (model prog w) A (eval (lc2 (.Name x2 px) (.Name x1 p1) i1 (.Name x2 p2) i2 csc pos) env) (fun v s' => Keeps s s' ∧ V s'.heap X (.list ((items.map g).flatten.map .int)) v) E s := by
  have F : ∀ p ∈ csc.names, p.2 ≠ .cell ∧ (p.2 = .free → isCap sc p.1 = true) ∧ (p.2 = .local → csc.names.lookup p.1 = some .local ∧ ρ.lookup p.1 = Option.none) := fun p hp => by
    have := List.all_eq_true.mp hok p hp
    simp only [Bool.and_eq_true, Bool.or_eq_true, bne_iff_ne, ne_eq, beq_iff_eq, Option.isNone_iff_eq_none] at this
    obtain ⟨⟨a, b⟩, c⟩ := this
    exact ⟨a, fun e => b.resolve_left fun z => z e, fun e => c.resolve_left fun z => z e⟩
  have hcells : ∀ n, (n, NameKind.free) ∈ csc.names → ∃ c, env.cells.lookup n = some c := fun n hn => by
    obtain ⟨c, ov, hc, _⟩ := N.cel n (isCap_env S ((F _ hn).2.1 rfl))
    exact ⟨c, hc⟩
  have hclos : closureFor csc env = pure (clOf env.cells csc.names []) := closureFor_cl hcells
  rw [eval_ListComp]
  refine wpAny_comprehension_free (use := Option.none) rfl (set_ev h1 env) hclos hk (fun p hp hl => ((F p hp).2.2 hl).1) (mono2 ((ev_sound B CG' C n).1 sc ρ i1 it env A E s X h1 S N G Rm') fun v s₁ k₁ hv => ?_)
  have N₁ := N.ext (Keeps.ext k₁)
  have G₁ := G.ext (Keeps.ext k₁)
  refine wpAny_mono (iter_walks (X := X) hv hit Rm'.1) (fun itv s₂ h₂ => ?_) fun _ _ e => e
  obtain ⟨fp, PP, St, rfl, W', hst, hfp, ⟨oI, hoI, hlI⟩, k₂, hlv, hP⟩ := h₂
  have hI : s₁.heap.objs.size < s₂.heap.objs.size := by rw [hoI, Heap.size_push]; exact Nat.lt_succ_self _
  refine wpAny_newObj_type (wpAny_newFunctionEnv (fun p hp => (F p hp).1) (by intro y hy; simp at hy) (fun h₁ hns₁ hsb₁ => ?_) hk)
  dsimp only at hns₁ hsb₁ ⊢
  generalize hH2 : s₂.heap.push { cls := .type "list", dict := none, data := .seq ([] : List Value).toArray } = H2 at hns₁ hsb₁ ⊢
  have hC : H2.objs.size = s₂.heap.objs.size + 1 := by rw [← hH2, Heap.size_push]
  generalize hCC : H2.objs.size = Cc at hns₁ hsb₁ hC ⊢
  generalize hDD : s₂.heap.objs.size = D at hC hI ⊢
  generalize hII : s₁.heap.objs.size = I at hI W' ⊢
  have hDC : D ≠ Cc := by rw [hC]; exact Nat.ne_of_lt (Nat.lt_succ_self _)
  have hIC : I ≠ Cc := by rw [hC]; exact Nat.ne_of_lt (Nat.lt_succ_of_lt hI)
  have hID : I ≠ D := Nat.ne_of_lt hI
  have old : ∀ b o, s₂.heap.get? b = some o → h₁.get? b = some o := fun b o e => by
    have hb : b < D := by rw [← hDD]; exact Heap.lt_size e
    refine hsb₁.extBut b o (Nat.ne_of_lt (Nat.lt_trans hb (by rw [hC]; exact Nat.lt_succ_self _))) (Heap.get?_push_of_some _ ?_)
    rw [← hH2]
    exact Heap.get?_push_of_some _ e
  have hacc : h₁.PlainList D (List.toArray []) := by
    refine ⟨_, hsb₁.extBut _ _ hDC (Heap.get?_push_of_some _ (show H2.get? D = some { cls := .type "list", data := .seq (List.toArray []) 0 } from ?_))⟩
    rw [← hH2, ← hDD]
    exact Heap.get?_push_size _ rfl
  have hfI : s₁.heap.get? I = Option.none := fresh_none _ (Nat.le_of_eq hII)
  have hfD : s₁.heap.get? D = Option.none := fresh_none _ (Nat.le_trans (Nat.le_of_eq hII) (Nat.le_of_lt hI))
  have hfC : s₁.heap.get? Cc = Option.none := fresh_none _ (Nat.le_trans (Nat.le_of_eq hII) (Nat.le_trans (Nat.le_of_lt hI) (by rw [hC]; exact Nat.le_succ _)))
  have old₁ : Ext s₁.heap h₁ := fun b o e => old b o (Keeps.ext k₂ b o e)
  have nX : ∀ b, s₁.heap.get? b = Option.none → b ∉ X := fun b hb q => by
    obtain ⟨o, ho⟩ := N₁.live b q
    rw [hb] at ho; cases ho
  generalize hce : compEnvC csc (clOf env.cells csc.names []) Cc env = cenv
  have eloc : cenv.locals = Cc := by rw [← hce]; rfl
  have ecel : cenv.cells = clOf env.cells csc.names [] := by rw [← hce]; rfl
  have S' : ScOk csc.names cenv := by rw [← hce]; exact compEnv_sc _ _ _ _
  have kindc : ∀ y, cenv.kindOf y = (csc.names.lookup y).map fun k => if (k == NameKind.free && env.scope.kind == .function && env.kindOf y == some .cell) then .cell else k := fun y => by rw [← hce]; exact compEnv_kind _ _ _ _ y
  have celIn : ∀ y c, cenv.cells.lookup y = some c → env.cells.lookup y = some c := fun y c hc => by
    rw [ecel] at hc
    rcases clOf_sub env.cells csc.names [] y c hcells hc with q | q
    · cases q
    · exact q
  have celMem : ∀ p ∈ cenv.cells, p.2 ∈ X := by
    have key : ∀ (names : List (Str × NameKind)) (acc : List (Str × Addr)), (∀ n, (n, NameKind.free) ∈ names → ∃ c, env.cells.lookup n = some c) → (∀ p ∈ acc, p.2 ∈ X) → ∀ p ∈ clOf env.cells names acc, p.2 ∈ X := by
      intro names
      induction names with
      | nil => intro acc _ h p hp; exact h p hp
      | cons q r ih =>
        obtain ⟨nn, kk⟩ := q
        intro acc hc h p hp
        unfold clOf at hp
        split at hp
        · rename_i hkk
          refine ih _ (fun n hn => hc n (.tail _ hn)) (fun p' hp' => ?_) p hp
          rcases List.mem_cons.mp hp' with e | e
          · rw [e]
            obtain ⟨c, hc'⟩ := hc nn (by have : kk = .free := by simpa using hkk
                                         subst this; exact .head _)
            show (env.cells.lookup nn).getD _ ∈ X
            rw [hc']
            exact P.sub _ (Wr.cel hc')
          · exact h p' e
        · exact ih _ (fun n hn => hc n (.tail _ hn)) h p hp
    rw [ecel]
    exact key _ _ hcells (fun p hp => by cases hp)
  have inX0 : ∀ b ∈ X, b ∈ [D, Cc] ++ X := fun b hb => List.mem_append_right _ hb
  have P0 : Sep ([D, Cc] ++ X) cenv (some D) := by
    refine ⟨fun b hb => ?_, fun y c hc q => ?_, fun y z c hy hz => P.inj y z c (celIn y c hy) (celIn z c hz), fun a ha => ?_⟩
    · unfold Wr at hb
      rcases List.mem_cons.mp hb with q | q
      · rw [q, eloc]; simp
      · rcases List.mem_append.mp q with q | q
        · obtain ⟨p, hp, rfl⟩ := List.mem_map.mp q
          exact inX0 _ (celMem p hp)
        · have e : b = D := by simpa using q
          rw [e]; simp
    · rw [eloc] at q
      exact nX Cc hfC (q ▸ P.sub _ (Wr.cel (celIn y c hc)))
    · cases ha
      refine ⟨by rw [eloc]; exact hDC, fun y c hc q => nX D hfD (q ▸ P.sub _ (Wr.cel (celIn y c hc)))⟩
  have upV : ∀ {d' : Dt} {u : Value}, V s₁.heap X d' u → V h₁ ([I] ++ ([D, Cc] ++ X)) d' u := fun {d'} {u} hu => V.ext old₁ (V.more (fun b hb hn => by
    simp only [List.cons_append, List.nil_append, List.mem_cons] at hb
    rcases hb with rfl | rfl | rfl | q
    · exact hfI
    · exact hfD
    · exact hfC
    · exact absurd q hn) d' u hu)
  have hIo : ∃ o, h₁.get? I = some o := ⟨oI, old _ _ (hII ▸ hlI)⟩
  have N0 : StOk h₁ ([I] ++ ([D, Cc] ++ X)) cenv (some D) (ρ, []) := by
    refine ⟨⟨by rw [← hce]; exact hk, by rw [← hce]; exact N₁.glob, by rw [← hce]; exact N₁.blt, by rw [eloc]; simp, fun a ha => ?_, ⟨_, by rw [eloc]; exact hns₁, fun y d' e hy => ?_⟩, fun y hy => ?_⟩, fun a ha => by cases ha; exact ⟨[], hacc, .nil⟩⟩
    · simp only [List.cons_append, List.nil_append, List.mem_cons] at ha
      rcases ha with rfl | rfl | rfl | q
      · exact hIo
      · obtain ⟨n, e⟩ := hacc; exact ⟨_, e⟩
      · obtain ⟨o, _, _, ho, _⟩ := hns₁; exact ⟨o, ho⟩
      · obtain ⟨o, ho⟩ := N₁.live a q; exact ⟨o, old₁ a o ho⟩
    · rw [kindc] at hy
      obtain ⟨k, hk1, hk2⟩ := Option.map_eq_some_iff.mp hy
      have hloc : k = .local := by
        split at hk2
        · cases hk2
        · exact hk2
      subst hloc
      rw [((F _ (mem_of_lookup hk1)).2.2 rfl).2] at e; cases e
    · have hfree : csc.names.lookup y = some .free := by
        have key : ∃ k, csc.names.lookup y = some k ∧ (k = .cell ∨ k = .free) := by
          rcases hy with hy | hy <;> rw [kindc] at hy <;> obtain ⟨k, hk1, hk2⟩ := Option.map_eq_some_iff.mp hy <;> refine ⟨k, hk1, ?_⟩ <;> split at hk2
          · rename_i hc
            simp only [Bool.and_eq_true] at hc
            exact .inr (by simpa using hc.1.1)
          · exact .inl hk2
          · cases hk2
          · exact .inr hk2
        obtain ⟨k, hk1, hk2⟩ := key
        rcases hk2 with rfl | rfl
        · exact absurd rfl (F _ (mem_of_lookup hk1)).1
        · exact hk1
      obtain ⟨c, ov, hc1, hc2, hc3, hc4⟩ := N₁.cel y (isCap_env S ((F _ (mem_of_lookup hfree)).2.1 rfl))
      refine ⟨c, ov, ?_, hc2.keeps old₁, List.mem_append_right _ (inX0 _ hc3), fun d' e => let ⟨u, a, b⟩ := hc4 d' e; ⟨u, a, upV b⟩⟩
      rw [ecel]
      exact clOf_lookup env.cells hc1 csc.names [] (fun d q => by simp at q) (.inl (mem_of_lookup hfree))
  have hIX0 : I ∉ [D, Cc] ++ X := fun q => by
    simp only [List.cons_append, List.nil_append, List.mem_cons] at q
    rcases q with q | q | q
    · exact hID q
    · exact hIC q
    · exact nX I hfI q
  have hIW : I ∉ [cenv.locals, D] := by rw [eloc]; simp [hIC, hID]
  have fr₁ : ∀ b ∈ I :: [cenv.locals, D], s₁.heap.get? b = Option.none := fun b hb => by
    rw [eloc] at hb
    simp only [List.mem_cons, List.not_mem_nil, or_false] at hb
    rcases hb with rfl | rfl | rfl <;> assumption
  have GW : GdW K (I :: [cenv.locals, D]) := by
    have nn : ∀ a o, s₁.heap.get? a = some o → a ∉ I :: [cenv.locals, D] := fun a o e q => by rw [fr₁ a q] at e; cases e
    exact ⟨fun a o e => nn a o (G₁.kin a o e), by obtain ⟨_, o, _, _, e, _⟩ := G₁.g; exact nn _ o e, by obtain ⟨_, ⟨o, _, _, e, _⟩, _⟩ := G₁.b; exact nn _ o e, by obtain ⟨_, ⟨o, _, _, e, _⟩, _⟩ := G₁.lim; exact nn _ o e⟩
  have hfpW : ∀ b ∈ fp, b ∉ [cenv.locals, D] := fun b hb q => by
    have hlt : b < s₂.heap.objs.size := (hfp b hb).1
    rw [hDD] at hlt
    rw [eloc] at q
    simp only [List.mem_cons, List.not_mem_nil, or_false] at q
    rcases q with q | q
    · rw [q, hC] at hlt; exact absurd hlt (Nat.not_lt.mpr (Nat.le_succ D))
    · rw [q] at hlt; exact Nat.lt_irrefl _ hlt
  have hP' : ∀ i u, PP i u → ∃ d, items[i]? = some d ∧ ∀ h X, V h X d u := fun i u hu => by
    obtain ⟨d, hd, hV⟩ := hP i u hu
    obtain ⟨z, rfl⟩ := hval d (List.mem_of_getElem? hd)
    refine ⟨_, hd, fun h X => ?_⟩
    unfold V at hV ⊢; exact hV
  have hst₁ : St 0 h₁ := W'.frame _ _ _ hst fun b _ o e => old b o e
  have k₂' : Keeps s₁ { s₂ with heap := h₁, toks := s₂.toks + ([] : List (Str × Value)).length } := by
    obtain ⟨hh, tt, e, kk⟩ := k₂
    exact ⟨h₁, tt + 0, by rw [e]; rfl, old₁⟩
  have G₃ : Gd K h₁ := G₁.ext old₁
  have loop : ∀ R' : Result → Shared → Prop, (∀ s', KeepsD I [cenv.locals, D] { s₂ with heap := h₁, toks := s₂.toks + ([] : List (Str × Value)).length } s' → St2 s'.heap ([D, Cc] ++ X) cenv D [x1, x2] ρ ((items.map g).flatten) → R' (.ok .next) s') →
      codeAny (model prog w) A (.compLoop (lc2 (.Name x2 px) (.Name x1 p1) i1 (.Name x2 p2) i2 csc pos) 0 (.ref I) (.ref D) cenv) R' { s₂ with heap := h₁, toks := s₂.toks + ([] : List (Str × Value)).length } := fun R' hR' =>
    outer_loop (s := { s₂ with heap := h₁, toks := s₂.toks + ([] : List (Str × Value)).length }) (fp := fp) (PP := PP) (St := St) (X := [D, Cc] ++ X) B CG' C Rm' hcs1 hcs hd1 hd2 (.head _) (.tail _ (.head _)) W' hst₁ hfpW hP' (fun i h st => by have := hlv i h st; rw [hII] at this; exact this) hIX0 hIW GW hev hlen hsz S' P0 ⟨ρ, N0, fun _ _ => rfl⟩ G₃ hR'
  show codeAny (model prog w) A (.compStart (lc2 (.Name x2 px) (.Name x1 p1) i1 (.Name x2 p2) i2 csc pos) 0 (.ref I) (.ref D) { newEnv csc Cc env.globals (clOf env.cells csc.names []) env.qual Option.none .none (some env) env.builtins with scope := relabel csc env }) _ _
  have ece : ({ newEnv csc Cc env.globals (clOf env.cells csc.names []) env.qual Option.none .none (some env) env.builtins with scope := relabel csc env } : Env) = cenv := by rw [← hce]; rfl
  rw [ece]
  refine codeAny_compStart_list (loop _ ?fin) (W'.self 0 _ _ _ hst₁ (loop _ ?fin))
  intro s' k' ⟨ρ', N', _⟩
  obtain ⟨h', t', rfl, e', l'⟩ := k'
  obtain ⟨m', hn', _⟩ := N'.env.loc
  obtain ⟨vs, hp, hi⟩ := N'.own D rfl
  rw [eloc] at hn'
  show ∃ m, Heap.Ns h' Cc m ∧ ∀ h'', Heap.SameBut Cc h' h'' → _
  refine ⟨m', hn', fun h₃ hs₃ => ⟨?_, ?_⟩⟩
  · have key : ∀ b o, s₁.heap.get? b = some o → h₃.get? b = some o := fun b o e => by
      have hb : b ∉ I :: [cenv.locals, D] := fun q => by rw [fr₁ b q] at e; cases e
      refine hs₃.extBut b o (fun q => hb (by rw [q, eloc]; simp)) (e' b o (fun q => hb (by rw [q]; simp)) (fun q => hb (.tail _ q)) (old₁ b o e))
    refine Keeps.trans' k₁ ?_
    obtain ⟨hh, tt, e, kk⟩ := k₂
    exact ⟨h₃, t', by rw [e], key⟩
  · have hp₃ : h₃.PlainList D (List.toArray vs) := hp.at fun o e => hs₃.extBut _ o hDC e
    unfold V
    exact ⟨D, vs, rfl, nX D hfD, hp₃.isList, VL.of_ints hi⟩
end Mine
end
section
open PySem PySem.W PyProof.Rows
set_option maxRecDepth 100000
set_option maxHeartbeats 4000000
namespace Mine
variable {prog : Program} {w : World} {A : Around} {E : Value → Shared → Prop} {s : Shared} {env : Env}
theorem call_next_list {I L : Addr} {i : Nat} {items : Array Value} {x : Value} {Q : Value → Shared → Prop} (hit : s.heap.IsListIter I L i) (hl : s.heap.IsList L items) (hx : items[i]? = some x)
    (hQ : ∀ h', h'.IsListIter I L (i + 1) → Heap.SameBut I s.heap h' → Q x { s with heap := h' }) : wpAny (model prog w) A (call (.builtin "next") [.ref I]) Q E s := by
  refine PySem.Calls.call_function_entry (by decide +kernel) (by decide +kernel) kdk_entry_next (kdk_args_next _) ?_
  unfold Builtin.«next»
  refine wpAny_bind (m := someArgs "next" 1 2 _) (wpAny_of_eq (a := [Value.ref I]) (by first | rfl | kernel_rfl!) ?_)
  dsimp only
  refine wpAny_bind (wpAny_specialOf (name := Str.ofString "__next__") hit.typeIs slot_listiter_next.lookup ?_)
  refine wpAny_ite_split (fun hab => absurd hab (by decide)) (fun _ => ?_)
  refine bc fun nG => ?_
  obtain ⟨o, ho, hc, hd⟩ := id hit
  obtain ⟨ol, hol, _, nl, hdl⟩ := hl
  refine nG ?_
  refine wpAny_bind (wpAny_callSpecial?_slot (name := Str.ofString "__next__") hit.typeIs slot_listiter_next
    (wpAny_call_entry slot_listiter_next hit.typeIs entry_listiter_next ?_ (args_listiter_next _)))
  show wpAny _ _ (field (.ref I) 0 >>= _) _ _ s
  refine wpAny_bind (wpAny_field ho hd (x := .ref L) rfl ?_)
  show wpAny _ _ (if (Value.ref L == Value.none) = true then _ else _) _ _ s
  rw [if_neg (show ¬ ((Value.ref L == Value.none) = true) from Bool.false_ne_true)]
  show wpAny _ _ (field (.ref I) 1 >>= _) _ _ s
  refine wpAny_bind (wpAny_field ho hd (x := .int i 0) rfl ?_)
  show wpAny _ _ (seqItems? (.ref L) >>= _) _ _ s
  refine wpAny_bind (wpAny_seqItems hol hdl ?_)
  simp only [Int.toNat_natCast, hx]
  refine wpAny_bind (wpAny_setField ho hd (by simp) (wpAny_pure ⟨x, rfl, wpAny_pure ⟨_, rfl, hQ _ ?_ (Heap.SameBut.update ..)⟩⟩))
  exact ⟨_, Heap.get?_update_self _ ho (Obj.isFreed_of_fields (Obj.data_mapFields hd _)), (Obj.cls_mapFields ..).trans hc, by
    rw [Obj.data_mapFields hd]; simp [rawInt]⟩
structure Dig (cs ps : List Int) : Prop where
  len : cs.length = ps.length
  ne : ps ≠ []
  le : ps.length ≤ 8
  dig : ∀ (j : Nat) p, ps[j]? = some p → 0 ≤ p ∧ p < 64 ∧ ∃ t : Int, (t = 0 ∨ t = 1) ∧ cs[j]? = some (p + (if j + 1 < ps.length then 64 else 0) + t * 128)
noncomputable def valP (ps : List Int) : Int := ps.foldl (fun v p => v * 64 + p) 0
theorem valP_take (ps : List Int) (i : Nat) (p : Int) (h : ps[i]? = some p) : valP (ps.take (i + 1)) = valP (ps.take i) * 64 + p := by
  unfold valP
  obtain ⟨hl, he⟩ := List.getElem?_eq_some_iff.mp h
  rw [List.take_succ_eq_append_getElem hl, List.foldl_append, he]
  rfl
theorem valP_bound {cs ps : List Int} (D : Dig cs ps) : ∀ i, i ≤ ps.length → 0 ≤ valP (ps.take i) ∧ valP (ps.take i) < 64 ^ i
  | 0, _ => ⟨by simp [valP], by simp [valP]⟩
  | i + 1, h => by
    have hi : i < ps.length := h
    obtain ⟨h1, h2⟩ := valP_bound D i (Nat.le_of_lt hi)
    have e := List.getElem?_eq_getElem hi
    obtain ⟨p1, p2, _⟩ := D.dig i _ e
    rw [valP_take ps i _ e, Int.pow_succ]
    refine ⟨Int.add_nonneg (Int.mul_nonneg h1 (by decide)) p1, Int.lt_of_lt_of_le (Int.add_lt_add_left p2 _) ?_⟩
    have := Int.mul_le_mul_of_nonneg_right h2 (show (0 : Int) ≤ 64 by decide)
    rw [Int.add_mul, Int.one_mul] at this
    exact this
theorem pow64_le (i : Nat) (h : i ≤ 8) : (64 : Int) ^ i ≤ 281474976710656 := (by decide : ∀ n < 9, (64 : Int) ^ n ≤ 281474976710656) i (Nat.lt_succ_of_le h)
theorem dig_all : ∀ p : Nat, p < 64 → ∀ (t : Nat), t < 2 → ∀ c : Bool, Builtin.bitAnd ((p : Int) + (if c then 64 else 0) + (t : Int) * 128) 63 = p ∧ Builtin.bitAnd ((p : Int) + (if c then 64 else 0) + (t : Int) * 128) 64 = if c then 64 else 0 := by decide +kernel
theorem dig_and {p t : Int} {c : Bool} (h0 : 0 ≤ p) (h1 : p < 64) (ht : t = 0 ∨ t = 1) : Builtin.bitAnd (p + (if c then 64 else 0) + t * 128) 63 = p ∧ Builtin.bitAnd (p + (if c then 64 else 0) + t * 128) 64 = if c then 64 else 0 := by
  obtain ⟨n, rfl⟩ := Int.eq_ofNat_of_zero_le h0
  exact ht.elim (fun e => by rw [e]; exact dig_all n (Int.ofNat_lt.mp h1) 0 (by decide) c) (fun e => by rw [e]; exact dig_all n (Int.ofNat_lt.mp h1) 1 (by decide) c)
theorem dig_low {p t : Int} {c : Bool} (h0 : 0 ≤ p) (h1 : p < 64) (ht : t = 0 ∨ t = 1) : Builtin.bitAnd (p + (if c then 64 else 0) + t * 128) 63 = p := (dig_and h0 h1 ht).1
theorem dig_bit {p t : Int} {c : Bool} (h0 : 0 ≤ p) (h1 : p < 64) (ht : t = 0 ∨ t = 1) : Builtin.bitAnd (p + (if c then 64 else 0) + t * 128) 64 = if c then 64 else 0 := (dig_and h0 h1 ht).2
theorem aug_int {cf : Orc} {K : Frag} {m n : Nat} (B : Bn K) (CG' : CG K cf) (C : CF K prog w m cf) {sc : List (Str × NameKind)} {σ : Sg} {X : List Addr} {x : Str} {px p : Pos} {op : Operator} {e : Expr} {a b r : Int} (hc : sc.lookup x = some .local) (hd : (x == ("__classdict__" : Str)) = false) (S : ScOk sc env) (P : Sep X env Option.none) (N : StOk s.heap X env Option.none σ) (G : Gd K s.heap) (R : Rm A m)
    (hx : σ.1.lookup x = some (.int a)) (he : ev cf n sc σ.1 e = some (.int b))
    (hop : ∀ (s' : Shared) (t u : Tok) (Q' : Value → Shared → Prop), Q' (.int r s'.toks) { s' with toks := s'.toks + 1 } → wpAny (model prog w) A (inplaceOp op (.int a t) (.int b u)) Q' E s') :
    wpAny (model prog w) A (exec (.AugAssign (.Name x px) op e p) env) (fun f s' => f = .next ∧ KeepsW (Wr env Option.none) s s' ∧ StOk s'.heap X env Option.none (upd σ.1 x (.int r), σ.2)) E s := by
  have hl : isLoc sc x = true := by unfold isLoc; rw [hc]
  have hcs : canSet sc x = true := by unfold canSet; rw [hc]; rfl
  refine wpAny_AugAssign_Name (loc_load S N.env hl hx hd fun v hv => ?_)
  obtain ⟨t, rfl⟩ := hv
  refine wpAny_mono ((ev_sound B CG' C n).1 sc σ.1 e _ env A E s X he S N.env G R) (fun u s₁ q => ?_) fun _ _ x => x
  refine bc fun nG => ?_
  obtain ⟨k₁, hu⟩ := q
  obtain ⟨t', rfl⟩ := hu
  refine nG ?_
  refine hop s₁ t t' _ ?_
  have k₁' : Keeps s { s₁ with toks := s₁.toks + 1 } := Keeps.trans' k₁ (Keeps.tok _)
  refine wpAny_mono (store_ok (s := { s₁ with toks := s₁.toks + 1 }) (d := .int r) hcs S P (N.ext (Keeps.ext k₁')) (by unfold V; exact ⟨_, rfl⟩)) (fun _ s₂ q => ⟨rfl, (KeepsW.of k₁').trans q.1, q.2⟩) fun _ _ x => x
end Mine
end
section
open PySem PySem.W PyProof.Rows
set_option maxRecDepth 100000
set_option maxHeartbeats 4000000
namespace Mine
variable {prog : Program} {w : World} {A : Around} {E : Value → Shared → Prop} {s : Shared} {env : Env}
noncomputable def sc28 : List (Str × NameKind) := [(Str.ofString "iterator", .local), (Str.ofString "b", .local), (Str.ofString "val", .local), (Str.ofString "next", .globalImplicit)]
theorem sc28_eq (P : Params) : (fdAt (Kx P) 28).scope.names = sc28 := by kernel_rfl
section
variable {I : Value} {z p v : Int} {k : Nat} {q1 q2 q3 q4 q5 : Pos}
noncomputable abbrev r2 (I : Value) (z : Int) : List (Str × Dt) := [(Str.ofString "iterator", .opq I), (Str.ofString "b", .int z)]
noncomputable abbrev r3 (I : Value) (z v : Int) : List (Str × Dt) := [(Str.ofString "iterator", .opq I), (Str.ofString "b", .int z), (Str.ofString "val", .int v)]
theorem vx0 : upd ([Str.ofString "iterator"].zip [Dt.opq I]) (Str.ofString "b") (.int z) = r2 I z := by kernel_rfl
theorem vxb {z' : Int} : upd (r3 I z v) (Str.ofString "b") (.int z') = r3 I z' v := by kernel_rfl
theorem vxv {v' : Int} : upd (r3 I z v) (Str.ofString "val") (.int v') = r3 I z v' := by kernel_rfl
theorem vx1 (h : Builtin.bitAnd z 63 = p) : ex1 cf0 none 10 sc28 (r2 I z, []) (.Assign [.Name (Str.ofString "val") q1] (.BinOp (.Name (Str.ofString "b") q2) .BitAnd (.Constant (.int 63) k q3) q4) q5) = some (.next, (r3 I z p, [])) := by
  exact ex_by [.d (.int p)] (fun y => ai (congrArg (fun z => some (Dt.int z)) h : binD .BitAnd (.int z) (.int 63) = some (.int p)) y) (by kernel_rfl)
theorem vx2 (h : Builtin.bitAnd z 64 = p) : tst cf0 10 sc28 (r3 I z v) (.BinOp (.Name (Str.ofString "b") q2) .BitAnd (.Constant (.int 64) k q3) q4) = some (p != 0) := by
  exact tst_by [.d (.int p), .b (p != 0)] (fun y => ai (congrArg (fun z => some (Dt.int z)) h : binD .BitAnd (.int z) (.int 64) = some (.int p)) (ai (bb (p != 0)) y)) (by kernel_rfl)
theorem vx3 (h : Builtin.bitAnd z 63 = p) : ev cf0 10 sc28 (r3 I z v) (.BinOp (.Name (Str.ofString "b") q2) .BitAnd (.Constant (.int 63) k q3) q4) = some (.int p) := by
  exact ev_by [.d (.int p)] (fun y => ai (congrArg (fun z => some (Dt.int z)) h : binD .BitAnd (.int z) (.int 63) = some (.int p)) y) (by kernel_rfl)
end
theorem bind28 (P : Params) {s : Shared} {v : Value} (X : (Kx P).In s.heap) : BindsTo s (fdAt (Kx P) 28) ⟨[v], []⟩ ([Str.ofString "iterator"].zip [v]) := by
  have e : ∀ S, peek (Kx P) S (bindArgs (fdAt (Kx P) 28) ⟨[v], []⟩) = some ([Str.ofString "iterator"].zip [v]) := by
    intro S
    kernel_rfl
  generalize fdAt (Kx P) 28 = fd at e ⊢
  exact kp_binds X e
noncomputable def dgV (ps : List Int) (j : Nat) (p t : Int) : Int := p + (if decide (j + 1 < ps.length) then 64 else 0) + t * 128
structure VIn (I L : Addr) (i : Nat) (env : Env) (s₁ s' : Shared) (j : Nat) (ρ : List (Str × Dt)) : Prop where
  k : KeepsW (I :: Wr env Option.none) s₁ s'
  it : s'.heap.IsListIter I L (i + j)
  st : StOk s'.heap (Wr env Option.none ++ [I]) env Option.none (ρ, [])
theorem VIn.ext {I L : Addr} {i : Nat} {s₁ s' s'' : Shared} {j : Nat} {ρ : List (Str × Dt)} (h : VIn I L i env s₁ s' j ρ) (k : Keeps s' s'') : VIn I L i env s₁ s'' j ρ := ⟨h.k.trans (KeepsW.of k), h.it.at fun o e => Keeps.ext k I o e, h.st.ext (Keeps.ext k)⟩
theorem VIn.step {I L : Addr} {i : Nat} {s₁ s' s'' : Shared} {j : Nat} {ρ ρ' : List (Str × Dt)} (h : VIn I L i env s₁ s' j ρ) (hI : I ∉ Wr env Option.none) (k : KeepsW (Wr env Option.none) s' s'') (N : StOk s''.heap (Wr env Option.none ++ [I]) env Option.none (ρ', [])) : VIn I L i env s₁ s'' j ρ' :=
  ⟨h.k.trans k.up, h.it.at fun o e => k.out I o hI e, N⟩
inductive VStep (ps : List Int) (I L : Addr) (i : Nat) (env : Env) (s₁ : Shared) (ρ : List (Str × Dt)) (j : Nat) (f : Flow) (s'' : Shared) : Prop
  | mk (e : f = .next) (pv t : Int) (h1 : ps[j]? = some pv) (h2 : 0 ≤ pv) (h3 : pv < 64) (h4 : t = 0 ∨ t = 1) (In : VIn I L i env s₁ s'' (j + 1) (upd ρ (Str.ofString "b") (.int (dgV ps j pv t))))
inductive VLoop (ps : List Int) (I L : Addr) (i : Nat) (env : Env) (s₁ : Shared) (k : Nat) (s' : Shared) : Prop
  | mk (j : Nat) (p t : Int) (hj : j < ps.length) (e : k = ps.length - j) (h1 : ps[j]? = some p) (h2 : 0 ≤ p) (h3 : p < 64) (h4 : t = 0 ∨ t = 1) (In : VIn I L i env s₁ s' (j + 1) (r3 (.ref I) (dgV ps j p t) (valP (ps.take (j + 1)))))
inductive VItem (ps : List Int) (i : Nat) (vs : List Value) (j : Nat) : Prop
  | mk (p t : Int) (tk : Tok) (h1 : ps[j]? = some p) (h2 : 0 ≤ p) (h3 : p < 64) (h4 : t = 0 ∨ t = 1) (h5 : vs.toArray[i + j]? = some (.int (dgV ps j p t) tk))
theorem IntsAre.at {vs : List Value} {ns : List Int} (h : IntsAre vs ns) {j : Nat} {n : Int} (e : ns[j]? = some n) : ∃ v, vs[j]? = some v ∧ ∃ tk, v = .int n tk := by
  induction h generalizing j n with
  | nil => simp at e
  | cons n t r ih =>
    cases j with
    | zero => simp at e; subst e; exact ⟨_, rfl, _, rfl⟩
    | succ j => simp at e; simpa using ih e
theorem vitem {i : Nat} {vs : List Value} {ns ps : List Int} (hi : IntsAre vs ns) (D : Dig ((ns.drop i).take ps.length) ps) (j : Nat) (hj : j < ps.length) : VItem ps i vs j := by
  have e := List.getElem?_eq_getElem hj
  refine bc fun nG => ?_
  obtain ⟨p1, p2, t, ht, hc⟩ := D.dig j _ e
  rw [List.getElem?_take_of_lt hj, List.getElem?_drop] at hc
  obtain ⟨v, hv, tk, rfl⟩ := IntsAre.at hi hc
  refine nG ?_
  refine ⟨_, t, tk, e, p1, p2, ht, ?_⟩
  rw [List.getElem?_toArray, hv]
  unfold dgV
  simp only [decide_eq_true_eq]
theorem c_varint (P : Params) {m : Nat} {I L : Addr} {i : Nat} {vs : List Value} {ns ps : List Int} (R : Rm A (m + 1)) (G : Gd (Kx P) s.heap) (hit : s.heap.IsListIter I L i) (hl : s.heap.IsList L vs.toArray) (hi : IntsAre vs ns) (hne : I ≠ L) (D : Dig ((ns.drop i).take ps.length) ps) (hcl : (¬ ∃ o, (Kx P).lookup I = some o) ∧ I ≠ mainGlobals ∧ I ≠ builtinsNs ∧ I ≠ cStatics) :
    wpAny (model prog w) A (call (.ref 28) [.ref I] []) (fun r s' => KeepsW [I] s s' ∧ s'.heap.IsListIter I L (i + ps.length) ∧ ∃ t, r = .int (valP ps) t) E s := by
  have FO : FnOk (Kx P) 28 (fdAt (Kx P) 28) (bodyAt (Kx P) 28) [Str.ofString "iterator"] := FnOk.of (by kernel_rfl)
  obtain ⟨oI, hoI, _⟩ := id hit
  obtain ⟨oL, hoL, _⟩ := id hl
  have hbd := @bind28 P s (.ref I) G.kin
  have hsc := sc28_eq P
  obtain ⟨body, hbody⟩ : ∃ b, b = bodyAt (Kx P) 28 := ⟨_, rfl⟩
  rw [← hbody] at FO
  generalize fdAt (Kx P) 28 = fd at FO hbd hsc
  refine fn_enter (m := m) (ds := [.opq (.ref I)]) (vals := [.ref I]) (X := [I]) FO R G (fun a ha => by
    have e : a = I := by simpa using ha
    rw [e]; exact ⟨_, hoI⟩) (by unfold VL V; exact ⟨_, _, rfl, rfl, by unfold VL; rfl⟩) hbd fun env E s₁ FR => ?_
  obtain ⟨hcode, k₁, hfr, S, Sp, N, G₁, GW, R₁⟩ := FR
  rw [hsc] at S
  have hIW : I ∉ Wr env Option.none := fun q => by have := hfr I q; rw [hoI] at this; cases this
  have hLW : L ∉ Wr env Option.none := fun q => by have := hfr L q; rw [hoL] at this; cases this
  have hIX : I ∈ Wr env Option.none ++ [I] := by simp
  have hknx : env.kindOf (Str.ofString "next") = some .globalImplicit := kind_glob S (by decide +kernel)
  have GW' : GdW (Kx P) (I :: Wr env Option.none) := by
    have h1 := hcl
    exact ⟨fun a o e q => (List.mem_cons.mp q).elim (fun z => h1.1 (by rw [← z]; exact ⟨o, e⟩)) (GW.k a o e), fun q => (List.mem_cons.mp q).elim (fun z => h1.2.1 z.symm) GW.g, fun q => (List.mem_cons.mp q).elim (fun z => h1.2.2.1 z.symm) GW.b, fun q => (List.mem_cons.mp q).elim (fun z => h1.2.2.2 z.symm) GW.c⟩
  have gd : ∀ {s' j ρ}, VIn I L i env s₁ s' j ρ → Gd (Kx P) s'.heap := fun h => Gd.keepsW h.k GW' G₁
  have step : ∀ (j : Nat) (ρ : List (Str × Dt)) (s' : Shared) (E' : Value → Shared → Prop) (px p p2 p3 pp : Pos), j < ps.length → VIn I L i env s₁ s' j ρ → ρ.lookup (Str.ofString "iterator") = some (.opq (.ref I)) →
      wpAny (model prog w) (A.deeper env) (exec (.Assign [.Name (Str.ofString "b") px] (.Call (.Name (Str.ofString "next") p2) [.Name (Str.ofString "iterator") p3] [] pp) p) env)
        (VStep ps I L i env s₁ ρ j) E' s' := by
    intro j ρ s' E' px p p2 p3 pp hj hIn hlk
    obtain ⟨K', hit', N'⟩ := id hIn
    rw [exec_Assign_Name env _ _ _ _ rfl]
    refine wpAny_bind (wpAny_standAt (wpAny_bind ?_))
    refine call_pos (cf := cf0) (n := 5) (ds := [.opq (.ref I)]) (sc := sc28) (ρ := ρ) (X := Wr env Option.none ++ [I]) (fv := .builtin "next") (Bn_x P) (cf0_g P) cf0_f (fun Q' q => blt_name (gd hIn) N'.env hknx (by kernel_rfl) (by decide +kernel) (by decide +kernel) (by decide +kernel) q) (fun _ _ => trivial) (by rw [evs_cons, evs_nil, ev_loc (by kernel_rfl) (by kernel_rfl) hlk]) S N'.env (gd hIn) R₁ fun vs' s₂ k₂ hvs => ?_
    obtain ⟨v, rfl, hv⟩ := hvs.one
    subst hv
    obtain ⟨pv, t, tk, h1, h2, h3, h4, h5⟩ := vitem hi D j hj
    have hl₂ : s₂.heap.IsList L vs.toArray := hl.at fun o e => Keeps.ext k₂ L o (K'.out L o (fun q => (List.mem_cons.mp q).elim (fun z => hne z.symm) hLW) (Keeps.ext k₁ L o e))
    have hit₂ : s₂.heap.IsListIter I L (i + j) := hit'.at fun o e => Keeps.ext k₂ I o e
    refine call_next_list hit₂ hl₂ h5 fun h' hit₃ hs => ?_
    have N₂ := N'.ext (Keeps.ext k₂)
    have hI' : ∃ o, h'.get? I = some o := by obtain ⟨o, e, _⟩ := hit₃; exact ⟨o, e⟩
    have k₃ : KeepsW [I] s₂ { s₂ with heap := h' } := KeepsW.sameBut (by simp) hI' hs s₂.toks
    have N₃ : StOk h' (Wr env Option.none ++ [I]) env Option.none (ρ, []) := StOk.frame Sp N₂ (fun b o hb e => k₃.out b o (fun q => by
      have z : b = I := by simpa using q
      rw [z] at hb
      exact hb.elim (fun n => n hIX) (fun n => hIW n)) e) (k₃.live N₂.env.live)
    refine wpAny_bind (wpAny_standAt (wpAny_bind (wpAny_bindName (wpAny_mono (store_ok (s := { s₂ with heap := h' }) (d := .int (dgV ps j pv t)) (show canSet sc28 (Str.ofString "b") = true by decide +kernel) S Sp N₃ (by unfold V; exact ⟨_, rfl⟩)) (fun _ s₄ q => ?_) fun _ _ x => x))))
    exact wpAny_pure ⟨rfl, pv, t, h1, h2, h3, h4, (K'.trans (KeepsW.of k₂)).trans ((k₃.sub fun b hb => of_sing hb).trans q.1.up), hit₃.at fun o e => q.1.out I o hIW e, q.2⟩
  have hlen : 0 < ps.length := List.length_pos_iff.mpr D.ne
  rw [hbody]
  conv => arg 3; arg 1; whnf
  refine wpAny_execs_cons (wpAny_mono (step 0 _ s₁ _ _ _ _ _ _ hlen ⟨KeepsW.of (Keeps.refl' _), hit.at fun o e => Keeps.ext k₁ I o e, N⟩ (by kernel_rfl)) (fun f s₂ q => ?_) fun _ _ x => x)
  obtain ⟨rfl, p0, t0, h1, h2, h3, h4, In₁⟩ := q
  refine wpAny_execs_cons ?_
  rw [vx0] at In₁
  refine monoP ((ex_sound (Bn_x P) (cf0_g P) cf0_f 10).1 sc28 _ _ .next _ env _ _ s₂ (Wr env Option.none ++ [I]) (vx1 (dig_low h2 h3 h4)) S Sp In₁.st (gd In₁) GW R₁) fun f s₃ k₃ N₃ F₃ => ?_
  have : f = .next := F₃
  subst this
  have In₃ : VIn I L i env s₁ s₃ 1 (r3 (.ref I) (dgV ps 0 p0 t0) p0) := In₁.step hIW k₃ N₃
  have hv0 : valP (ps.take 1) = p0 := by rw [valP_take ps 0 p0 h1]; simp [valP]
  refine wpAny_execs_cons (wpAny_While (codeAny_whileLoop (VLoop ps I L i env s₁) ?_ ps.length
    ⟨0, p0, t0, hlen, rfl, h1, h2, h3, h4, by rw [hv0]; exact In₃⟩))
  rintro k s' ⟨j, p, t, hj, rfl, g1, g2, g3, g4, hIn⟩
  refine mono2 ((ev_sound (Bn_x P) (cf0_g P) cf0_f 10).2.2.2.1 sc28 _ _ _ env _ _ s' (Wr env Option.none ++ [I]) (vx2 (dig_bit g2 g3 g4)) S hIn.st.env (gd hIn) R₁) fun b s₄ k₄ qq1 => ?_
  obtain rfl := qq1
  have In₄ := hIn.ext k₄
  by_cases hjj : j + 1 < ps.length
  · have hc : (((if decide (j + 1 < ps.length) then (64 : Int) else 0) != 0) = true) := by simp [hjj]
    rw [if_pos hc]
    obtain ⟨vb1, vb2⟩ := valP_bound D (j + 1) (Nat.le_of_lt hjj)
    have vb3 := pow64_le (j + 1) (by have := D.le; lia)
    refine wpAny_execs_cons (wpAny_mono (aug_int (n := 10) (r := valP (ps.take (j + 1)) * 2 ^ (6 : Int).toNat) (Bn_x P) (cf0_g P) cf0_f (show sc28.lookup (Str.ofString "val") = some .local by decide +kernel) (by decide +kernel) S Sp In₄.st (gd In₄) R₁ (a := valP (ps.take (j + 1))) (by kernel_rfl) (by rw [ev_const]; rfl)
      fun s' t u Q' q => ilshift_int_small (by decide) (by decide) (by lia) q) (fun f s₅ q => ?_) fun _ _ x => x)
    obtain ⟨rfl, k₅, N₅⟩ := q
    rw [vxv] at N₅
    have In₅ := In₄.step hIW k₅ N₅
    refine wpAny_execs_cons (wpAny_mono (step (j + 1) _ s₅ _ _ _ _ _ _ hjj In₅ (by kernel_rfl)) (fun f s₆ q => ?_) fun _ _ x => x)
    obtain ⟨rfl, p', t', e1, e2, e3, e4, In₆⟩ := q
    rw [vxb] at In₆
    have hor : Builtin.bitOr (valP (ps.take (j + 1)) * 64) p' = valP (ps.take (j + 1)) * 64 + p' := by
      obtain ⟨x, hx⟩ : ∃ x : Nat, valP (ps.take (j + 1)) = (x : Int) := ⟨_, (Int.toNat_of_nonneg vb1).symm⟩
      obtain ⟨y, hy⟩ : ∃ y : Nat, p' = (y : Int) := ⟨_, (Int.toNat_of_nonneg e2).symm⟩
      rw [hx, hy]
      exact bitOr_add 6 x y (by lia)
    refine wpAny_execs_cons (wpAny_mono (aug_int (n := 10) (r := valP (ps.take (j + 1 + 1))) (Bn_x P) (cf0_g P) cf0_f (show sc28.lookup (Str.ofString "val") = some .local by decide +kernel) (by decide +kernel) S Sp In₆.st (gd In₆) R₁ (a := valP (ps.take (j + 1)) * 64) (b := p') (by kernel_rfl) (vx3 (dig_low e2 e3 e4))
      fun s' t u Q' q => ior_int (by rw [hor, ← valP_take ps (j + 1) p' e1]; exact q)) (fun f s₇ q => ?_) fun _ _ x => x)
    obtain ⟨rfl, k₇, N₇⟩ := q
    rw [vxv] at N₇
    refine wpAny_execs_nil ⟨ps.length - (j + 1), Nat.sub_lt_sub_left hj (Nat.lt_succ_self j), j + 1, p', t', hjj, rfl, e1, e2, e3, e4, In₆.step hIW k₇ N₇⟩
  · have hc : ¬ (((if decide (j + 1 < ps.length) then (64 : Int) else 0) != 0) = true) := by simp [hjj]
    rw [if_neg hc]
    have hjl : j + 1 = ps.length := Nat.le_antisymm hj (Nat.not_lt.mp hjj)
    refine wpAny_execs_nil (wpAny_execs_cons (wpAny_Return_some ?_))
    refine wpAny_mono (name_step (cf := cf0) (n := 0) (sc := sc28) (d := .int (valP ps)) (X := Wr env Option.none ++ [I]) (Bn_x P) (cf0_g P) (by
      have z : valP (ps.take (j + 1)) = valP ps := by rw [hjl, List.take_length]
      rw [z]
      kernel_rfl) S In₄.st.env (gd In₄)) (fun u s₈ q => ?_) fun _ _ x => x
    obtain ⟨k₈, hu⟩ := q
    obtain ⟨tu, rfl⟩ := hu
    refine ⟨_, rfl, ?_, ?_, tu, rfl⟩
    · have k := In₄.k.trans (KeepsW.of k₈)
      obtain ⟨h1', t1', rfl, e1⟩ := k₁
      obtain ⟨h8, t8, rfl, e8, l8⟩ := k
      refine ⟨h8, t8, rfl, fun b o nb e => e8 b o (fun q => (List.mem_cons.mp q).elim (fun z => nb (by rw [z]; simp)) (fun z => by have := hfr b z; rw [this] at e; cases e)) (e1 b o e), fun b hb e => ?_⟩
      obtain ⟨o, ho⟩ := e
      have z : b = I := by simpa using hb
      exact l8 b (by rw [z]; exact .head _) ⟨o, e1 b o ho⟩
    · rw [← hjl]
      exact In₄.it.at fun o e => Keeps.ext k₈ I o e
end Mine
end
section
open PySem PySem.W PyProof.Rows
set_option maxRecDepth 100000
set_option maxHeartbeats 4000000
namespace Mine
variable {prog : Program} {w : World} {A : Around} {E : Value → Shared → Prop} {s : Shared}
theorem best_obj : Builtin.Slots.bestBase [.type "object"] = pure (.type "object") := by kernel_rfl
theorem inh_obj : Builtin.Slots.slotNamesOf (.type "object") = pure [] := by kernel_rfl
theorem gd_obj : Builtin.Slots.givesDict (.type "object") = pure false := by kernel_rfl
theorem gw_obj : Builtin.Slots.givesWeak (.type "object") = pure false := by kernel_rfl
theorem vs_obj : Builtin.Slots.varSize (.type "object") = pure false := by kernel_rfl
theorem slots_read {es : Array DictEntry} {e : DictEntry} {l : Addr} {t : Tok} {Q : Builtin.Slots.Plan → Shared → Prop} (hf : es.find? (·.key.isStr "__slots__") = some e) (hv : e.val = .ref l) (hl : s.heap.IsList l [.str (Str.ofString "obj") t].toArray) (hno : es.any (·.key.isStr (Str.ofString "obj")) = false)
    (h : ∀ h', Ext s.heap h' → Q { names := [Str.ofString "obj"], dict := false, weak := false, inherited := [] } { s with heap := h' }) :
    wpAny (model prog w) A (Builtin.Slots.read (Str.ofString "K") [.type "object"] es) Q E s := by
  unfold Builtin.Slots.read
  refine wpAny_bind (m := Builtin.Slots.bestBase _) (wpAny_of_eq best_obj ?_)
  refine wpAny_bind (m := Builtin.Slots.slotNamesOf _) (wpAny_of_eq inh_obj ?_)
  refine wpAny_bind (m := Builtin.Slots.givesDict _) (wpAny_of_eq gd_obj ?_)
  refine wpAny_bind (m := Builtin.Slots.givesWeak _) (wpAny_of_eq gw_obj ?_)
  refine wpAny_bind (m := Builtin.Slots.varSize _) (wpAny_of_eq vs_obj ?_)
  rw [hf]
  refine wpAny_bind (wpAny_rule ?_)
  rw [hv]
  obtain ⟨ol, hol, hcl, nl, hdl⟩ := id hl
  have hstr : ∀ {Q' : Option Str → Shared → Prop}, Q' none s → wpAny (model prog w) A (asStr? (.ref l)) Q' E s := fun q => by
    unfold asStr?
    refine wpAny_bind (wpAny_load hol ?_)
    rw [hdl]
    exact wpAny_pure q
  refine wpAny_bind (hstr ?_)
  refine wpAny_ite_false rfl ?_
  refine wpAny_bind (collect_list hl ?_)
  refine wpAny_ite_true rfl ?_
  refine wpAny_bind (m := Builtin.Slots.varSize _) (wpAny_of_eq vs_obj ?_)
  refine wpAny_ite_false rfl ?_
  refine wpAny_bind (m := forIn _ _ _) (wpAny_of_eq (a := (false, false, #[Str.ofString "obj"], [])) (by kernel_rfl) ?_)
  have hmg : Builtin.Slots.mangle (Str.ofString "K") (Str.ofString "obj") = Str.ofString "obj" := by kernel_rfl
  have hlen : (Str.ofString "obj").length = 3 := by kernel_rfl
  have hdel : (Str.ofString "obj" == Str.ofString "__del__") = false := by kernel_rfl
  refine wpAny_bind (m := forIn _ _ _) (wpAny_of_eq (a := ([Str.ofString "obj"], 3)) ?e ?_)
  case e =>
    show forIn #[Str.ofString "obj"] _ _ = _
    rw [← Array.forIn_toList]
    simp only [List.forIn_cons, List.forIn_nil, hmg, hno, hlen, hdel, Nat.zero_add, Bool.false_and, Bool.false_eq_true, if_false]
    rw [if_neg (by decide)]
    kernel_rfl
  refine wpAny_bind (m := forIn _ _ _) (wpAny_of_eq (a := (false, false)) (by kernel_rfl) ?_)
  refine wpAny_pure (h _ fun b o e => ?_)
  have hlt : b < s.heap.objs.size := Heap.lt_size e
  rw [Heap.get?_update_ne _ _ _ _ (Nat.ne_of_lt hlt), Heap.get?_push_ne _ _ _ (Nat.ne_of_lt hlt)]
  exact e
end Mine
end
section
open PySem PySem.W PyProof.Rows
set_option maxRecDepth 100000
set_option maxHeartbeats 4000000
namespace Mine
variable {M : Model} {A : Around} {E : Value → Shared → Prop} {s : Shared}
structure Mk (s₀ s : Shared) (C N : Addr) (oC : Obj) (m : Str → Option Value) (fs : List (Addr × Obj)) : Prop where
  kp : Keeps s₀ s
  c : s.heap.get? C = some oC
  n : s.heap.Ns1 N m
  ne : C ≠ N
  fC : s₀.heap.get? C = Option.none
  fN : s₀.heap.get? N = Option.none
  xs : ∀ p ∈ fs, s.heap.get? p.1 = some p.2 ∧ p.1 ≠ C ∧ p.1 ≠ N
theorem Mk.put {s₀ s : Shared} {C N D : Addr} {oC oC' : Obj} {m m' : Str → Option Value} {fs : List (Addr × Obj)} {h' : Heap} {tk : Nat} (k : Mk s₀ s C N oC m fs) (hs : Heap.SameBut D s.heap h') (hD : s₀.heap.get? D = Option.none) (hDD : D = C ∨ D = N) (hc : h'.get? C = some oC') (hn : h'.Ns1 N m') : Mk s₀ { s with heap := h', toks := tk } C N oC' m' fs := by
  refine bc fun nG => ?_
  obtain ⟨⟨h, t, rfl, x⟩, c, n, ne, fC, fN, xs⟩ := k
  refine nG ?_
  refine ⟨⟨h', tk, rfl, fun b o e => hs.extBut b o (fun q => by rw [q, hD] at e; cases e) (x b o e)⟩, hc, hn, ne, fC, fN, fun p hp => ?_⟩
  refine bc fun nG => ?_
  obtain ⟨a, b, c⟩ := xs p hp
  refine nG ?_
  refine ⟨hs.extBut p.1 _ (fun q => ?_) a, b, c⟩
  rcases hDD with e | e
  · exact b (q.trans e)
  · exact c (q.trans e)
theorem Mk.more {s₀ s s' : Shared} {C N : Addr} {oC : Obj} {m : Str → Option Value} {fs : List (Addr × Obj)} (k : Mk s₀ s C N oC m fs) (x : Keeps s s') : Mk s₀ s' C N oC m fs := by
  obtain ⟨h, t, rfl, e⟩ := id x
  exact ⟨Keeps.trans' k.kp x, e _ _ k.c, k.n.at fun o q => e _ _ q, k.ne, k.fC, k.fN, fun p hp => ⟨e _ _ (k.xs p hp).1, (k.xs p hp).2⟩⟩
theorem Mk.size {s₀ s : Shared} {C N : Addr} {oC : Obj} {m : Str → Option Value} {fs : List (Addr × Obj)} (k : Mk s₀ s C N oC m fs) : s.heap.objs.size ≠ C ∧ s.heap.objs.size ≠ N := by
  refine ⟨fun e => ?_, fun e => ?_⟩
  · have := Heap.lt_size k.c; rw [← e] at this; exact Nat.lt_irrefl _ this
  · obtain ⟨o, es, ep, hn, _⟩ := k.n
    have := Heap.lt_size hn; rw [← e] at this; exact Nat.lt_irrefl _ this
theorem Mk.add {s₀ s : Shared} {C N : Addr} {oC o : Obj} {m : Str → Option Value} {fs : List (Addr × Obj)} {tk : Nat} (k : Mk s₀ s C N oC m fs) (ho : o.isFreed = false) : Mk s₀ { s with heap := s.heap.push o, toks := tk } C N oC m ((s.heap.objs.size, o) :: fs) := by
  have k' := k.more (s' := { s with heap := s.heap.push o, toks := tk }) ⟨_, _, rfl, fun b q e => Heap.get?_push_of_some _ e⟩
  refine ⟨k'.kp, k'.c, k'.n, k'.ne, k'.fC, k'.fN, fun p hp => ?_⟩
  rcases List.mem_cons.mp hp with e | e
  · subst e; exact ⟨Heap.get?_push_size _ ho, k.size⟩
  · exact k'.xs p e
noncomputable def slotPut (oC : Obj) (i : Nat) (v : Option Value) : Obj := { oC with slots := (oC.slots ++ Array.replicate (i + 1 - oC.slots.size) Option.none).setIfInBounds i v }
theorem mk_slot {s₀ : Shared} {C N : Addr} {oC : Obj} {cd : ClassData} {m : Str → Option Value} {i : Nat} {v : Option Value} {Q : Unit → Shared → Prop} {fs : List (Addr × Obj)} (k : Mk s₀ s C N oC m fs) (hd : oC.data = .cls cd) (hi : i < 100) (h : ∀ s', Mk s₀ s' C N (slotPut oC i v) m fs → Q () s') :
    wpAny M A (setSlotAt C i v) Q E s := by
  unfold setSlotAt
  have hz : decide (i ≥ sizeLine) = false := by rw [sizeLine_eq]; simp; lia
  refine wpAny_ite_false hz ?_
  have hg : ∀ h', Heap.SameBut C s.heap h' → h'.Ns1 N m := fun h' q => k.n.sameBut q (Ne.symm k.ne)
  refine wpAny_updatePart k.c (h _ (k.put (tk := s.toks) (Heap.SameBut.update ..) k.fC (.inl rfl) ?_ (hg _ (Heap.SameBut.update ..))))
  exact Heap.get?_update_self _ k.c (by obtain ⟨a, b, c, d⟩ := oC; subst hd; rfl)
theorem mk_slot' {s₀ : Shared} {C N : Addr} {oC : Obj} (oC' : Obj) {cd : ClassData} {m : Str → Option Value} {i : Nat} {v : Option Value} {Q : Unit → Shared → Prop} {fs : List (Addr × Obj)} (k : Mk s₀ s C N oC m fs) (hd : oC.data = .cls cd) (hi : i < 100) (he : slotPut oC i v = oC') (h : ∀ s', Mk s₀ s' C N oC' m fs → Q () s') :
    wpAny M A (setSlotAt C i v) Q E s := mk_slot k hd hi (by rw [he]; exact h)
theorem mk_cls {s₀ : Shared} {C N : Addr} {oC : Obj} {cd : ClassData} {m : Str → Option Value} {f : ClassData → ClassData} {Q : Unit → Shared → Prop} {fs : List (Addr × Obj)} (k : Mk s₀ s C N oC m fs) (hd : oC.data = .cls cd) (hz1 : (f cd).subclasses.length ≤ 100) (hz2 : (f cd).slotNames.length ≤ 100) (h : ∀ s', Mk s₀ s' C N { oC with data := .cls (f cd) } m fs → Q () s') :
    wpAny M A (updateCls C f) Q E s := by
  unfold updateCls
  refine wpAny_bind (wpAny_load k.c ?_)
  rw [hd]
  have e : Obj.mapCls f oC = { oC with data := .cls (f cd) } := by
    obtain ⟨a, b, c, d⟩ := oC
    subst hd
    rfl
  have hg : (s.heap.update C (Obj.mapCls f)).get? C = some { oC with data := .cls (f cd) } := by
    rw [← e]
    exact Heap.get?_update_self _ k.c (by rw [e]; rfl)
  refine wpAny_bind (wpAny_update k.c ?_)
  refine wpAny_lookBehind hg ?_ (h _ (k.put (tk := s.toks) (Heap.SameBut.update ..) k.fC (.inl rfl) hg (k.n.sameBut (Heap.SameBut.update ..) (Ne.symm k.ne))))
  show (if ((f cd).subclasses.length > sizeLine || (f cd).slotNames.length > sizeLine) = true then some "class:memory" else none) = none
  rw [if_neg (by rw [sizeLine_eq]; simp; lia)]
theorem mk_get {s₀ : Shared} {C N : Addr} {oC : Obj} {m : Str → Option Value} {name : Str} {Q : Option Value → Shared → Prop} {fs : List (Addr × Obj)} (k : Mk s₀ s C N oC m fs) (h : Q (m name) s) : wpAny M A (nsGet N name) Q E s := wpAny_nsGet k.n.ns h
theorem mk_getv {s₀ : Shared} {C N : Addr} {oC : Obj} {m : Str → Option Value} {name : Str} {v : Option Value} {Q : Option Value → Shared → Prop} {fs : List (Addr × Obj)} (k : Mk s₀ s C N oC m fs) (hv : m name = v) (h : Q v s) : wpAny M A (nsGet N name) Q E s := mk_get k (by rw [hv]; exact h)
theorem mk_set {s₀ : Shared} {C N : Addr} {oC : Obj} {m : Str → Option Value} {name : Str} {v : Value} {Q : Unit → Shared → Prop} {fs : List (Addr × Obj)} (k : Mk s₀ s C N oC m fs) (h : ∀ s', Mk s₀ s' C N oC (fun x => if x = name then some v else m x) fs → Q () s') : wpAny M A (nsSet N name v) Q E s :=
  wpAny_nsSet1 k.n fun h' hn hs => h _ (k.put hs k.fN (.inr rfl) (hs.extBut C _ k.ne k.c) hn)
theorem mk_del {s₀ : Shared} {C N : Addr} {oC : Obj} {m : Str → Option Value} {name : Str} {Q : Bool → Shared → Prop} {fs : List (Addr × Obj)} (k : Mk s₀ s C N oC m fs) (h : ∀ s', Mk s₀ s' C N oC (fun x => if x = name then none else m x) fs → Q (m name).isSome s') : wpAny M A (nsDel N name) Q E s :=
  wpAny_nsDel1 k.n fun h' hn hs => h _ (k.put (tk := s.toks) hs k.fN (.inr rfl) (hs.extBut C _ k.ne k.c) hn)
theorem for_cons {α β : Type} {f : α → β → Sem (ForInStep β)} {x : α} {l : List α} {b : β} {Q : β → Shared → Prop}
    (h : wpAny M A (f x b) (fun r s' => match r with | .done b' => Q b' s' | .yield b' => wpAny M A (forIn l b' f) Q E s') E s) : wpAny M A (forIn (x :: l) b f) Q E s := by
  rw [List.forIn_cons]
  refine wpAny_bind (wpAny_mono h (fun r s' q => ?_) fun _ _ e => e)
  cases r with
  | done b' => exact wpAny_pure q
  | yield b' => exact q
theorem for_nil {α β : Type} {f : α → β → Sem (ForInStep β)} {b : β} {Q : β → Shared → Prop} (h : Q b s) : wpAny M A (forIn ([] : List α) b f) Q E s := by
  rw [List.forIn_nil]; exact wpAny_pure h
theorem cls_look {C N : Addr} {o : Obj} {cd : ClassData} {m : Str → Option Value} {name : Str} {y : Option Value} {Q : Option Value → Shared → Prop} (hC : s.heap.get? C = some o) (hd : o.data = .cls cd) (hm : cd.mro = [.ref C, .type "object"]) (hn : cd.ns = N)
    (n : s.heap.Ns N m) (hy : builtinOwn "object" name = y) (q : Q ((m name).or y) s) : wpAny M A (typeLookup (.ref C) name) Q E s := by
  have hcd : ∀ {Q' : ClassData → Shared → Prop}, Q' cd s → wpAny M A (classData C) Q' E s := fun q => by
    unfold classData
    refine wpAny_bind (wpAny_load hC ?_)
    rw [hd]; exact wpAny_pure q
  have hmro : ∀ {Q' : List Value → Shared → Prop}, Q' [.ref C, .type "object"] s → wpAny M A (mroOf (.ref C)) Q' E s := fun q => by
    unfold mroOf
    refine wpAny_bind (hcd ?_)
    rw [hm]; exact wpAny_pure q
  rw [typeLookup_eq]
  refine wpAny_bind (hmro ?_)
  rw [lookupAlong_cons]
  have hown : ∀ {Q' : Option Value → Shared → Prop}, Q' (m name) s → wpAny M A (classOwn (.ref C) name) Q' E s := fun q => by
    unfold classOwn
    refine wpAny_bind (hcd ?_)
    rw [hn]
    exact wpAny_nsGet n q
  refine wpAny_bind (hown ?_)
  cases hv : m name with
  | some v => rw [hv] at q; exact wpAny_pure q
  | none =>
    rw [hv] at q
    show wpAny M A (lookupAlong [.type "object"] name) Q E s
    rw [lookupAlong_cons]
    refine wpAny_bind (wpAny_of_eq (a := y) (by show (pure (builtinOwn "object" name) : Sem (Option Value)) = _; rw [hy]) ?_)
    cases y with
    | some v => exact wpAny_pure q
    | none => exact wpAny_of_eq (lookupAlong_nil name) q
theorem nodup_sub {α : Type} [DecidableEq α] : ∀ {l L : List α}, l.Nodup → (∀ x ∈ l, x ∈ L) → l.length ≤ L.length
  | [], L, _, _ => Nat.zero_le _
  | x :: l, L, hn, hs => by
    obtain ⟨h1, h2⟩ := List.nodup_cons.mp hn
    have := nodup_sub (l := l) (L := L.erase x) h2 fun y hy => (List.mem_erase_of_ne (fun e => h1 (by rw [← e]; exact hy))).mpr (hs y (.tail _ hy))
    rw [List.length_erase_of_mem (hs x (.head _))] at this
    have hp := List.length_pos_of_mem (hs x (.head _))
    rw [List.length_cons]; lia
noncomputable def keyOf (e : DictEntry) : Str := match e.key with | .str n _ => n | _ => Str.empty
theorem few {es : Array DictEntry} {L : List Str} (hk : StrKeys es) (hu : UniqKeys es) (h : ∀ n, (nsFind es n).isSome = true → n ∈ L) : es.size ≤ L.length := by
  have hkey : ∀ e ∈ es, ∀ n, e.key.isStr n = true ↔ keyOf e = n := by
    intro e he n
    refine bc fun nG => ?_
    obtain ⟨n', t, hk'⟩ := hk e he
    refine nG ?_
    unfold keyOf
    rw [hk']
    show (n' == n) = true ↔ n' = n
    exact beq_iff_eq
  have hnd : (es.toList.map keyOf).Nodup := by
    unfold UniqKeys at hu
    refine List.pairwise_map.mpr (List.Pairwise.imp_of_mem ?_ hu)
    intro a b ha hb hab e
    exact hab (keyOf a) ((hkey a (Array.mem_toList_iff.mp ha) _).mpr rfl) ((hkey b (Array.mem_toList_iff.mp hb) _).mpr e.symm)
  have := nodup_sub (L := L) hnd fun x hx => by
    refine bc fun nG => ?_
    obtain ⟨e, he, rfl⟩ := List.mem_map.mp hx
    refine nG ?_
    refine h _ ?_
    unfold nsFind findBy
    rw [Option.isSome_map]
    simp only [Array.find?_isSome]
    exact ⟨e, Array.mem_toList_iff.mp he, (hkey e (Array.mem_toList_iff.mp he) _).mpr rfl⟩
  simpa using this
theorem entry_val {es : Array DictEntry} (hk : StrKeys es) (hu : UniqKeys es) {e : DictEntry} (he : e ∈ es) : ∃ n t, e.key = .str n t ∧ nsFind es n = some e.val := by
  obtain ⟨n, t, hk'⟩ := hk e he
  refine ⟨n, t, hk', ?_⟩
  unfold nsFind findBy
  have hs : (es.find? fun e => e.key.isStr n).isSome = true := by
    simp only [Array.find?_isSome]
    exact ⟨e, he, by rw [hk']; show (n == n) = true; simp⟩
  obtain ⟨e', he'⟩ := Option.isSome_iff_exists.mp hs
  rw [he']
  have h1 := Array.find?_some he'
  have h2 := Array.mem_of_find?_eq_some he'
  have : e' = e := by
    apply Classical.byContradiction
    intro hne
    unfold UniqKeys at hu
    obtain ⟨i, hi, hie⟩ := List.mem_iff_getElem.mp (Array.mem_toList_iff.mpr he)
    obtain ⟨j, hj, hje⟩ := List.mem_iff_getElem.mp (Array.mem_toList_iff.mpr h2)
    have hkn : e.key.isStr n = true := by rw [hk']; show (n == n) = true; simp
    rcases Nat.lt_trichotomy i j with h | h | h
    · exact List.pairwise_iff_getElem.mp hu i j hi hj h n (by rw [hie]; exact hkn) (by rw [hje]; exact h1)
    · subst h; exact hne (hje.symm.trans hie)
    · exact List.pairwise_iff_getElem.mp hu j i hj hi h n (by rw [hje]; exact h1) (by rw [hie]; exact hkn)
  rw [this]; rfl
theorem mk_refresh {s₀ : Shared} {C N : Addr} {oC : Obj} {cd : ClassData} {m : Str → Option Value} {fs : List (Addr × Obj)} {Q : Unit → Shared → Prop} (k : Mk s₀ s C N oC m fs) (hd : oC.data = .cls cd) (hm : cd.mro = [.ref C, .type "object"]) (hn : cd.ns = N)
    (h4 : (oC.slots[4]?).join = some (.builtin "object.__new__")) (hnew : m (Str.ofString "__new__") = none) (h : Q () s) : wpAny M A (Bind.refreshMaker C) Q E s := by
  unfold Bind.refreshMaker
  have hsl : ∀ {Q' : Option Value → Shared → Prop}, Q' (some (.builtin "object.__new__")) s → wpAny M A (slotAt C 4) Q' E s := fun q => by
    unfold slotAt
    refine wpAny_bind (wpAny_loadPart k.c ?_)
    rw [h4]; exact wpAny_pure q
  refine wpAny_bind (hsl ?_)
  refine wpAny_ite_false rfl ?_
  refine wpAny_bind (cls_look (y := some (.builtin "object.__new__")) k.c hd hm hn k.n.ns (by rw [builtinOwn_eq_fast]; kernel_rfl) ?_)
  rw [hnew]
  refine wpAny_ite_false (by kernel_rfl) (wpAny_pure h)
noncomputable def slotDesc (C : Addr) (tk : Nat) : Obj := { cls := .type "member_descriptor", data := .fields [Value.str (Str.ofString "obj") tk, .ref C, .builtin "proto.slot", .builtin "proto.slot#set", rawInt 0].toArray }
theorem mk_install {s₀ : Shared} {C N : Addr} {oC : Obj} {cd : ClassData} {m : Str → Option Value} {fs : List (Addr × Obj)} {L : List Str} {Q : Unit → Shared → Prop} (k : Mk s₀ s C N oC m fs) (hd : oC.data = .cls cd) (hsc : cd.subclasses.length ≤ 100) (hobj : m (Str.ofString "obj") = none)
    (hL : ∀ n, (m n).isSome = true → n ∈ L) (hLl : L.length ≤ 100)
    (h : ∀ D tk s', Mk s₀ s' C N { oC with data := .cls { cd with hasDict := false, slotNames := [Str.ofString "obj"] } } (fun x => if x = Str.ofString "obj" then some (.ref D) else m x) ((D, slotDesc C tk) :: fs) → Q () s') :
    wpAny M A (Builtin.Slots.install (.ref C) N [.type "object"] { names := [Str.ofString "obj"], dict := false, weak := false }) Q E s := by
  unfold Builtin.Slots.install
  refine wpAny_bind (for_cons (wpAny_bind (mk_get k ?_)))
  rw [hobj]
  refine wpAny_ite_true rfl ?_
  refine wpAny_bind (wpAny_mkStr ?_ (by size_fits))
  refine wpAny_bind (wpAny_newObj_type ?_ (by size_fits))
  have k₁ := k.add (o := slotDesc C s.toks) (tk := s.toks + 1) (by rfl)
  show wpAny _ _ (nsSetByValue N (Str.ofString "obj") (.ref s.heap.objs.size) >>= _) _ _ { s with heap := s.heap.push (slotDesc C s.toks), toks := s.toks + 1 }
  generalize s.heap.objs.size = D at k₁
  generalize s.toks = tk at k₁
  generalize ({ s with heap := s.heap.push (slotDesc C tk), toks := tk + 1 } : Shared) = s₁ at k₁
  have hset : ∀ {Q' : Unit → Shared → Prop}, (∀ s', Mk s₀ s' C N oC (fun x => if x = Str.ofString "obj" then some (.ref D) else m x) ((D, slotDesc C tk) :: fs) → Q' () s') → wpAny M A (nsSetByValue N (Str.ofString "obj") (.ref D)) Q' E s₁ := fun q => by
    unfold nsSetByValue
    refine bc fun nG => ?_
    obtain ⟨o, es, ep, hn, hdn, hk, hu, hf⟩ := k₁.n
    refine nG ?_
    refine wpAny_bind (wpAny_loadPart hn ?_)
    rw [hdn]
    have hz : es.size ≤ 100 := Nat.le_trans (few (L := L) hk hu fun n hn => hL n (by rw [← hf]; exact hn)) hLl
    refine wpAny_ite_false (by rw [sizeLine_eq]; simp; lia) ?_
    exact mk_set k₁ q
  refine wpAny_bind (hset fun s₂ k₂ => ?_)
  refine wpAny_pure (for_nil ?_)
  refine wpAny_bind (for_cons ?_)
  refine wpAny_bind (m := Builtin.Slots.givesDict _) (wpAny_of_eq gd_obj ?_)
  refine wpAny_ite_false rfl ?_
  refine wpAny_pure (for_nil ?_)
  refine wpAny_ite_false (by kernel_rfl) ?_
  exact mk_cls k₂ hd hsc (Nat.le_trans (Nat.le_of_eq (by rfl)) (by decide : 1 ≤ 100)) fun s₃ k₃ => h _ _ _ k₃
end Mine
end
section
open PySem PySem.W PyProof.Rows
set_option maxRecDepth 100000
set_option maxHeartbeats 4000000
namespace Mine
variable {prog : Program} {w : World} {A : Around} {E : Value → Shared → Prop}
section
variable {h : Heap} {g : Array GenState} {d : Drawn} {t : Nat} {os : OsState}
theorem sub_self {C : Addr} {oC : Obj} {cd : ClassData} {M : Model} (hD : h.get? C = some oC) (hDt : oC.data = .cls cd) (hm : cd.mro = [.ref C, .type "object"]) : Looks M h (isSubtype (.ref C) (.ref C)) true := by
  intro A Q E s hk q
  unfold isSubtype mroOf classData
  refine wpAny_bind (wpAny_bind (wpAny_bind (wpAny_load (hk _ _ hD) ?_)))
  rw [hDt]
  refine wpAny_pure (wpAny_pure ?_)
  rw [hm]
  refine wpAny_ite_false rfl (wpAny_pure ?_)
  rw [show ([Value.ref C, Value.type "object"].contains (Value.ref C)) = true by simp]
  exact q
theorem sub_obj {C : Addr} {oC : Obj} {cd : ClassData} {M : Model} {x : String} (hD : h.get? C = some oC) (hDt : oC.data = .cls cd) (hm : cd.mro = [.ref C, .type "object"]) (hx : x = "object") : Looks M h (isSubtype (.ref C) (.type x)) true := by
  intro A Q E s hk q
  subst hx
  unfold isSubtype mroOf classData
  refine wpAny_bind (wpAny_bind (wpAny_bind (wpAny_load (hk _ _ hD) ?_)))
  rw [hDt]
  refine wpAny_pure (wpAny_pure ?_)
  rw [hm]
  refine wpAny_ite_false rfl (wpAny_pure ?_)
  rw [show ([Value.ref C, Value.type "object"].contains (Value.type "object")) = true by simp]
  exact q
theorem mro_cls {C : Addr} {oC : Obj} {cd : ClassData} {M : Model} (hD : h.get? C = some oC) (hDt : oC.data = .cls cd) (hm : cd.mro = [.ref C, .type "object"]) : Looks M h (mroOf (.ref C)) [.ref C, .type "object"] := by
  intro A Q E s hk q
  unfold mroOf classData
  refine wpAny_bind (wpAny_bind (wpAny_load (hk _ _ hD) ?_))
  rw [hDt]
  refine wpAny_pure (wpAny_pure ?_)
  rw [hm]; exact q
theorem super_cls {C : Addr} {oC : Obj} {cd : ClassData} {Q : Value → Shared → Prop} (hD : h.get? C = some oC) (hDt : oC.data = .cls cd) (hsub : Looks (model prog w) h (isSubtype (.ref C) (.ref C)) true)
    (hq : ∀ h', h'.get? h.objs.size = some { cls := .type "super", dict := none, data := .fields #[.ref C, .ref C, .ref C], slots := #[] } → (∀ y o, h.get? y = some o → h'.get? y = some o) → Q (.ref h.objs.size) ⟨h', g, d, t, os⟩) :
    wpAny (model prog w) A (call (.type "super") [.ref C, .ref C]) Q E ⟨h, g, d, t, os⟩ := by
  refine ks_callType_codesW (Q₁ := fun obj s₁ => obj = .ref h.objs.size ∧ s₁ = ⟨h.push { cls := .type "super", data := .fields #[.none, .none, .none] }, g, d, t, os⟩) F.ks_called_super (ks_wpAny_checkTypeCall_super hD hDt) F.ks_entry_super_init
    (ks_code_super_new _ _ ⟨rfl, rfl⟩) fun obj s₁ h₁ => ?_
  obtain ⟨rfl, rfl⟩ := h₁
  have up : ∀ y o, h.get? y = some o → (h.push { cls := .type "super", data := .fields #[.none, .none, .none] }).get? y = some o := fun y o e => Heap.get?_push_of_some _ e
  have hso : (h.push { cls := .type "super", data := .fields #[.none, .none, .none] }).get? h.objs.size = some { cls := .type "super", dict := none, data := .fields #[.none, .none, .none], slots := #[] } := Heap.get?_push_at rfl rfl
  have hD' := up _ _ hD
  have hsub' := hsub.keeps up
  refine ⟨⟨_, hso, rfl⟩, F.ks_initArgs_super _ _ _, ?_⟩
  unfold Builtin.«super.__init__» noKeywords
  repeat (first | (with_reducible refine ks_wpAny_isType_cls hD' hDt ?_) | (with_reducible refine Looks.at hsub' ?_) | (with_reducible refine ks_wpAny_super_set3 hso ?_) | wp_step)
  all_goals first
    | (intro h' e k; exact ⟨rfl, hq h' e fun y o ey => k y o (Nat.ne_of_lt (Heap.lt_size ey)) (up y o ey)⟩)
    | (refine ks_wpAny_super_set3 hso ?_; intro h' e k; exact ⟨rfl, hq h' e fun y o ey => k y o (Nat.ne_of_lt (Heap.lt_size ey)) (up y o ey)⟩)
theorem own_is : classOwn (.type "object") (Str.ofString "__init_subclass__") = pure (some (.builtin "object.__init_subclass__")) := by
  show (pure (builtinOwn "object" (Str.ofString "__init_subclass__")) : Sem (Option Value)) = _
  rw [builtinOwn_eq_fast]; kernel_rfl
theorem type_is : typeOf (.builtin "object.__init_subclass__") = pure (.type "classmethod_descriptor") := by
  show builtinType "object.__init_subclass__" = _
  kernel_rfl
theorem slot_cmd_get : Slot "classmethod_descriptor" "__get__" "classmethod_descriptor.__get__" := .of (owner := "classmethod_descriptor") (n := "__get__") (by rw [typeLookup_type, builtinLookup_eq_fast]; kernel_rfl) (by decide +kernel) (by decide +kernel) (by decide +kernel)
  (by first | exact .inl (by decide +kernel) | exact .inr (by decide +kernel)) (by rw [isSubtype_type]; kernel_rfl)
theorem entry_cmd_get : entryFor table "classmethod_descriptor.__get__" = some Builtin.«classmethod_descriptor.__get__» := entryFor_of_tree (by kernel_rfl)
theorem args_cmd (a b c : Value) : argsOk "classmethod_descriptor.__get__" ⟨[a, b, c], []⟩ := by unfold argsOk; kernel_rfl
theorem cmd_get {C : Addr} {oC : Obj} {cd : ClassData} {Q : PySem.Fin → Shared → Prop} (hD : h.get? C = some oC) (hDt : oC.data = .cls cd) (hm : cd.mro = [.ref C, .type "object"])
    (hq : Q (.done (.ret (.ref h.objs.size))) ⟨h.push { cls := .type "builtin_function_or_method", data := .fields #[.builtin "object.__init_subclass__", .ref C] }, g, d, t, os⟩) :
    wpAny (model prog w) A (Builtin.«classmethod_descriptor.__get__» ⟨[.builtin "object.__init_subclass__", .none, .ref C], []⟩) Q E ⟨h, g, d, t, os⟩ := by
  unfold Builtin.«classmethod_descriptor.__get__»
  refine wpAny_bind (wpAny_of_eq (a := (Value.builtin "object.__init_subclass__", none, some (Value.ref C))) (by kernel_rfl) ?_)
  refine wpAny_bind (m := pure _) (wpAny_pure ?_)
  refine wpAny_bind (m := isType _) (ks_wpAny_isType_cls hD hDt ?_)
  refine wpAny_ite_false rfl ?_
  refine wpAny_bind (m := isSubtype _ _) (Looks.at (sub_obj hD hDt hm (by kernel_rfl)) ?_)
  refine wpAny_ite_false rfl ?_
  exact wpAny_bind (wpAny_newObj_type (wpAny_pure hq) (by size_fits))
theorem super_ga {so C : Addr} {oC : Obj} {cd : ClassData} {tk : Tok} {Q : PySem.Fin → Shared → Prop} (hD : h.get? C = some oC) (hDt : oC.data = .cls cd) (hm : cd.mro = [.ref C, .type "object"])
    (hso : h.get? so = some { cls := .type "super", dict := none, data := .fields #[.ref C, .ref C, .ref C], slots := #[] }) (hno : Looks (model prog w) h (opaqueClassAbove (.ref C)) none)
    (hq : Q (.done (.ret (.ref h.objs.size))) ⟨h.push { cls := .type "builtin_function_or_method", data := .fields #[.builtin "object.__init_subclass__", .ref C] }, g, d, t, os⟩) :
    wpAny (model prog w) A (Builtin.«super.__getattribute__» ⟨[.ref so, .str (Str.ofString "__init_subclass__") tk], []⟩) Q E ⟨h, g, d, t, os⟩ := by
  have hdt : ({ cls := .type "super", dict := none, data := .fields #[.ref C, .ref C, .ref C], slots := #[] } : Obj).data = .fields #[.ref C, .ref C, .ref C] := rfl
  have f0 : (#[.ref C, .ref C, .ref C] : Array Value)[0]? = some (.ref C) := rfl
  have f1 : (#[.ref C, .ref C, .ref C] : Array Value)[1]? = some (.ref C) := rfl
  have f2 : (#[.ref C, .ref C, .ref C] : Array Value)[2]? = some (.ref C) := rfl
  have hl : (List.dropWhile (· != Value.ref C) [.ref C, .type "object"]).drop 1 = [Value.type "object"] := by simp [List.dropWhile]
  unfold Builtin.«super.__getattribute__»
  refine wpAny_bind (m := asStr? _) (wpAny_of_eq (a := some (Str.ofString "__init_subclass__")) rfl ?_)
  refine wpAny_ite_false rfl ?_
  refine wpAny_bind (m := asStr? _) (wpAny_of_eq (a := some (Str.ofString "__init_subclass__")) rfl ?_)
  refine wpAny_bind (m := field _ _) (wpAny_field hso hdt f0 ?_)
  refine wpAny_bind (m := field _ _) (wpAny_field hso hdt f1 ?_)
  refine wpAny_bind (m := field _ _) (wpAny_field hso hdt f2 ?_)
  refine wpAny_ite_false (by kernel_rfl) ?_
  refine wpAny_bind (ks_wpAny_notOpaque hno ?_)
  refine wpAny_ite_false (by kernel_rfl) ?_
  refine wpAny_bind (Looks.at (mro_cls hD hDt hm) ?_)
  refine wpAny_bind (m := forIn _ _ _) ?_
  rw [hl]
  refine for_cons (wpAny_bind (wpAny_of_eq own_is ?_))
  refine wpAny_bind (wpAny_of_eq type_is ?_)
  refine wpAny_bind (wpAny_of_eq slot_cmd_get.lookup ?_)
  refine wpAny_bind (wpAny_holding (wpAny_call_entry slot_cmd_get (by exact type_is) entry_cmd_get ?_ (args_cmd _ _ _)))
  rw [if_pos (by simp)]
  refine cmd_get hD hDt hm ⟨_, rfl, ?_⟩
  exact wpAny_bind (wpAny_pure (wpAny_pure (wpAny_pure hq)))
theorem super_is {so C : Addr} {oC : Obj} {cd : ClassData} {Q : Value → Shared → Prop} (hD : h.get? C = some oC) (hDt : oC.data = .cls cd) (hm : cd.mro = [.ref C, .type "object"])
    (hso : h.get? so = some { cls := .type "super", dict := none, data := .fields #[.ref C, .ref C, .ref C], slots := #[] }) (hno : Looks (model prog w) h (opaqueClassAbove (.ref C)) none)
    (hq : Q (.ref h.objs.size) ⟨h.push { cls := .type "builtin_function_or_method", data := .fields #[.builtin "object.__init_subclass__", .ref C] }, g, d, t + 1, os⟩) :
    wpAny (model prog w) A (getAttr (.ref so) (Str.ofString "__init_subclass__")) Q E ⟨h, g, d, t, os⟩ := by
  have hlk := F.ks_slot_super_ga.lookup
  have hT : ∀ t', (⟨h, g, d, t', os⟩ : Shared).TypeIs (.ref so) "super" := fun _ => ⟨_, hso, rfl⟩
  unfold getAttr getAttrBy
  refine wpAny_bind (wpAny_mkText (wpAny_holding (wpAny_bind (wpAny_typeOf (hT _) (wpAny_bind (wpAny_of_eq hlk ?_))))))
  show wpAny _ _ (getAttrByItsOwn (.ref so) (.str (Str.ofString "__init_subclass__") t) (.type "super") (.builtin "super.__getattribute__") true false) _ _ _
  unfold getAttrByItsOwn hookBefore callGetattribute boundAndCalled
  refine wpAny_bind (wpAny_of_eq (show (if onTheHeap (.type "super") then typeLookup (.type "super") "__getattr__" else pure none) = pure none from rfl) ?_)
  refine wpAny_bind (wpAny_attempt (wpAny_holding ?_))
  show wpAny _ _ (bindSpecial (.builtin "super.__getattribute__") (.ref so) >>= _) _ _ _
  refine wpAny_bind (wpAny_of_eq (F.ks_slot_super_ga.bind _) ?_)
  refine wpAny_mono (Q := fun v s' => v = .ref h.objs.size ∧ s' = ⟨h.push { cls := .type "builtin_function_or_method", data := .fields #[.builtin "object.__init_subclass__", .ref C] }, g, d, t + 1, os⟩) (E := fun _ _ => False)
    (wpAny_call_entry F.ks_slot_super_ga (hT _) F.ks_entry_super_ga (super_ga hD hDt hm hso hno ⟨_, rfl, rfl, rfl⟩) (F.ks_gaArgs_super _ _)) (fun v s' hv => ?_) fun _ _ z => z.elim
  obtain ⟨rfl, rfl⟩ := hv
  exact wpAny_pure hq
theorem sub_tm : isSubtype (.type "type") (.type "module") = pure false := by rw [isSubtype_type]; kernel_rfl
theorem last_is : Bind.lastOf "object.__init_subclass__" = "__init_subclass__" := by decide +kernel
theorem ne_is (x : String) : (toString x ++ toString "." ++ toString (Bind.lastOf "object.__init_subclass__") != "*") = true := by
  rw [last_is]
  rw [bne_iff_ne]
  intro e
  have := congrArg String.length e
  simp only [String.length_append, toString] at this
  have h1 : ("__init_subclass__" : String).length = 17 := by decide +kernel
  have h2 : ("*" : String).length = 1 := by decide +kernel
  rw [h1, h2] at this
  lia
theorem chkArgs_is {C : Addr} {Q : Unit → Shared → Prop} {s : Shared} (x : String) (hq : Q () s) :
    wpAny (model prog w) A (Bind.checkArgs "object.__init_subclass__" { machinery := Manifest.Machinery.noArgs, full := toString x ++ toString "." ++ toString (Bind.lastOf "object.__init_subclass__"), short := "__init_subclass__", receiver := Manifest.Receiver.cls, params := [] } ⟨[.ref C], []⟩) Q E s := by
  unfold Bind.checkArgs
  refine wpAny_bind (m := Bind.printed _ true _ _) (printed_name (ne_is x) ?_)
  refine wpAny_bind (m := Bind.printed _ false _ _) (printed_name (show ("__init_subclass__" != "*") = true by decide +kernel) ?_)
  refine wpAny_onRaise (m := Bind.check _ _ _ _ _) ?_
  unfold Bind.check
  refine wpAny_ite_false (by rfl) ?_
  refine wpAny_ite_false (by rfl) ?_
  exact wpAny_pure hq
theorem cls_data {C : Addr} {oC : Obj} {cd : ClassData} {M : Model} {A : Around} {E : Value → Shared → Prop} {s : Shared} (hD : s.heap.get? C = some oC) (hDt : oC.data = .cls cd) : wpAny M A (classData C) (fun c s' => c = cd ∧ s' = s) E s := by
  unfold classData
  refine wpAny_bind (wpAny_load hD ?_)
  rw [hDt]
  exact wpAny_pure ⟨rfl, rfl⟩
theorem chk_is {C : Addr} {oC : Obj} {cd : ClassData} {Q : Unit → Shared → Prop} (hD : h.get? C = some oC) (hDt : oC.data = .cls cd) (hcl : oC.cls = .type "type") (hq : Q () ⟨h, g, d, t, os⟩) :
    wpAny (model prog w) A (checkBoundCall "object.__init_subclass__" ⟨[.ref C], []⟩) Q E ⟨h, g, d, t, os⟩ := by
  unfold checkBoundCall
  refine wpAny_ite_false (by kernel_rfl) ?_
  refine wpAny_bind (m := isInstance _ _) (wpAny_isInstance (T := "type") (b := false) ⟨oC, hD, hcl⟩ sub_tm ?_)
  refine wpAny_ite_false (by kernel_rfl) ?_
  refine wpAny_bind (m := isType _) (ks_wpAny_isType_cls hD hDt ?_)
  refine wpAny_ite_true rfl ?_
  refine wpAny_bind (wpAny_pure ?_)
  refine wpAny_bind (mono2 (cls_data hD hDt) fun _ _ qq0 qq1 => ?_)
  obtain rfl := qq0
  obtain rfl := qq1
  refine wpAny_bind (m := typeOf _) (wpAny_typeOf (T := "type") ⟨oC, hD, hcl⟩ ?_)
  refine wpAny_ite_true (by rfl) ?_
  refine chkArgs_is _ hq
theorem entry_is : entryFor table "object.__init_subclass__" = some Builtin.«object.__init_subclass__» := entryFor_of_tree (by kernel_rfl)
theorem plain_is : plainId "object.__init_subclass__" = true := by decide +kernel
theorem call_is {f C : Addr} {oC : Obj} {cd : ClassData} {Q : Value → Shared → Prop} (hD : h.get? C = some oC) (hDt : oC.data = .cls cd) (hcl : oC.cls = .type "type")
    (hf : h.get? f = some { cls := .type "builtin_function_or_method", dict := none, data := .fields #[.builtin "object.__init_subclass__", .ref C], slots := #[] })
    (hq : Q .none ⟨h, g, d, t, os⟩) : wpAny (model prog w) A (call (.ref f) [] []) Q E ⟨h, g, d, t, os⟩ := by
  refine wpAny_call (codeAny_of_tree ?_)
  show wpAny _ A.in1 (callAny (.ref f) _) _ _ _
  unfold callAny
  refine wpAny_bind (wpAny_load hf ?_)
  refine wpAny_ite_true (by rfl) ?_
  refine wpAny_ite_true (by rfl) ?_
  show wpAny _ _ (checkBoundCall "object.__init_subclass__" ⟨[.ref C], []⟩ >>= fun _ => again (.builtin "object.__init_subclass__" ⟨[.ref C], []⟩)) _ _ _
  refine wpAny_bind (chk_is hD hDt hcl ?_)
  refine wpAny_pure ⟨plainId_quiet plain_is _, codeAny_builtin entry_is ?_⟩
  rw [Around.under_plainId plain_is _]
  unfold Builtin.«object.__init_subclass__»
  refine wpAny_ite_true (by rfl) ?_
  exact wpAny_pure hq
end
end Mine
end
section
open PySem PySem.W PyProof.Rows
set_option maxRecDepth 100000
set_option maxHeartbeats 4000000
namespace Mine
variable {prog : Program} {w : World} {A : Around} {E : Value → Shared → Prop} {s : Shared}
theorem sub_tt : isSubtype (.type "tuple") (.type "tuple") = pure true := by rw [isSubtype_type]; kernel_rfl
theorem sub_dd : isSubtype (.type "dict") (.type "dict") = pure true := by rw [isSubtype_type]; kernel_rfl
theorem turned_obj : Builtin.notOverATurnedClass [.type "object"] = pure () := by kernel_rfl
theorem ext_obj : Builtin.extendedBase [.type "object"] = pure (.type "object") := by kernel_rfl
theorem dict_iter : typeLookup (.type "dict") "__iter__" = pure (some (.builtin "dict.__iter__")) := by rw [typeLookup_type, builtinLookup_eq_fast]; kernel_rfl
noncomputable def Nd (h : Heap) (a : Addr) (m : Str → Option Value) (k : Nat) : Prop :=
  ∃ o es ep, h.get? a = some o ∧ o.cls = .type "dict" ∧ o.data = .dict es ep ∧ StrKeys es ∧ UniqKeys es ∧ (∀ name, nsFind es name = m name) ∧ es.size ≤ k
theorem find_ns {es : Array DictEntry} {n : Str} {v : Value} (h : nsFind es n = some v) : ∃ e, es.find? (·.key.isStr n) = some e ∧ e.val = v := by
  unfold nsFind findBy at h
  obtain ⟨e, he, rfl⟩ := Option.map_eq_some_iff.mp h
  exact ⟨e, he, rfl⟩
theorem any_ns {es : Array DictEntry} {n : Str} : es.any (·.key.isStr n) = (nsFind es n).isSome := by
  unfold nsFind findBy
  rw [Option.isSome_map, Bool.eq_iff_iff]
  simp only [Array.find?_isSome, Array.any_eq_true]
  constructor
  · rintro ⟨i, hi, hp⟩; exact ⟨_, Array.getElem_mem hi, hp⟩
  · rintro ⟨x, hx, hp⟩; obtain ⟨i, hi, rfl⟩ := Array.mem_iff_getElem.mp hx; exact ⟨i, hi, hp⟩
theorem linz_obj : Builtin.linearize [.type "object"] mroOf = pure [.type "object"] := by kernel_rfl
theorem mroh_type : Builtin.mroHook? (.type "type") = pure Option.none := by unfold Builtin.mroHook?; rw [typeLookup_type, builtinLookup_eq_fast]; kernel_rfl
theorem made_obj : Bind.madeBy (.type "object") = pure (some "object.__new__") := by kernel_rfl
theorem note_obj {a : Addr} : Builtin.noteSubclassOfBuiltin "object" a = pure () := by kernel_rfl
noncomputable def NoSN (s : Shared) (v : Value) : Prop := (∀ id, v ≠ .builtin id) ∧ ∃ T, s.TypeIs v T ∧ typeLookup (.type T) (Str.ofString "__set_name__") = pure none
theorem TypeIs.keeps {s s' : Shared} {v : Value} {T : String} (k : Keeps s s') (h : s.TypeIs v T) : s'.TypeIs v T := by
  obtain ⟨h', t, rfl, e⟩ := k
  cases v <;> first | exact h | (obtain ⟨o, ho, hc⟩ := h; exact ⟨o, e _ _ ho, hc⟩)
theorem NoSN.keeps {s s' : Shared} {v : Value} (k : Keeps s s') (h : NoSN s v) : NoSN s' v := ⟨h.1, h.2.choose, TypeIs.keeps k h.2.choose_spec.1, h.2.choose_spec.2⟩
theorem sn_md : typeLookup (.type "member_descriptor") (Str.ofString "__set_name__") = pure none := by rw [typeLookup_type, builtinLookup_eq_fast]; kernel_rfl
theorem sn_none : typeLookup (.type "NoneType") (Str.ofString "__set_name__") = pure none := by rw [typeLookup_type, builtinLookup_eq_fast]; kernel_rfl
theorem sn_str : typeLookup (.type "str") (Str.ofString "__set_name__") = pure none := by rw [typeLookup_type, builtinLookup_eq_fast]; kernel_rfl
theorem sn_int : typeLookup (.type "int") (Str.ofString "__set_name__") = pure none := by rw [typeLookup_type, builtinLookup_eq_fast]; kernel_rfl
theorem sn_list : typeLookup (.type "list") (Str.ofString "__set_name__") = pure none := by rw [typeLookup_type, builtinLookup_eq_fast]; kernel_rfl
theorem sn_tuple : typeLookup (.type "tuple") (Str.ofString "__set_name__") = pure none := by rw [typeLookup_type, builtinLookup_eq_fast]; kernel_rfl
theorem sn_fn : typeLookup (.type "function") (Str.ofString "__set_name__") = pure none := by rw [typeLookup_type, builtinLookup_eq_fast]; kernel_rfl
theorem laid_no {k v : Value} (h : ∀ id, v ≠ .builtin id) : Builtin.laidUnderItsOwnName k v = false := by
  cases k <;> first | rfl | (cases v <;> first | rfl | exact absurd rfl (h _))
noncomputable def clsP (N : Addr) (q : Str) (mro : List Value) (hdct hd : Bool) (sn : List Str) (sl : Array (Option Value)) : Obj :=
  { cls := .type "type", data := .cls { name := Str.ofString "K", bases := [.type "object"], mro, ns := N, qualname := q, hasDict := hdct, slotNames := sn, hasDel := hd }, slots := sl }
noncomputable def clsK (C N bT : Addr) (tk : Tok) (q : Str) (tq : Tok) : Obj :=
  { cls := .type "type", data := .cls { name := Str.ofString "K", bases := [.type "object"], mro := [.ref C, .type "object"], ns := N, qualname := q, hasDict := false, slotNames := [Str.ofString "obj"] },
    slots := #[some (.ref bT), Option.none, some (.str (Str.ofString "K") tk), some (.str q tq), some (.builtin "object.__new__"), some (.bool false)] }
noncomputable def mapK (m : Str → Option Value) (D : Addr) : Str → Option Value := fun x => if x = Str.ofString "__doc__" then some .none else if x = Str.ofString "obj" then some (.ref D) else if x = Str.ofString "__qualname__" then none else m x
theorem for_arr {M : Model} {α β : Type} (f : α → β → Sem (ForInStep β)) (I : List α → β → Shared → Prop) (Q : β → Shared → Prop)
    (turn : ∀ x rest b s, I (x :: rest) b s → wpAny M A (f x b) (fun r s' => match r with | .yield b' => I rest b' s' | .done b' => Q b' s') E s)
    (fin : ∀ b s, I [] b s → Q b s) (xs : Array α) (b : β) (h : I xs.toList b s) : wpAny M A (forIn xs b f) Q E s := by
  rw [← Array.forIn_toList]
  exact wpAny_forIn_list f I Q turn fin _ b h
theorem tnew {bT nsA l : Addr} {tk t : Tok} {m : Str → Option Value} {k : Nat} {P : PySem.Fin → Shared → Prop} (hb : IsTup s.heap bT #[.type "object"]) (hN : Nd s.heap nsA m k) (hk : k ≤ 100) (hns : nsA ≠ sysModules)
    (hsl : m (Str.ofString "__slots__") = some (.ref l)) (hl : s.heap.IsList l [.str (Str.ofString "obj") t].toArray) (hno : m (Str.ofString "obj") = none) (hmod : (m (Str.ofString "__module__")).isSome = true) {q : Str} {tq : Tok} (hq : m (Str.ofString "__qualname__") = some (.str q tq)) (hdoc : m (Str.ofString "__doc__") = none) (hdel : m (Str.ofString "__del__") = none) (hnew : m (Str.ofString "__new__") = none) (his : m (Str.ofString "__init_subclass__") = none) (hcgi : m (Str.ofString "__class_getitem__") = none) (hcc : m (Str.ofString "__classcell__") = none) (hcdc : m (Str.ofString "__classdictcell__") = none) (heq : (m (Str.ofString "__eq__")).isSome = true) (hhash : (m (Str.ofString "__hash__")).isSome = true)
    (hval : ∀ n v, m n = some v → NoSN s v) {Kf : Frag} (hthird : nsIn Kf cStatics "thirdparty.any" = some none) (KX : Kf.In s.heap) {L : List Str} (hL : ∀ n, (m n).isSome = true → n ∈ L) (hLl : L.length ≤ 50)
    (hP : ∀ C N D dt s', Mk s s' C N (clsK C N bT tk q tq) (mapK m D) [(D, slotDesc C dt)] → P (.done (.ret (.ref C))) s') :
    wpAny (model prog w) A (Builtin.«type.__new__» ⟨[.type "type", .str (Str.ofString "K") tk, .ref bT, .ref nsA], []⟩) P E s := by
  obtain ⟨ob, hob, hcb, nb, hdb⟩ := id hb
  obtain ⟨oN, es, ep, hn, hc, hd, hsk, huk, hfind, hsz⟩ := id hN
  unfold Builtin.«type.__new__»
  refine wpAny_bind (m := asStr? _) (wpAny_of_eq (a := some (Str.ofString "K")) rfl ?_)
  refine wpAny_bind (wpAny_isInstance (T := "tuple") (b := true) ⟨ob, hob, hcb⟩ sub_tt ?_)
  refine wpAny_ite_false rfl ?_
  refine wpAny_bind (wpAny_isInstance (T := "dict") (b := true) ⟨oN, hn, hc⟩ sub_dd ?_)
  refine wpAny_ite_false rfl ?_
  refine wpAny_bind (wpAny_seqItems hob hdb ?_)
  refine wpAny_ite_false rfl ?_
  refine wpAny_bind (m := forIn _ _ _) (wpAny_of_eq (a := PUnit.unit) rfl ?_)
  refine wpAny_bind (m := forIn _ _ _) (wpAny_of_eq (a := Value.type "type") (by kernel_rfl) ?_)
  refine wpAny_ite_false (by decide) ?_
  refine wpAny_bind (m := Builtin.notOverATurnedClass _) (wpAny_of_eq turned_obj ?_)
  refine wpAny_bind (m := Builtin.extendedBase _) (wpAny_of_eq ext_obj ?_)
  refine wpAny_ite_false (by simpa using hns) ?_
  have hde : ∀ {Q' : Array DictEntry → Shared → Prop}, Q' es s → wpAny (model prog w) A (dictEntries nsA) Q' E s := fun q => by
    unfold dictEntries
    refine wpAny_bind (wpAny_loadPart hn ?_)
    rw [hd]; exact wpAny_pure q
  refine wpAny_bind (hde ?_)
  refine wpAny_bind (wpAny_specialOf (T := "dict") ⟨oN, hn, hc⟩ dict_iter ?_)
  refine wpAny_ite_true (by simp) ?_
  obtain ⟨e, he, hev⟩ := find_ns ((hfind _).trans hsl)
  refine wpAny_bind (m := pure _) (wpAny_pure ?_)
  refine wpAny_bind (wpAny_holding (slots_read he hev hl (by rw [any_ns, hfind, hno]; rfl) fun h₁ x₁ => ?_))
  refine wpAny_bind (wpAny_newObj_type ?_ (by show es.size ≤ _; rw [sizeLine_eq]; lia))
  have kN : Keeps s { heap := h₁.push { cls := .type "dict", data := .dict es }, gens := s.gens, drawn := s.drawn, toks := s.toks, os := s.os } := ⟨_, _, rfl, fun b o e => Heap.get?_push_of_some _ (x₁ b o e)⟩
  have fN : s.heap.get? h₁.objs.size = Option.none := by
    cases q : s.heap.get? h₁.objs.size with
    | none => rfl
    | some o => exact absurd (Heap.lt_size (x₁ _ _ q)) (Nat.lt_irrefl _)
  have hsz : (h₁.push { cls := .type "dict", data := .dict es }).objs.size = h₁.objs.size + 1 := Heap.size_push ..
  have n₀ : (h₁.push { cls := .type "dict", data := .dict es }).Ns1 h₁.objs.size m := ⟨_, es, 0, Heap.get?_push_size _ rfl, rfl, hsk, huk, hfind⟩
  generalize h₁.push { cls := .type "dict", data := .dict es } = h₂ at n₀ hsz kN
  generalize hNN : h₁.objs.size = N at n₀ hsz fN kN
  show wpAny _ _ _ _ _ { heap := h₂, gens := s.gens, drawn := s.drawn, toks := s.toks, os := s.os }
  have hhp : ({ heap := h₂, gens := s.gens, drawn := s.drawn, toks := s.toks, os := s.os } : Shared).heap = h₂ := rfl
  generalize ({ heap := h₂, gens := s.gens, drawn := s.drawn, toks := s.toks, os := s.os } : Shared) = s₂ at kN hhp
  subst hhp
  refine wpAny_ite_false (by show decide ((!(es.any fun x => x.key.isStr (Str.ofString "__module__"))) = true) = false; rw [any_ns, hfind]; simp [hmod]) ?_
  refine wpAny_bind (wpAny_ite_false (by kernel_rfl) (wpAny_pure ?_))
  refine wpAny_ite_false (by kernel_rfl) ?_
  refine wpAny_bind (wpAny_nsGet n₀.ns ?_)
  rw [hq]
  refine wpAny_bind (wpAny_nsGet n₀.ns ?_)
  rw [hq]
  refine wpAny_bind (m := asStr? _) (wpAny_of_eq (a := some q) rfl ?_)
  refine wpAny_bind (m := pure _) (wpAny_pure ?_)
  refine wpAny_bind (wpAny_nsGet n₀.ns ?_)
  rw [hdoc]
  refine wpAny_bind (wpAny_alloc ?_)
  have mk : Mk s { s₂ with heap := s₂.heap.push { cls := .type "type", data := .cls { name := Str.ofString "K", bases := [.type "object"], mro := [], ns := N, qualname := q } } } s₂.heap.objs.size N { cls := .type "type", data := .cls { name := Str.ofString "K", bases := [.type "object"], mro := [], ns := N, qualname := q } } m [] := by
    have fC : s.heap.get? s₂.heap.objs.size = Option.none := by
      cases q : s.heap.get? s₂.heap.objs.size with
      | none => rfl
      | some o => obtain ⟨h, t, rfl, e⟩ := kN; exact absurd (Heap.lt_size (e _ _ q)) (Nat.lt_irrefl _)
    refine ⟨?_, Heap.get?_push_size _ rfl, n₀.at fun o e => Heap.get?_push_of_some _ e, (fun q => absurd (hsz.symm.trans q) (Nat.succ_ne_self N)), fC, fN, fun _ h => nomatch h⟩
    obtain ⟨h, t, rfl, e⟩ := kN
    exact ⟨_, t, rfl, fun b o q => Heap.get?_push_of_some _ (e b o q)⟩
  show wpAny _ _ _ _ _ { s₂ with heap := s₂.heap.push { cls := .type "type", data := .cls { name := Str.ofString "K", bases := [.type "object"], mro := [], ns := N, qualname := q } } }
  generalize s₂.heap.objs.size = C at mk
  generalize ({ s₂ with heap := s₂.heap.push { cls := .type "type", data := .cls { name := Str.ofString "K", bases := [.type "object"], mro := [], ns := N, qualname := q } } } : Shared) = s₃ at mk
  refine wpAny_ite_true rfl ?_
  have mk : Mk s s₃ C N (clsP N q [] ({ name := Str.ofString "K", bases := [.type "object"], mro := [], ns := N, qualname := q } : ClassData).hasDict false [] #[]) m [] := mk
  generalize ({ name := Str.ofString "K", bases := [.type "object"], mro := [], ns := N, qualname := q } : ClassData).hasDict = hdct at mk
  refine wpAny_bind (mk_slot' (clsP N q [] hdct false [] #[some (.ref bT)]) mk rfl (by decide) (by kernel_rfl) fun s₄ mk => ?_)
  refine wpAny_bind (mk_slot' (clsP N q [] hdct false [] #[some (.ref bT), none, some (.str (Str.ofString "K") tk)]) mk rfl (by decide) (by kernel_rfl) fun s₅ mk => ?_)
  refine wpAny_bind (mk_slot' (clsP N q [] hdct false [] #[some (.ref bT), none, some (.str (Str.ofString "K") tk), some (.str q tq)]) mk rfl (by decide) (by kernel_rfl) fun s₆ mk => ?_)
  refine wpAny_bind (mk_del mk fun s₇ mk => ?_)
  refine wpAny_bind (mk_get mk ?_)
  rw [if_neg (by decide), hnew]
  refine wpAny_bind (for_cons (wpAny_bind (mk_get mk ?_)))
  rw [if_neg (by decide), his]
  refine wpAny_pure (for_cons (wpAny_bind (mk_get mk ?_)))
  rw [if_neg (by decide), hcgi]
  refine wpAny_pure (for_nil ?_)
  refine wpAny_bind (mk_get mk ?_)
  rw [if_neg (by decide), hcc]
  refine wpAny_bind (mk_get mk ?_)
  rw [if_neg (by decide), hcdc]
  refine wpAny_bind (m := Builtin.mroHook? _) (wpAny_of_eq mroh_type ?_)
  refine wpAny_bind (m := Builtin.linearize _ _) (wpAny_of_eq linz_obj ?_)
  refine wpAny_bind (m := List.anyM _ _) (wpAny_of_eq (a := false) ?_ ?_)
  · rw [show List.filter (fun x => x != Value.ref C) [Value.ref C, Value.type "object"] = [Value.type "object"] by simp [List.filter]; rfl]
    kernel_rfl
  refine wpAny_bind (mk_cls mk rfl (Nat.zero_le _) (Nat.zero_le _) fun s₈ mk => ?_)
  have mk : Mk s s₈ C N (clsP N q [.ref C, .type "object"] hdct ((es.any fun x => x.key.isStr (Str.ofString "__del__")) || false) [] #[some (.ref bT), none, some (.str (Str.ofString "K") tk), some (.str q tq)]) _ [] := mk
  rw [any_ns, hfind, hdel, show ((none : Option Value).isSome || false) = false from rfl] at mk
  refine wpAny_bind (m := Bind.madeBy _) (wpAny_of_eq made_obj ?_)
  refine wpAny_bind (mk_slot' (clsP N q [.ref C, .type "object"] hdct false [] #[some (.ref bT), none, some (.str (Str.ofString "K") tk), some (.str q tq), some (.builtin "object.__new__")]) mk rfl (by decide) (by kernel_rfl) fun s₉ mk => ?_)
  refine wpAny_bind (mk_refresh mk rfl rfl rfl (by kernel_rfl) (by rw [if_neg (by decide), hnew]) ?_)
  have hL₁ : ∀ n, ((if n = Str.ofString "__qualname__" then none else m n) : Option Value).isSome = true → n ∈ L := fun n h => hL n (by
    by_cases q : n = Str.ofString "__qualname__"
    · rw [if_pos q] at h; cases h
    · rw [if_neg q] at h; exact h)
  refine wpAny_bind (mk_install mk rfl (Nat.zero_le _) (by rw [if_neg (by decide), hno]) hL₁ (Nat.le_trans hLl (by decide)) fun D dt s₁₀ mk => ?_)
  refine wpAny_bind (m := Builtin.Slots.givesWeak _) (wpAny_of_eq gw_obj ?_)
  have mk : Mk s s₁₀ C N (clsP N q [.ref C, .type "object"] false false [Str.ofString "obj"] #[some (.ref bT), none, some (.str (Str.ofString "K") tk), some (.str q tq), some (.builtin "object.__new__")]) _ _ := mk
  refine wpAny_bind (mk_slot' (clsK C N bT tk q tq) mk rfl (by decide) (by kernel_rfl) fun s₁₁ mk => ?_)
  refine wpAny_bind (m := nsGet _ _) (mk_getv mk (v := none) (by rw [if_neg (by decide), if_neg (by decide), hdoc]) ?_)
  refine wpAny_ite_true rfl ?_
  refine wpAny_bind (mk_set mk fun s₁₂ mk => ?_)
  obtain ⟨ve, hve⟩ := Option.isSome_iff_exists.mp heq
  obtain ⟨vh, hvh⟩ := Option.isSome_iff_exists.mp hhash
  refine wpAny_bind (m := nsGet _ _) (mk_getv mk (v := some ve) (by rw [if_neg (by decide), if_neg (by decide), if_neg (by decide), hve]) ?_)
  refine wpAny_ite_true rfl ?_
  refine wpAny_bind (m := nsGet _ _) (mk_getv mk (v := some vh) (by rw [if_neg (by decide), if_neg (by decide), if_neg (by decide), hvh]) ?_)
  refine wpAny_ite_false rfl ?_
  refine wpAny_bind (m := forIn _ _ _) (for_cons ?_)
  refine wpAny_bind (wpAny_of_eq note_obj (wpAny_pure (for_nil ?_)))
  refine wpAny_bind (wpAny_tryCatch (wpAny_holding ?_))
  have mk' : Mk s s₁₂ C N (clsK C N bT tk q tq) (mapK m D) [(D, slotDesc C dt)] := mk
  obtain ⟨oN', es', ep', hn', hd', hk', hu', hf'⟩ := mk'.n
  have hde' : ∀ {Q' : Array DictEntry → Shared → Prop} {E' : Value → Shared → Prop}, Q' es' s₁₂ → wpAny (model prog w) A (dictEntries N) Q' E' s₁₂ := fun q => by
    unfold dictEntries
    refine wpAny_bind (wpAny_loadPart hn' ?_)
    rw [hd']; exact wpAny_pure q
  refine wpAny_bind (hde' ?_)
  refine wpAny_bind (for_arr _ (fun rest b s' => b = false ∧ s' = s₁₂ ∧ ∀ e ∈ rest, e ∈ es') _ ?_ (fun b s' h => ?_) es' false ⟨rfl, rfl, fun e h => Array.mem_toList_iff.mp h⟩)
  · rintro x rest b s' ⟨h00, h0, hr⟩
    rw [h0, h00]
    obtain ⟨n, t', hx⟩ := hk' x (hr x (.head _))
    refine wpAny_bind (m := asStr? _) (wpAny_of_eq (a := some n) (by rw [hx]; rfl) ?_)
    exact wpAny_ite_false rfl (wpAny_pure ⟨rfl, rfl, fun e h => hr e (.tail _ h)⟩)
  obtain ⟨h00, h0, -⟩ := h
  rw [h0, h00]
  refine wpAny_ite_false rfl ?_
  refine wpAny_bind (hde' ?_)
  refine wpAny_bind (for_arr _ (fun rest b s' => s' = s₁₂ ∧ ∀ e ∈ rest, e ∈ es') _ ?_ (fun b s' h => ?_) es' PUnit.unit ⟨rfl, fun e h => Array.mem_toList_iff.mp h⟩)
  · rintro x rest b s' ⟨h0, hr⟩
    rw [h0]
    obtain ⟨n, t', hx, hfx⟩ := entry_val hk' hu' (hr x (.head _))
    have hns : NoSN s₁₂ x.val := by
      rw [hf'] at hfx
      unfold mapK at hfx
      split at hfx
      · rw [← Option.some.inj hfx]; exact ⟨fun _ e => (nomatch e), "NoneType", rfl, sn_none⟩
      · split at hfx
        · rw [← Option.some.inj hfx]; exact ⟨fun _ e => (nomatch e), "member_descriptor", ⟨_, (mk'.xs _ (.head _)).1, rfl⟩, sn_md⟩
        · split at hfx
          · cases hfx
          · exact (hval _ _ hfx).keeps mk'.kp
    obtain ⟨hnb, T, hT, hl⟩ := hns
    refine wpAny_ite_false (by rw [laid_no hnb]; rfl) ?_
    exact wpAny_bind (wpAny_specialOf hT hl (wpAny_pure ⟨rfl, fun e h => hr e (.tail _ h)⟩))
  obtain ⟨h0, -⟩ := h
  rw [h0]
  have hno : Looks (model prog w) s₁₂.heap (opaqueClassAbove (.ref C)) none := looks_opaque (KX.keeps (Keeps.ext mk'.kp)) hthird
  obtain ⟨hp, g, d, t₉, os⟩ := s₁₂
  have hcl : hp.get? C = some (clsK C N bT tk q tq) := mk'.c
  refine wpAny_bind (super_cls hcl rfl (sub_self hcl rfl rfl) fun h' hso kk => ?_)
  have hcl' := kk _ _ hcl
  refine wpAny_bind (wpAny_holding (super_is hcl' rfl rfl hso (hno.keeps kk) ?_))
  refine wpAny_bind (call_is (Heap.get?_push_of_some _ hcl') rfl rfl (Heap.get?_push_size _ rfl) ?_)
  refine wpAny_pure ?_
  refine wpAny_pure (hP _ _ _ _ _ (mk'.more ⟨_, _, rfl, fun b o e => Heap.get?_push_of_some _ (kk b o e)⟩))
end Mine
end
section
open PySem PySem.W PyProof.Rows
set_option maxRecDepth 100000
set_option maxHeartbeats 400000
namespace Mine
variable {prog : Program} {w : World} {A : Around} {E : Value → Shared → Prop} {s : Shared}
noncomputable def prepObj : Obj := { cls := .type "builtin_function_or_method", data := .fields #[.builtin "type.__prepare__", .type "type"] }
theorem nil_in (h : Heap) : Frag.In ([] : Frag) h := fun a o e => by cases e
theorem type_pr : typeOf (.builtin "type.__prepare__") = pure (.type "classmethod_descriptor") := by show builtinType _ = _; rw [builtinType_eq_fast]; kernel_rfl
theorem isType_type : isType (.type "type") = pure true := by first | rfl | kernel_rfl
theorem sub_type : isSubtype (.type "type") (.type "type") = pure true := by rw [isSubtype_type]; kernel_rfl
theorem find_pr : findCls [] (.type "type") (.type "type") (Str.ofString "__prepare__") = some (.get (.builtin "classmethod_descriptor.__get__") (.builtin "type.__prepare__") .none (.type "type")) := by kernel_rfl
theorem stub_type : opaqueClassAbove (.type "type") = pure none := by unfold opaqueClassAbove; dsimp only; rw [show Manifest.isStub "type" = false by decide +kernel]; rfl
theorem prep_run {P : PySem.Fin → Shared → Prop} {M : Model} (h : P (.done (.ret (.ref s.heap.objs.size))) { s with heap := s.heap.push prepObj }) :
    wpAny M A (Builtin.«classmethod_descriptor.__get__» ⟨[.builtin "type.__prepare__", .none, .type "type"], []⟩) P E s := by
  unfold Builtin.«classmethod_descriptor.__get__»
  refine wpAny_bind (wpAny_of_eq (a := (.builtin "type.__prepare__", none, some (.type "type"))) (by first | rfl | kernel_rfl) ?_)
  refine wpAny_bind (wpAny_pure ?_)
  refine wpAny_bind (wpAny_of_eq isType_type ?_)
  refine wpAny_ite_false rfl ?_
  refine wpAny_bind (m := isSubtype _ _) (wpAny_of_eq (a := true) (by rw [isSubtype_type]; kernel_rfl) ?_)
  refine wpAny_ite_false rfl ?_
  exact wpAny_bind (wpAny_newObj_type (wpAny_pure h) (by size_fits))
theorem ty_ty : typeOf (.type "type") = pure (.type "type") := by kernel_rfl
theorem hook_ty : (if onTheHeap (.type "type") then findIn [] (.type "type") "__getattr__" else some none) = some none := by kernel_rfl
theorem tga_pr {Q : PySem.Fin → Shared → Prop} {tk : Tok} (h : wpAny (model prog w) A (do ret (← holding [.builtin "type.__prepare__"] (call (.builtin "classmethod_descriptor.__get__") [.builtin "type.__prepare__", .none, .type "type"]))) Q E s) :
    wpAny (model prog w) A (Builtin.«type.__getattribute__» ⟨[.type "type", .str (Str.ofString "__prepare__") tk], []⟩) Q E s := by
  have L0 : Looks (model prog w) s.heap (typeOf (.type "type")) (.type "type") := Looks.of_pure ty_ty
  have LO : Looks (model prog w) s.heap (opaqueClassAbove (.type "type")) none := Looks.of_pure stub_type
  have F := find_pr
  generalize hn : Str.ofString "__prepare__" = name at F
  have X := nil_in s.heap
  generalize ([] : Frag) = K at F X
  exact tga_run X LO L0 F h
theorem prep_get {Q : Option Value → Shared → Prop} (h : Q (some (.ref s.heap.objs.size)) { s with heap := s.heap.push prepObj, toks := s.toks + 1 }) : wpAny (model prog w) A (getAttr? (.type "type") (Str.ofString "__prepare__")) Q E s := by
  unfold getAttr? getAttrBy?
  refine wpAny_bind (wpAny_mkText (wpAny_bind (wpAny_attempt ?_)))
  have ht := ty_ty
  have L0 : Looks (model prog w) s.heap (typeOf (.type "type")) (.type "type") := Looks.of_pure ht
  have LO : Looks (model prog w) s.heap (opaqueClassAbove (.type "type")) none := Looks.of_pure stub_type
  unfold getAttrBy
  refine wpAny_holding (wpAny_bind (wpAny_of_eq ht (wpAny_bind ((looks_findIn (nil_in _) type_tga) _ _ _ _ (fun _ _ e => e) ?_))))
  show wpAny _ _ (getAttrByItsOwn (.type "type") (.str (Str.ofString "__prepare__") s.toks) (.type "type") (.builtin "type.__getattribute__") false false) _ _ _
  unfold getAttrByItsOwn
  refine wpAny_bind ((looks_hook (K := []) (mc := .type "type") (r := none) (nil_in _) hook_ty) _ _ _ _ (fun _ _ e => e) (wpAny_bind (wpAny_attempt (wpAny_holding ?_))))
  unfold callGetattribute
  rw [show (false && onTheHeap (Value.builtin "type.__getattribute__")) = false from rfl, if_neg (by decide)]
  unfold boundAndCalled
  rw [KF.slot_tga.bind]
  refine wpAny_bind (wpAny_pure ?_)
  show wpAny _ _ (call (.builtin "type.__getattribute__") [.type "type", .str (Str.ofString "__prepare__") s.toks]) _ _ _
  refine wpAny_call_entry KF.slot_tga (by exact ht) KF.entry_tga ?_ (KF.args_tga _ _)
  refine tga_pr ?_
  refine wpAny_bind (wpAny_holding (wpAny_call_entry slot_cmd_get type_pr entry_cmd_get (prep_run ⟨_, rfl, wpAny_pure ⟨_, rfl, ?_⟩⟩) (args_cmd _ _ _)))
  exact wpAny_pure (wpAny_pure h)
theorem entry_pr : entryFor table "type.__prepare__" = some Builtin.«type.__prepare__» := entryFor_of_tree (by kernel_rfl)
theorem plain_pr : plainId "type.__prepare__" = true := by decide +kernel
theorem chk_pr {a b : Value} {Q : Unit → Shared → Prop} {M : Model} (hq : Q () s) : wpAny M A (checkBoundCall "type.__prepare__" ⟨[.type "type", a, b], []⟩) Q E s := by
  exact wpAny_of_eq (a := ()) (by kernel_rfl) hq
theorem call_pr {f : Addr} {a b : Value} {Q : Value → Shared → Prop} (hf : s.heap.get? f = some prepObj)
    (hq : Q (.ref s.heap.objs.size) { s with heap := s.heap.push { cls := .type "dict", data := .dict #[] } }) : wpAny (model prog w) A (call (.ref f) [a, b] []) Q E s := by
  refine wpAny_call (codeAny_of_tree ?_)
  show wpAny _ A.in1 (callAny (.ref f) _) _ _ _
  unfold callAny
  refine wpAny_bind (wpAny_load hf ?_)
  refine wpAny_ite_true (by rfl) ?_
  refine wpAny_ite_true (by rfl) ?_
  show wpAny _ _ (checkBoundCall "type.__prepare__" ⟨[.type "type", a, b], []⟩ >>= fun _ => again (.builtin "type.__prepare__" ⟨[.type "type", a, b], []⟩)) _ _ _
  refine wpAny_bind (chk_pr ?_)
  refine wpAny_pure ⟨plainId_quiet plain_pr _, codeAny_builtin entry_pr ?_⟩
  rw [Around.under_plainId plain_pr _]
  unfold Builtin.«type.__prepare__» newDict
  exact wpAny_bind (wpAny_newObj_type (wpAny_pure hq) (by size_fits))
end Mine
end
section
open PySem PySem.W PyProof.Rows
set_option maxRecDepth 100000
set_option maxHeartbeats 1000000
namespace Mine
variable {prog : Program} {w : World} {A : Around} {E : Value → Shared → Prop} {s : Shared}
theorem mro_ty : mroOf (.type "type") = pure [.type "type", .type "object"] := by rw [mroOf_type]; kernel_rfl
theorem made_ty : Bind.madeBy (.type "type") = pure (some "type.__new__") := madeBy_type mro_ty (by rw [typeLookup_type, builtinLookup_eq_fast]; kernel_rfl) (by decide +kernel)
theorem entry_new : entryFor table "type.__new__" = some Builtin.«type.__new__» := entryFor_of_tree (by kernel_rfl)
theorem plain_new : plainId "type.__new__" = true := by decide +kernel
theorem chk_new (a b c : Value) : checkBuiltinCall "type.__new__" ⟨[.type "type", a, b, c], []⟩ = pure () := by kernel_rfl
theorem chk_type (a b c : Value) : checkTypeCall "type" ⟨[a, b, c], []⟩ = pure () := by kernel_rfl
theorem slot_tinit : Slot "type" "__init__" "type.__init__" := .of (owner := "type") (n := "__init__") (by rw [typeLookup_type, builtinLookup_eq_fast]; kernel_rfl) (by decide +kernel) (by decide +kernel) (by decide +kernel)
  (by first | exact .inl (by decide +kernel) | exact .inr (by decide +kernel)) (by rw [isSubtype_type]; kernel_rfl)
theorem entry_tinit : entryFor table "type.__init__" = some Builtin.«type.__init__» := entryFor_of_tree (by kernel_rfl)
theorem args_tinit (o a b c : Value) : argsOk "type.__init__" ⟨[o, a, b, c], []⟩ := by unfold argsOk; kernel_rfl
theorem cant : ((Manifest.find? "type").bind (·.mro.findSome? fun t => (Manifest.find? t).bind fun b => if b.noNew then some true else if b.attrs.any (·.1 == "__new__") then some false else none)).getD false = false := by decide +kernel
theorem call_type3 {a b : Value} {nsA C : Addr} {Q : Value → Shared → Prop}
    (h : ∀ {A : Around} {P : PySem.Fin → Shared → Prop}, (∀ C s', s'.TypeIs (.ref C) "type" → Q (.ref C) s' → P (.done (.ret (.ref C))) s') → wpAny (model prog w) A (Builtin.«type.__new__» ⟨[.type "type", a, b, .ref nsA], []⟩) P E s) :
    wpAny (model prog w) A (call (.type "type") [a, b, .ref nsA]) Q E s := by
  refine wpAny_call (codeAny_of_tree ?_)
  show wpAny _ _ (callAny (.type "type") _) _ _ _
  refine wpAny_pure ⟨Code.quiet_builtin _ (by decide +kernel), codeAny_builtin F.entry_type_call ?_⟩
  rw [Around.under_plain (weight_type_call_type "type" [a, b, .ref nsA] []) rfl]
  unfold Builtin.«type.__call__»
  refine wpAny_ite_true (by decide) ?_
  refine wpAny_ite_false (by rfl) ?_
  refine wpAny_ite_false (by rfl) ?_
  refine wpAny_ite_false (by rw [cant]; rfl) ?_
  refine wpAny_bind (m := checkTypeCall _ _) (wpAny_of_eq (chk_type _ _ _) ?_)
  refine wpAny_bind (m := mroOf _) (wpAny_of_eq mro_ty ?_)
  refine wpAny_ite_false (by rfl) ?_
  refine wpAny_bind (m := Bind.madeBy _) (wpAny_of_eq made_ty ?_)
  refine wpAny_bind (wpAny_pure ?_)
  refine wpAny_bind (wpAny_holding (wpAny_call ?_))
  refine codeAny_call_builtin plain_new entry_new (wpAny_of_eq (chk_new _ _ _) (h fun C s' hT hQ => ?_))
  refine wpAny_bind (m := isInstance _ _) (wpAny_isInstance (T := "type") (b := true) hT sub_type ?_)
  refine wpAny_ite_false rfl ?_
  refine wpAny_bind (wpAny_holding (wpAny_callSpecial?_slot hT slot_tinit (wpAny_call_entry slot_tinit hT entry_tinit ?_ (args_tinit _ _ _ _))))
  unfold Builtin.«type.__init__»
  refine wpAny_ite_false (by rfl) ?_
  refine wpAny_ite_false (by rfl) ?_
  refine wpAny_pure ⟨_, rfl, ?_⟩
  exact wpAny_pure hQ
end Mine
end
section
open PySem PySem.W PyProof.Rows
set_option maxRecDepth 100000
set_option maxHeartbeats 1000000
namespace Mine
variable {M : Model} {A : Around} {E : Value → Shared → Prop} {s : Shared}
theorem class_code {env : Env} {c P : Addr} {ps : Array Value} {pos : Pos} {firstLine : Nat} {name qualname : Str} {scope : Scope} {Q : Value → Shared → Prop}
    (hc : env.code = .ref c) (C : CodeHd s.heap c P) (hP : s.heap.get? P = some (tabObj ps)) (ht : TriplesOk ps.toList) (hnf : codeAmong pos ps.toList = none)
    (hQ : ∀ c' P' s', KeepsW [P] s s' → s.heap.get? c' = Option.none → s.heap.get? P' = Option.none → c' ≠ P' → s'.heap.CodeRec (.ref c') qualname → s'.heap.get? P = some (tabObj (ps ++ #[rawInt pos.line, rawInt pos.col, .ref c'])) →
      CodeHd s'.heap c' P' → s'.heap.get? P' = some (tabObj #[]) → Q (.ref c') s') :
    wpAny M A (classCode env pos firstLine name qualname scope) Q E s := by
  refine bc fun nG => ?_
  obtain ⟨o, vs, file, tf, flags, tg, inF, text, tt, op, ho, hd, h11, h2, h7, h9, h10, hop, hpd, htr, hne⟩ := C.code hP ht
  refine nG ?_
  have eop : op = tabObj ps := Option.some.inj (hop.symm.trans hP)
  unfold classCode codeAt
  rw [hc]
  refine wpAny_ite_false rfl ?_
  refine wpAny_bind (wpAny_fieldsOf ho hd ?_)
  rw [h11]
  refine wpAny_bind (wpAny_fieldsOf hop hpd ?_)
  rw [hnf, h2, h7, h9, h10]
  refine wpAny_bind (wpAny_newCodeX fun c' P' h' tk hk hc' hP' hcode' htab' hrec' => ?_)
  have hop' := hk _ _ hop
  refine wpAny_bind (wpAny_updateFieldsOfTheText hop' hpd ?_)
  have hnew : (Obj.mapFields (fun vs => if (codeAmong pos vs.toList).isSome = true then vs else vs ++ #[rawInt pos.line, rawInt pos.col, .ref c']) op).data =
      .fields (ps ++ #[rawInt pos.line, rawInt pos.col, .ref c']) := by
    rw [Obj.data_mapFields hpd, hnf]; rfl
  have hget := Heap.get?_update_self (h := h') (fun o => Obj.mapFields (fun vs => if (codeAmong pos vs.toList).isSome = true then vs else
    vs ++ #[rawInt pos.line, rawInt pos.col, .ref c']) o) hop' (Obj.isFreed_of_fields hnew)
  refine wpAny_bind (wpAny_fieldsOf hget hnew ?_)
  have hl : (ps ++ #[rawInt pos.line, rawInt pos.col, Value.ref c']).toList = ps.toList ++ [rawInt pos.line, rawInt pos.col, .ref c'] := by simp
  rw [hl, codeAmong_snoc _ htr hnf]
  have hcP : c' ≠ P := Nat.ne_of_gt (Nat.lt_of_lt_of_le (Heap.lt_size hop) hc')
  have hPP : P' ≠ P := Nat.ne_of_gt (Nat.lt_of_lt_of_le (Heap.lt_size hop) hP')
  have sb := fun (f : Obj → Obj) => (Heap.SameBut.update (h := h') (a := P) (f := f)).extBut
  have hT : (h'.update P fun o => Obj.mapFields (fun vs => if (codeAmong pos vs.toList).isSome = true then vs else vs ++ #[rawInt pos.line, rawInt pos.col, .ref c']) o).get? P = some (tabObj (ps ++ #[rawInt pos.line, rawInt pos.col, .ref c'])) := by
    rw [hget, eop]
    simp only [Obj.mapFields, hnf]
    rfl
  refine bc fun nG => ?_
  obtain ⟨⟨oc, vc, hoc, hcc, hdc, h11c⟩, htP⟩ := id htab'
  refine nG ?_
  have htP2 := sb (fun o => Obj.mapFields (fun vs => if (codeAmong pos vs.toList).isSome = true then vs else vs ++ #[rawInt pos.line, rawInt pos.col, .ref c']) o) _ _ hPP htP
  have hoc2 := sb (fun o => Obj.mapFields (fun vs => if (codeAmong pos vs.toList).isSome = true then vs else vs ++ #[rawInt pos.line, rawInt pos.col, .ref c']) o) _ _ hcP hoc
  refine wpAny_pure (hQ c' P' _ ⟨_, _, rfl, fun b o hb e => ?_, fun b hb _ => ?_⟩ (fresh_none _ hc') (fresh_none _ hP') ?_ ?_ hT ?_ htP2)
  · exact sb _ b o (fun q => hb (q ▸ .head _)) (hk b o e)
  · have : b = P := by simpa using hb
    subst this; exact ⟨_, hT⟩
  · intro e
    subst e
    have := Option.some.inj (hoc.symm.trans htP)
    rw [this] at hcc; cases hcc
  · refine bc fun nG => ?_
    obtain ⟨c₂, o₂, vs₂, t₂, e₂, g₂, r₂⟩ := hrec'
    refine nG ?_
    cases e₂
    exact ⟨_, o₂, vs₂, t₂, rfl, sb _ _ _ hcP g₂, r₂⟩
  · exact CodeHd.of (hcode'.extBut (sb _) hcP hPP) ⟨⟨oc, vc, hoc2, hcc, hdc, h11c⟩, htP2⟩
end Mine
end
section
open PySem PySem.W PyProof.Rows
set_option maxRecDepth 100000
set_option maxHeartbeats 1000000
namespace Mine
noncomputable def NsC (h : Heap) (a : Addr) (T : String) (m : Str → Option Value) : Prop := h.Ns1 a m ∧ ∃ o, h.get? a = some o ∧ o.cls = .type T
theorem putName_cls (name : Str) (hh : Int) (key v : Value) (o : Obj) : (Obj.putName name hh key v o).cls = o.cls := by
  rw [Obj.putName_eq]
  obtain ⟨c, d, dt, sl⟩ := o
  cases dt <;> first | rfl | (unfold Obj.putNameByArray; dsimp only; split <;> rfl)
theorem putName_free {name : Str} {hh : Int} {key v : Value} {o : Obj} {es : Array DictEntry} {ep : Nat} (hd : o.data = .dict es ep) : (Obj.putName name hh key v o).isFreed = false := by
  rw [Obj.putName_eq]
  obtain ⟨c, d, dt, sl⟩ := o
  subst hd
  unfold Obj.putNameByArray
  dsimp only
  split <;> rfl
open Sem in
theorem wp_nsSetC (M : Model) (Γ : Ctx) (E : Value → Pos → Shared → Prop) (p : Pos) (s : Shared) {a : Addr} {T : String} {m : Str → Option Value} (hn : NsC s.heap a T m) (name : Str) (v : Value) (Q : Unit → Pos → Shared → Prop)
    (hQ : ∀ h', NsC h' a T (fun x => if x = name then some v else m x) → Heap.SameBut a s.heap h' → Q () p { s with heap := h', toks := s.toks + 1 }) : wp M Γ (nsSet a name v) Q E p s := by
  have h1 := Sem.wp_nsSet1 M Γ E p s hn.1 name v (fun _ _ s' => s'.heap.Ns1 a (fun x => if x = name then some v else m x) ∧ Heap.SameBut a s.heap s'.heap) (fun h' x y => ⟨x, y⟩)
  refine bc fun nG => ?_
  obtain ⟨⟨o, es, ep, ho, hd, hk, hu, hm⟩, o', ho', hc⟩ := hn
  obtain rfl : o = o' := Option.some.inj (ho.symm.trans ho')
  refine nG ?_
  simp only [nsSet, strHash, wp_bind', wp_cmd_ask, wp_pure', wp_cmd_mkText] at h1 ⊢
  rw [wp_loadPart_of M Γ E p { s with toks := s.toks + 1 } (o := o) _ ho] at h1 ⊢
  have hany : es.any (·.refKey) = false := by
    rw [Array.any_eq_false']; intro e he; obtain ⟨n, t, h⟩ := hk e he; simp [DictEntry.refKey, h]
  simp only [hd, aRefKeyMayBeTheName_eq, aRefKeyMayBeTheNameByArray, hany, Bool.and_false, Bool.false_eq_true, if_false, wp_cmd_updatePart] at h1 ⊢
  exact ⟨h1.1, hQ _ ⟨h1.2.1, _, Heap.get?_update_self _ ho (putName_free hd), (putName_cls _ _ _ _ _).trans hc⟩ h1.2.2⟩
variable {M : Model} {A : Around} {E : Value → Shared → Prop} {s : Shared}
theorem nsSetC {a : Addr} {T : String} {m : Str → Option Value} {name : Str} {v : Value} {Q : Unit → Shared → Prop} (hn : NsC s.heap a T m)
    (hQ : ∀ h', NsC h' a T (fun x => if x = name then some v else m x) → Heap.SameBut a s.heap h' → Q () { s with heap := h', toks := s.toks + 1 }) :
    wpAny M A (nsSet a name v) Q E s := fun Γ p _ => wp_nsSetC M Γ _ p s hn name v _ hQ
theorem localSetC {env : Env} {m : Str → Option Value} {name : Str} {v : Value} {Q : Unit → Shared → Prop} (hn : NsC s.heap env.locals "dict" m)
    (hQ : ∀ h', NsC h' env.locals "dict" (fun x => if x = name then some v else m x) → Heap.SameBut env.locals s.heap h' → Q () { s with heap := h', toks := s.toks + 1 }) :
    wpAny M A (localSet env name v) Q E s := by
  obtain ⟨o, ho, hc⟩ := hn.2
  unfold localSet
  refine wpAny_bind (wpAny_load ho ?_)
  rw [hc]
  exact wpAny_ite_true rfl (nsSetC hn hQ)
end Mine
end
section
open PySem PySem.W PyProof.Rows
set_option maxRecDepth 100000
set_option maxHeartbeats 1000000
namespace Mine
variable {prog : Program} {w : World} {A : Around} {E : Value → Shared → Prop} {s : Shared}
theorem KeepsW.put {W : List Addr} {s₀ s : Shared} {D : Addr} {h' : Heap} {tk : Nat} (k : KeepsW W s₀ s) (hD : s₀.heap.get? D = Option.none) (hx : ∀ b o, b ≠ D → s.heap.get? b = some o → h'.get? b = some o) : KeepsW W s₀ { s with heap := h', toks := tk } := by
  obtain ⟨h, t, rfl, e1, e2⟩ := k
  refine ⟨h', tk, rfl, fun b o hb e => hx b o (fun q => by rw [q, hD] at e; cases e) (e1 b o hb e), fun b hb ⟨o, e⟩ => ?_⟩
  obtain ⟨o', e'⟩ := e2 b hb ⟨o, e⟩
  exact ⟨o', hx b o' (fun q => by rw [q, hD] at e; cases e) e'⟩
theorem codeHd_obj {h : Heap} {c P : Addr} (C : CodeHd h c P) : ∃ oc, h.get? c = some oc ∧ ∀ h' : Heap, h'.get? c = some oc → CodeHd h' c P := by
  refine bc fun nG => ?_
  obtain ⟨o, vs, file, tf, flags, tg, inF, text, tt, e, r⟩ := C
  refine nG ?_
  exact ⟨o, e, fun h' e' => ⟨o, vs, file, tf, flags, tg, inF, text, tt, e', r⟩⟩
theorem codeRec_obj {h : Heap} {c : Addr} {q : Str} (C : h.CodeRec (.ref c) q) : ∃ oc, h.get? c = some oc ∧ ∀ h' : Heap, h'.get? c = some oc → h'.CodeRec (.ref c) q := by
  refine bc fun nG => ?_
  obtain ⟨c₂, o, vs, t, e, g, r⟩ := C
  refine nG ?_
  cases e
  exact ⟨o, g, fun h' e' => ⟨_, o, vs, t, rfl, e', r⟩⟩
structure Bd (s₀ s : Shared) (N T : Addr) (m : Str → Option Value) (ps : Array Value) (fs : List (Addr × Obj)) : Prop where
  kp : KeepsW [111] s₀ s
  ns : NsC s.heap N "dict" m
  tab : s.heap.get? T = some (tabObj ps)
  tri : TriplesOk ps.toList
  fN : s₀.heap.get? N = Option.none
  fT : s₀.heap.get? T = Option.none
  ne : N ≠ T
  xs : ∀ p ∈ fs, s.heap.get? p.1 = some p.2 ∧ p.1 ≠ N ∧ p.1 ≠ T
theorem Bd.more {s₀ s : Shared} {N T : Addr} {m : Str → Option Value} {ps : Array Value} {fs : List (Addr × Obj)} (b : Bd s₀ s N T m ps fs) {h' : Heap} {tk : Nat} (x : Ext s.heap h') : Bd s₀ { s with heap := h', toks := tk } N T m ps fs := by
  obtain ⟨o, ho, hc⟩ := b.ns.2
  have k : KeepsW [111] s₀ { s with heap := h', toks := tk } := by
    obtain ⟨h, t, rfl, e1, e2⟩ := b.kp
    exact ⟨h', tk, rfl, fun b o hb e => x _ _ (e1 b o hb e), fun b hb q => let ⟨o', e'⟩ := e2 b hb q; ⟨o', x _ _ e'⟩⟩
  exact ⟨k, ⟨b.ns.1.at fun o e => x _ _ e, o, x _ _ ho, hc⟩, x _ _ b.tab, b.tri, b.fN, b.fT, b.ne, fun p hp => ⟨x _ _ (b.xs p hp).1, (b.xs p hp).2⟩⟩
theorem Bd.lt {s₀ s : Shared} {N T : Addr} {m : Str → Option Value} {ps : Array Value} {fs : List (Addr × Obj)} (b : Bd s₀ s N T m ps fs) : N < s.heap.objs.size ∧ T < s.heap.objs.size := by
  obtain ⟨o, ho, _⟩ := b.ns.2
  exact ⟨Heap.lt_size ho, Heap.lt_size b.tab⟩
theorem bd_set {env : Env} {s₀ : Shared} {T : Addr} {m : Str → Option Value} {ps : Array Value} {fs : List (Addr × Obj)} {name : Str} {v : Value} {Q : Unit → Shared → Prop} {M : Model} (b : Bd s₀ s env.locals T m ps fs)
    (h : ∀ s', Bd s₀ s' env.locals T (fun x => if x = name then some v else m x) ps fs → Q () s') : wpAny M A (localSet env name v) Q E s :=
  localSetC b.ns fun h' hn hs => h _ ⟨b.kp.put b.fN fun y o hy e => hs.extBut y o hy e, hn, hs.extBut T _ (Ne.symm b.ne) b.tab, b.tri, b.fN, b.fT, b.ne, fun p hp => ⟨hs.extBut p.1 _ (b.xs p hp).2.1 (b.xs p hp).1, (b.xs p hp).2⟩⟩
theorem store_cls {env : Env} {name : Str} {v : Value} {Q : Unit → Shared → Prop} {M : Model} (hk : env.scope.kind = .class) (hn : env.kindOf name = some .local ∨ (env.kindOf name = Option.none ∧ compilersOwnNames.contains name = true)) (hb : env.blockKind ≠ .function)
    (h : wpAny M A (localSet env name v) Q E s) : wpAny M A (storeName env name v) Q E s := by
  unfold storeName
  rcases hn with q | ⟨q, q2⟩
  · rw [q]
    refine wpAny_ite_true ?_ h
    rw [hk]; rfl
  · rw [q]
    show wpAny M A (if _ then _ else _) Q E s
    rw [if_neg]
    · rw [if_pos (by rw [hk]; rfl)]; exact h
    · rw [q2]; simp [hb]
theorem bd_def {P : Params} {env : Env} {s₀ : Shared} {T c : Addr} {oc : Obj} {m : Str → Option Value} {ps : Array Value} {fs : List (Addr × Obj)} {name : Str} {params : Arguments} {body : List Stmt} {scope : Scope} {pos : Pos} {clos : List (Str × Addr)} {M : Model} {Q : Flow → Shared → Prop} (b : Bd s₀ s env.locals T m ps fs)
    (hk : env.scope.kind = .class) (hn : env.kindOf name = some .local) (hbk : env.blockKind ≠ .function) (hge : env.globals = mainGlobals) (hcode : env.code = .ref c) (hmem : (c, oc) ∈ fs) (hC : ∀ h' : Heap, h'.get? c = some oc → CodeHd h' c T)
    (hcl : closureFor scope env = pure clos) (hd0 : params.defaults = []) (hk0 : params.kw_defaults = []) (ha : annTrees params Option.none env = []) (hnf : codeAmong pos ps.toList = Option.none) (G : Gd (Kx P) s₀.heap)
    (h : ∀ f c₂ oc₂ doc pm ctv s', (∀ h' : Heap, h'.get? c₂ = some oc₂ → h'.CodeRec (.ref c₂) (qualnameIn env name name)) →
      Bd s₀ s' env.locals T (fun x => if x = name then some (.ref f) else m x) (ps ++ #[rawInt pos.line, rawInt pos.col, .ref c₂]) ((f, fnMade name (qualnameIn env name name) params body scope clos doc pm c₂ ctv) :: (c₂, oc₂) :: fs) → Q .next s') :
    wpAny M A (exec (.FunctionDef name params body [] Option.none [] scope Option.none name pos) env) Q E s := by
  have G' : Gd (Kx P) s.heap := Gd.keepsW b.kp (gdw111 P) G
  obtain ⟨mg, hg⟩ := G'.g
  have hT4 : T ≠ 4 := fun e => by
    refine bc fun nG => ?_
    obtain ⟨mg₀, hg₀⟩ := G.g
    obtain ⟨bm, ob, _, _, _, _, hbo, _⟩ := blt_at G.kin hg₀ 111 (by decide)
    refine nG ?_
    have hb4 : ∃ o, (Kx P).lookup 4 = some o := by
      have e := bltB_x P
      unfold bltB at e
      split at e
      · rename_i o ho; exact ⟨o, ho⟩
      · cases e
    obtain ⟨o, ho⟩ := hb4
    have := G.kin _ _ ho
    rw [← e, b.fT] at this; cases this
  have hTg : mainGlobals ≠ T := fun e => by
    refine bc fun nG => ?_
    obtain ⟨mg₀, o, es, ep, ho, _⟩ := G.g
    refine nG ?_
    rw [e, b.fT] at ho; cases ho
  refine nestDef_K hd0 hk0 ha ?_
  refine makeFunction_K hcl hge hg hcode (hC _ (b.xs _ hmem).1) b.tab b.tri hnf hTg (blt_at G'.kin hg T hT4) fun c₂ ctv doc h' tk hx hge' hlt hrec htab => ?_
  refine bc fun nG => ?_
  obtain ⟨oc₂, hoc₂, hr₂⟩ := codeRec_obj hrec
  have lt := b.lt
  obtain ⟨oN, hoN, hcN⟩ := b.ns.2
  refine nG ?_
  have hsz : s.heap.objs.size ≤ h'.objs.size := Nat.le_of_lt (Nat.lt_of_le_of_lt hge' hlt)
  have up : ∀ y o, y ≠ T → s.heap.get? y = some o → (h'.push (fnMade name (qualnameIn env name name) params body scope clos doc ((mg "__name__").getD .none) c₂ ctv)).get? y = some o := fun y o hy e => Heap.get?_push_of_some _ (hx y o hy e)
  have hmod : s.heap.objs.size ≤ c₂ := hge'
  have B' : Bd s₀ { s with heap := h'.push (fnMade name (qualnameIn env name name) params body scope clos doc ((mg "__name__").getD .none) c₂ ctv), toks := tk } env.locals T m (ps ++ #[rawInt pos.line, rawInt pos.col, .ref c₂]) ((h'.objs.size, fnMade name (qualnameIn env name name) params body scope clos doc ((mg "__name__").getD .none) c₂ ctv) :: (c₂, oc₂) :: fs) := by
    refine ⟨b.kp.put b.fT up, ⟨b.ns.1.at fun o e => up _ _ b.ne e, oN, up _ _ b.ne hoN, hcN⟩, Heap.get?_push_of_some _ htab, ?_, b.fN, b.fT, b.ne, fun p hp => ?_⟩
    · rw [show (ps ++ #[rawInt pos.line, rawInt pos.col, Value.ref c₂]).toList = ps.toList ++ [rawInt pos.line, rawInt pos.col, .ref c₂] by simp]
      exact TriplesOk_snoc _ _ _ _ b.tri
    · rcases List.mem_cons.mp hp with e | hp
      · subst e
        exact ⟨Heap.get?_push_size _ rfl, Nat.ne_of_gt (Nat.lt_of_lt_of_le lt.1 hsz), Nat.ne_of_gt (Nat.lt_of_lt_of_le lt.2 hsz)⟩
      · rcases List.mem_cons.mp hp with e | hp
        · subst e
          exact ⟨Heap.get?_push_of_some _ hoc₂, Nat.ne_of_gt (Nat.lt_of_lt_of_le lt.1 hmod), Nat.ne_of_gt (Nat.lt_of_lt_of_le lt.2 hmod)⟩
        · exact ⟨up _ _ (b.xs p hp).2.2 (b.xs p hp).1, (b.xs p hp).2⟩
  exact store_cls hk (.inl hn) hbk (bd_set B' fun s' B'' => h _ _ _ _ _ _ _ hr₂ B'')
end Mine
end
section
open PySem PySem.W PyProof.Rows
set_option maxRecDepth 100000
set_option maxHeartbeats 1000000
namespace Mine
variable {prog : Program} {w : World} {A : Around} {E : Value → Shared → Prop} {s : Shared} {env : Env}
noncomputable def sc116 : List (Str × NameKind) := [(Str.ofString "mycmp", .cell), (Str.ofString "K", .local), (Str.ofString "object", .globalImplicit)]
theorem sc116_eq (P : Params) : (fdAt (Kx P) 116).scope.names = sc116 := by kernel_rfl
theorem code116 (P : Params) : (fdAt (Kx P) 116).code = .ref 115 := by kernel_rfl
theorem bind116 (P : Params) {s : Shared} {v : Value} (X : (Kx P).In s.heap) : BindsTo s (fdAt (Kx P) 116) ⟨[v], []⟩ ([Str.ofString "mycmp"].zip [v]) := by
  have e : ∀ S, peek (Kx P) S (bindArgs (fdAt (Kx P) 116) ⟨[v], []⟩) = some ([Str.ofString "mycmp"].zip [v]) := by
    intro S
    kernel_rfl
  generalize fdAt (Kx P) 116 = fd at e ⊢
  exact kp_binds X e
structure CmpIn (P : Params) (s s₁ : Shared) (X : List Addr) (fa c : Addr) (env : Env) (m : Nat) (A' : Around) : Prop where
  code : env.code = .ref 115
  keeps : Keeps s s₁
  fresh : ∀ b ∈ Wr env Option.none, s.heap.get? b = Option.none
  sc : ScOk sc116 env
  sep : Sep (Wr env Option.none ++ X) env Option.none
  st : EnvOk s₁.heap (Wr env Option.none ++ X) env [(Str.ofString "mycmp", .opq (.ref fa))]
  gd : Gd (Kx P) s₁.heap
  rm : Rm A' m
  cell : env.cells.lookup (Str.ofString "mycmp") = some c
  isc : s₁.heap.IsCell c (some (.ref fa))
theorem cmp_enter (P : Params) {m : Nat} {fa : Addr} {X : List Addr} {Q : Value → Shared → Prop} (R : Rm A (m + 1)) (G : Gd (Kx P) s.heap) (L : Live s.heap X)
    (h : ∀ (env : Env) (E : Value → Shared → Prop) (s₁ : Shared) (c : Addr), CmpIn P s s₁ X fa c env m (A.deeper env) → wpAny (model prog w) (A.deeper env) (execs (bodyAt (Kx P) 116) env) (fun f s'' => ∃ v, f = .ret v ∧ Q v s'') E s₁) :
    wpAny (model prog w) A (call (.ref 116) [.ref fa] []) Q E s := by
  have FO : FnOk (Kx P) 116 (fdAt (Kx P) 116) (bodyAt (Kx P) 116) [Str.ofString "mycmp"] := FnOk.of (by kernel_rfl)
  have hbd := @bind116 P s (.ref fa) G.kin
  have hsc := sc116_eq P
  have hcd := code116 P
  generalize bodyAt (Kx P) 116 = body at FO h
  generalize fdAt (Kx P) 116 = fd at FO hbd hsc hcd
  refine fn_enter (m := m) (ds := [.opq (.ref fa)]) (vals := [.ref fa]) (X := X) FO R G L (by unfold VL V; exact ⟨_, _, rfl, rfl, by unfold VL; rfl⟩) hbd fun env E s₁ FR => ?_
  obtain ⟨hcode, k₁, hfr, S, Sp, N, G₁, GW, R₁⟩ := FR
  rw [hsc] at S
  have hkm : env.kindOf (Str.ofString "mycmp") = some .cell := by
    rcases S (Str.ofString "mycmp") .cell (by decide +kernel) with q | ⟨q, _⟩
    · exact q
    · cases q
  obtain ⟨c, ov, h1, h2, h3, h4⟩ := N.env.cel _ (.inl hkm)
  obtain ⟨v, hv, hV⟩ := h4 (.opq (.ref fa)) (by kernel_rfl)
  unfold V at hV
  exact h env E s₁ c ⟨hcode.trans hcd, k₁, hfr, S, Sp, N.env, G₁, R₁, h1, by rw [← hV, ← hv]; exact h2⟩
end Mine
end
section
open PySem PySem.W PyProof.Rows
namespace Mine
theorem name_some (P : Params) : ∃ v, nsIn (Kx P) mainGlobals (Str.ofString "__name__") = some (some v) := by
  have h : ((nsIn (Kx P) mainGlobals (Str.ofString "__name__")).getD none).isSome = true := by kernel_rfl
  generalize nsIn (Kx P) mainGlobals (Str.ofString "__name__") = o at h ⊢
  match o, h with
  | some (some v), _ => exact ⟨v, rfl⟩
theorem dict_gi : typeLookup (.type "dict") (Str.ofString "__getitem__") = pure (some (.builtin "dict.__getitem__")) := by rw [typeLookup_type, builtinLookup_eq_fast]; kernel_rfl
theorem load_cls {M : Model} {A : Around} {E : Value → Shared → Prop} {s : Shared} {env : Env} {name : Str} {v : Value} {mg m : Str → Option Value} {Q : Value → Shared → Prop} (hk : env.scope.kind = .class) (hn : env.kindOf name = Option.none) (hc : compilersOwnNames.contains name = true)
    (hN : NsC s.heap env.locals "dict" m) (hm : m name = Option.none) (hg : s.heap.Ns env.globals mg) (hv : mg name = some v) (h : Q v s) : wpAny M A (loadName env name) Q E s := by
  unfold loadName
  rw [hk]
  refine wpAny_ite_false (by rfl) ?_
  have hb : env.blockKind = .class := by unfold Env.blockKind; rw [hk]; rfl
  rw [hb, hn]
  refine wpAny_ite_false (by rw [hc]; rfl) ?_
  obtain ⟨o, ho, hcl⟩ := hN.2
  unfold localGet
  refine wpAny_bind (wpAny_bind (wpAny_load ho ?_))
  rw [hcl]
  refine wpAny_ite_true rfl (wpAny_nsGet hN.1.ns ?_)
  rw [hm]
  exact (PySem.Calls.loadGlobal_global hg hv h)
end Mine
end
section
open PySem PySem.W PyProof.Rows
set_option maxRecDepth 100000
set_option maxHeartbeats 1000000
namespace Mine
variable {prog : Program} {w : World} {A : Around} {E : Value → Shared → Prop} {s : Shared} {env : Env}
theorem evalArgs_one {M : Model} {f : Value} {e : Expr} {pos : Pos} {Q : Args → Shared → Prop} (hst : starEach [e] env = [(false, eval e env)]) (h : wpAny M A (eval e env) (fun v s' => Q ⟨[v], []⟩ s') E s) :
    wpAny M A (evalArgs f false (backTo pos (starEach [e] env)) (backToKw pos (keywordEach [] env))) Q E s := by
  rw [hst]
  show wpAny M A (evalArgs f false [(false, eval e env)] []) Q E s
  unfold evalArgs
  refine wpAny_bind ?_
  refine PySem.Calls.spliced_cons (wpAny_mono h (fun v s' q => PySem.Calls.spliced_nil (wpAny_bind (wpAny_pure (wpAny_holding ?_)))) fun _ _ x => x)
  exact wpAny_bind (wpAny_evalAll_nil (wpAny_bind (wpAny_pure (wpAny_pure q))))
theorem bc1 : typeOf (.type "object") = pure (.type "type") := by kernel_rfl
theorem body_frame {M : Model} {code : Value} {g l b : Addr} {mg : Str → Option Value} {Q : Addr → Shared → Prop} (hg : s.heap.Ns g mg) (h : ∀ f s', Keeps s s' → Q f s') : wpAny M A (newBodyFrame code g l b) Q E s := by
  unfold newBodyFrame
  exact wpAny_bind (wpAny_nsGet hg (wpAny_alloc (h _ _ ⟨_, _, rfl, fun b o e => Heap.get?_push_of_some _ e⟩)))
theorem Bd.keeps {s₀ s s' : Shared} {N T : Addr} {m : Str → Option Value} {ps : Array Value} {fs : List (Addr × Obj)} (b : Bd s₀ s N T m ps fs) (k : Keeps s s') : Bd s₀ s' N T m ps fs := by
  obtain ⟨h, t, rfl, e⟩ := k
  exact b.more e
theorem map_text {M : Model} {x : Str} {Q : List Value → Shared → Prop} (h : ∀ t, Q [.str x t] { s with toks := s.toks + 1 }) : wpAny M A (List.mapM mkText [x]) Q E s := by
  simp only [List.mapM_cons, List.mapM_nil]
  exact wpAny_bind (wpAny_mkText (wpAny_bind (wpAny_pure (wpAny_pure (h _)))))
theorem Bd.add {s₀ s : Shared} {N T : Addr} {m : Str → Option Value} {ps : Array Value} {fs : List (Addr × Obj)} {o : Obj} {tk : Nat} (b : Bd s₀ s N T m ps fs) (ho : o.isFreed = false) : Bd s₀ { s with heap := s.heap.push o, toks := tk } N T m ps ((s.heap.objs.size, o) :: fs) := by
  have lt := b.lt
  have b' := b.more (h' := s.heap.push o) (tk := tk) fun y q e => Heap.get?_push_of_some _ e
  refine ⟨b'.kp, b'.ns, b'.tab, b'.tri, b'.fN, b'.fT, b'.ne, fun p hp => ?_⟩
  rcases List.mem_cons.mp hp with e | hp
  · subst e; exact ⟨Heap.get?_push_size _ ho, Nat.ne_of_gt lt.1, Nat.ne_of_gt lt.2⟩
  · exact b'.xs p hp
structure MapOk (s : Shared) (m : Str → Option Value) (L : List Str) : Prop where
  slots : ∃ l t, m (Str.ofString "__slots__") = some (.ref l) ∧ s.heap.IsList l [.str (Str.ofString "obj") t].toArray
  obj : m (Str.ofString "obj") = Option.none
  mod : (m (Str.ofString "__module__")).isSome = true
  qual : ∃ q tq, m (Str.ofString "__qualname__") = some (.str q tq)
  doc : m (Str.ofString "__doc__") = Option.none
  del : m (Str.ofString "__del__") = Option.none
  new : m (Str.ofString "__new__") = Option.none
  ini : m (Str.ofString "__init_subclass__") = Option.none
  cgi : m (Str.ofString "__class_getitem__") = Option.none
  cc : m (Str.ofString "__classcell__") = Option.none
  cdc : m (Str.ofString "__classdictcell__") = Option.none
  eq : (m (Str.ofString "__eq__")).isSome = true
  hash : (m (Str.ofString "__hash__")).isSome = true
  val : ∀ n v, m n = some v → NoSN s v
  dom : ∀ n, (m n).isSome = true → n ∈ L
  len : L.length ≤ 50
theorem class_def (P : Params) {m : Nat} {fa c : Addr} {X : List Addr} {s₀ : Shared} {p pos : Pos} {cbody : List Stmt} {cscope : Scope} {Done : Env → (Str → Option Value) → List (Addr × Obj) → Prop} {Q : Flow → Shared → Prop} (I : CmpIn P s₀ s X fa c env m A) (hP : s.heap.get? 111 = some (tabObj #[])) (hck : cscope.kind = .class) (hcs1 : (List.lookup (Str.ofString "__class__") cscope.names == some NameKind.cell) = false) (hcs2 : (List.lookup (Str.ofString "__classdict__") cscope.names == some NameKind.cell) = false)
    (hclo : closureFor cscope env = pure [(Str.ofString "mycmp", c)]) (hl1 : cscope.names.lookup (Str.ofString "__name__") = Option.none) (hl2 : cscope.names.lookup (Str.ofString "__module__") = some .local) (hl3 : cscope.names.lookup (Str.ofString "__qualname__") = Option.none) (hl4 : cscope.names.lookup (Str.ofString "__firstlineno__") = Option.none) (hl5 : cscope.names.lookup (Str.ofString "__static_attributes__") = Option.none) (hann : hasAnns cbody = false) (hdoc : docOf cbody = Option.none)
    (hbody : ∀ (A' : Around) (E' : Value → Shared → Prop) (cenv : Env) (s₇ : Shared) (T c' : Addr) (oc : Obj) (fs : List (Addr × Obj)) (q : Str) (i : Int) (vn : Value) (tq ti : Tok), cenv.scope = cscope → cenv.globals = mainGlobals → cenv.cells = [(Str.ofString "mycmp", c)] → cenv.code = .ref c' → (∀ h' : Heap, h'.get? c' = some oc → CodeHd h' c' T) → (c', oc) ∈ fs →
      Bd s s₇ cenv.locals T (fun x => if x = Str.ofString "__firstlineno__" then some (.int i ti) else if x = Str.ofString "__qualname__" then some (.str q tq) else if x = Str.ofString "__module__" then some vn else none) #[] fs →
      wpAny (model prog w) A' (execs cbody cenv) (fun f s' => f = .next ∧ ∃ m' ps' fs', Bd s s' cenv.locals T m' ps' fs' ∧ (∀ p ∈ fs, p ∈ fs') ∧ Done cenv m' fs') E' s₇)
    (hmap : ∀ cenv m' fs' s'' a, Done cenv m' fs' → (∀ p ∈ fs', s''.heap.get? p.1 = some p.2) → s''.TypeIs (.ref a) "tuple" → ∃ L, MapOk s'' (fun x => if x = Str.ofString "__static_attributes__" then some (.ref a) else m' x) L)
    (hQ : ∀ (C N D a bT T : Addr) (dt : Nat) (tk tq : Tok) (q : Str) (m' mE : Str → Option Value) (ps' : Array Value) (fs fs' : List (Addr × Obj)) (cenv : Env) (s₉ s₁₀ : Shared) (h' : Heap), Done cenv m' fs' → Bd s s₉ cenv.locals T (fun x => if x = Str.ofString "__static_attributes__" then some (.ref a) else m' x) ps' fs → (∀ p ∈ fs', p ∈ fs) → (∃ ps, (111, tabObj ps) ∈ fs) →
      Mk s₉ s₁₀ C N (clsK C N bT tk q tq) (mapK (fun x => if x = Str.ofString "__static_attributes__" then some (.ref a) else m' x) D) [(D, slotDesc C dt)] → s₁₀.heap.Ns env.locals mE → h'.Ns env.locals (fun x => if x = Str.ofString "K" then some (.ref C) else mE x) → Heap.SameBut env.locals s₁₀.heap h' → Q .next { s₁₀ with heap := h', toks := s₁₀.toks + 1 }) :
    wpAny (model prog w) A (exec (.ClassDef (Str.ofString "K") [.Name (Str.ofString "object") p] [] cbody [] [] cscope Option.none (Str.ofString "K") [Str.ofString "obj"] pos) env) Q E s := by
  have hko : env.kindOf (Str.ofString "object") = some .globalImplicit := kind_glob I.sc (by decide +kernel)
  rw [arm_exec_ClassDef]
  refine wpAny_bind (wpAny_evalAll_nil (wpAny_bind (wpAny_standAt (wpAny_bind ?_))))
  unfold buildClassGuard
  obtain ⟨mb, hmb, hbb⟩ := I.gd.b
  rw [I.st.blt]
  refine wpAny_bind (wpAny_nsGet hmb ?_)
  rw [hbb _ (by decide +kernel), show bootBuiltins (Str.ofString "__build_class__") = some (.builtin "__build_class__") by kernel_rfl]
  refine wpAny_pure (wpAny_bind (wpAny_holding (wpAny_bind ?_)))
  refine evalArgs_one rfl (blt_name I.gd I.st hko (by kernel_rfl) (v := .type "object") (by kernel_rfl) (by decide +kernel) (by decide +kernel) ?_)
  refine wpAny_bind (wpAny_standAt (wpAny_holding ?_))
  generalize qualnameIn env (Str.ofString "K") (Str.ofString "K") = q
  unfold buildClass
  refine wpAny_bind (wpAny_newTuple ?_)
  refine wpAny_bind (m := forIn _ _ _) (wpAny_of_eq (a := ([Value.type "object"], false)) (by kernel_rfl) ?_)
  refine wpAny_bind (m := typeOf _) (wpAny_of_eq bc1 ?_)
  refine wpAny_bind (m := isType _) (wpAny_of_eq isType_type ?_)
  refine wpAny_ite_true rfl ?_
  refine wpAny_bind (m := forIn _ _ _) (wpAny_of_eq (a := Value.type "type") (by kernel_rfl) ?_)
  refine wpAny_bind (wpAny_mkText ?_)
  refine wpAny_ite_false rfl ?_
  refine wpAny_bind (wpAny_pure (wpAny_holding (wpAny_bind (prep_get ?_))))
  refine wpAny_bind (call_pr (Heap.get?_push_size _ rfl) ?_)
  have hbig : 116 < s.heap.objs.size := by
    have FO : FnOk (Kx P) 116 (fdAt (Kx P) 116) (bodyAt (Kx P) 116) [Str.ofString "mycmp"] := FnOk.of (by kernel_rfl)
    obtain ⟨o, ho, -⟩ := FO.obj
    exact Heap.lt_size (I.gd.kin _ _ ho)
  show wpAny _ _ _ _ _ { s with heap := ((s.heap.push { cls := .type "tuple", data := .seq [Value.type "object"].toArray }).push prepObj).push { cls := .type "dict", data := .dict #[] }, toks := s.toks + 1 + 1 }
  have hz1 : ((s.heap.push { cls := .type "tuple", data := .seq [Value.type "object"].toArray }).push prepObj).objs.size = s.heap.objs.size + 2 := by rw [Heap.size_push, Heap.size_push]
  have k₂ : Keeps s { s with heap := ((s.heap.push { cls := .type "tuple", data := .seq [Value.type "object"].toArray }).push prepObj).push { cls := .type "dict", data := .dict #[] }, toks := s.toks + 1 + 1 } :=
    ⟨_, _, rfl, fun b o e => Heap.get?_push_of_some _ (Heap.get?_push_of_some _ (Heap.get?_push_of_some _ e))⟩
  have hbT : ({ s with heap := ((s.heap.push { cls := .type "tuple", data := .seq [Value.type "object"].toArray }).push prepObj).push { cls := .type "dict", data := .dict #[] }, toks := s.toks + 1 + 1 } : Shared).heap.get? s.heap.objs.size = some { cls := .type "tuple", data := .seq [Value.type "object"].toArray } :=
    Heap.get?_push_of_some _ (Heap.get?_push_of_some _ (Heap.get?_push_size _ rfl))
  have hN : ({ s with heap := ((s.heap.push { cls := .type "tuple", data := .seq [Value.type "object"].toArray }).push prepObj).push { cls := .type "dict", data := .dict #[] }, toks := s.toks + 1 + 1 } : Shared).heap.get? ((s.heap.push { cls := .type "tuple", data := .seq [Value.type "object"].toArray }).push prepObj).objs.size = some { cls := .type "dict", data := .dict #[] } := Heap.get?_push_size _ rfl
  generalize ({ s with heap := ((s.heap.push { cls := .type "tuple", data := .seq [Value.type "object"].toArray }).push prepObj).push { cls := .type "dict", data := .dict #[] }, toks := s.toks + 1 + 1 } : Shared) = s₂ at k₂ hbT hN
  generalize hNN : ((s.heap.push { cls := .type "tuple", data := .seq [Value.type "object"].toArray }).push prepObj).objs.size = N at hz1 hN
  have hnot : ∀ who, notTheModulesDict who N = pure () := fun who => by
    unfold notTheModulesDict
    rw [if_neg (by
      intro e
      have e : N = 1 := by simpa [sysModules] using e
      lia)]
  refine wpAny_bind (wpAny_of_eq (hnot _) ?_)
  refine wpAny_bind (wpAny_specialOf (T := "dict") ⟨_, hN, rfl⟩ dict_gi ?_)
  refine wpAny_ite_false rfl (wpAny_holding ?_)
  refine wpAny_ite_false (by rw [hcs1]; rfl) (wpAny_bind (wpAny_pure ?_))
  refine wpAny_ite_false (by rw [hcs2]; rfl) (wpAny_bind (wpAny_pure ?_))
  have G₂ : Gd (Kx P) s₂.heap := I.gd.ext (Keeps.ext k₂)
  refine wpAny_bind (class_code I.code (CodeHd.ofB G₂.kin (cmp_code P)) (Keeps.ext k₂ _ _ hP) (by trivial) (by rfl) fun c' T s₃ k₃ fc fT hcT hrec hP₃ hC htab => ?_)
  have G₃ : Gd (Kx P) s₃.heap := Gd.keepsW k₃ (gdw111 P) G₂
  obtain ⟨mg, hg⟩ := G₃.g
  obtain ⟨bm, ob, hbm, hne0, _, hneP, hbo, hcls, hdict, hdata⟩ := blt_at G₃.kin hg 111 (by decide)
  rw [I.st.glob, I.st.blt]
  refine wpAny_bind (wpAny_builtinsFor hg hbm hne0 hbo hcls hdict hdata ?_)
  refine wpAny_bind (body_frame hg fun fr s₄ k₄ => ?_)
  refine wpAny_bind (wpAny_of_eq hclo (wpAny_holding ?_))
  obtain ⟨oc, hoc, hCo⟩ := codeHd_obj hC
  obtain ⟨ocr, hocr, hro⟩ := codeRec_obj hrec
  have hbTN : s.heap.objs.size ≠ N := by lia
  have fN : s.heap.get? N = Option.none := fresh_none _ (by lia)
  have fresh₂ : ∀ {a : Addr}, s₂.heap.get? a = Option.none → s.heap.get? a = Option.none := fun {a} e => by
    cases q : s.heap.get? a with
    | none => rfl
    | some o => rw [Keeps.ext k₂ _ _ q] at e; cases e
  have ne₂ : ∀ {a b : Addr} {o : Obj}, s₂.heap.get? a = Option.none → s₂.heap.get? b = some o → b ≠ a := fun {a b o} e f q => by rw [q, e] at f; cases f
  have up₃ : ∀ y o, y ≠ 111 → s₂.heap.get? y = some o → s₃.heap.get? y = some o := fun y o hy e => by
    obtain ⟨h, t, rfl, e1, e2⟩ := k₃
    exact e1 y o (by simpa using hy) e
  have hN111 : N ≠ 111 := by lia
  have hS111 : s.heap.objs.size ≠ 111 := by lia
  have hT111 : 111 ≠ T := ne₂ fT (Keeps.ext k₂ _ _ hP)
  have b₃ : Bd s s₃ N T (fun _ => Option.none) #[] [(c', oc), (s.heap.objs.size, { cls := .type "tuple", data := .seq [Value.type "object"].toArray }), (111, tabObj (#[] ++ #[rawInt pos.line, rawInt pos.col, .ref c']))] := by
    refine ⟨(KeepsW.of k₂).trans k₃, ⟨⟨_, #[], 0, up₃ _ _ hN111 hN, rfl, fun e h => by simp at h, by unfold UniqKeys; exact .nil, fun _ => rfl⟩, _, up₃ _ _ hN111 hN, rfl⟩, htab, by trivial, fN, fresh₂ fT, ne₂ fT hN, fun p hp => ?_⟩
    rcases List.mem_cons.mp hp with e | hp
    · subst e; exact ⟨hoc, fun e => ne₂ fc hN e.symm, hcT⟩
    · rcases List.mem_cons.mp hp with e | hp
      · subst e; exact ⟨up₃ _ _ hS111 hbT, hbTN, ne₂ fT hbT⟩
      · have e := List.mem_singleton.mp hp
        subst e; exact ⟨hP₃, Ne.symm hN111, hT111⟩
  have b := b₃.keeps k₄
  have G₄ : Gd (Kx P) s₄.heap := G₃.ext (Keeps.ext k₄)
  have hg₄ := hg.keeps (Keeps.ext k₄)
  obtain ⟨vn, hvn⟩ := name_some P
  have hvn := mg_of G₄.kin hg₄ hvn
  refine wpAny_bind (wpAny_enterFrame G₄.lim (by have := I.rm.2.1; lia) ?_)
  refine wpAny_bind (wpAny_onRaise (wpAny_bind (load_cls hck hl1 (by decide +kernel) b.ns rfl hg₄ hvn ?_)))
  refine wpAny_bind (store_cls hck (.inl hl2) (by show Env.blockKind _ ≠ _; unfold Env.blockKind; rw [hck]; decide) (bd_set b fun s₅ b => ?_))
  refine wpAny_bind (wpAny_mkText ?_)
  have b := b.keeps (s' := { s₅ with toks := s₅.toks + 1 }) ⟨_, _, rfl, fun _ _ e => e⟩
  refine wpAny_bind (store_cls hck (.inr ⟨hl3, by decide +kernel⟩) (by show Env.blockKind _ ≠ _; unfold Env.blockKind; rw [hck]; decide) (bd_set b fun s₆ b => ?_))
  refine wpAny_bind (wpAny_mkInt ?_)
  have b := b.keeps (s' := { s₆ with toks := s₆.toks + 1 }) ⟨_, _, rfl, fun _ _ e => e⟩
  refine wpAny_bind (store_cls hck (.inr ⟨hl4, by decide +kernel⟩) (by show Env.blockKind _ ≠ _; unfold Env.blockKind; rw [hck]; decide) (bd_set b fun s₇ b => ?_))
  refine wpAny_pure ?_
  refine wpAny_bind (wpAny_run (codeAny_body hann hdoc (wpAny_mono (hbody _ _ _ _ _ _ _ _ _ _ _ _ _ rfl rfl rfl rfl hCo (.head _) b) (fun f s₈ q₈ => ?_) fun _ _ x => x)))
  obtain ⟨rfl, m', ps', fs', b, hsub, hdone⟩ := q₈
  show wpAny (model prog w) A _ _ E s₈
  refine wpAny_bind (wpAny_onRaise (wpAny_bind (map_text fun ta => wpAny_bind (wpAny_newTextTuple ?_))))
  have b := b.add (o := { cls := .type "tuple", data := .seq [Value.str (Str.ofString "obj") ta].toArray }) (tk := s₈.toks + 1) rfl
  refine wpAny_bind (store_cls hck (.inr ⟨hl5, by decide +kernel⟩) (by show Env.blockKind _ ≠ _; unfold Env.blockKind; rw [hck]; decide) (bd_set b fun s₉ b => ?_))
  refine wpAny_pure ?_
  refine wpAny_ite_false rfl ?_
  have ht9 := (b.xs _ (.head _)).1
  obtain ⟨L, MO⟩ := hmap _ _ _ s₉ s₈.heap.objs.size hdone (fun p hp => (b.xs p (.tail _ hp)).1) ⟨_, ht9, rfl⟩
  have hb9 : s₉.heap.get? s.heap.objs.size = some { cls := .type "tuple", data := .seq [Value.type "object"].toArray } := (b.xs _ (.tail _ (hsub _ (.tail _ (.head _))))).1
  have hNd : Nd s₉.heap N (fun x => if x = Str.ofString "__static_attributes__" then some (.ref s₈.heap.objs.size) else m' x) 50 := by
    obtain ⟨⟨o, es, ep, ho, hd, hk, hu, hf⟩, o', ho', hc⟩ := b.ns
    obtain rfl : o = o' := Option.some.inj (ho.symm.trans ho')
    exact ⟨o, es, ep, ho, hc, hd, hk, hu, hf, Nat.le_trans (few hk hu fun n hn => MO.dom n (by have e := hf n; rw [e] at hn; exact hn)) MO.len⟩
  have G₉ : Gd (Kx P) s₉.heap := Gd.keepsW b.kp (gdw111 P) I.gd
  obtain ⟨l, tl, hsl, hll⟩ := MO.slots
  obtain ⟨q', tq', hqq⟩ := MO.qual
  refine wpAny_bind (call_type3 (C := 0) fun {A P} hh => tnew ⟨_, hb9, rfl, _, rfl⟩ hNd (by decide) (fun e => by
    have e : N = 1 := e
    lia) hsl hll MO.obj MO.mod hqq MO.doc MO.del MO.new MO.ini MO.cgi MO.cc MO.cdc MO.eq MO.hash MO.val (Kf := Kx _) (by kernel_rfl) G₉.kin MO.dom MO.len fun C Nn D dt s₁₀ mk => hh C s₁₀ ⟨_, mk.c, rfl⟩ ?_)
  refine wpAny_pure ?_
  refine wpAny_bind (m := decorate _ _) (wpAny_pure ?_)
  refine wpAny_bind (wpAny_standAt (wpAny_bind (wpAny_bindName ?_)))
  have hkK : env.kindOf (Str.ofString "K") = some .local := by
    rcases I.sc (Str.ofString "K") .local (by decide +kernel) with q | ⟨q, _⟩
    · exact q
    · cases q
  obtain ⟨mE, hmE, _⟩ := I.st.loc
  have hmE10 : s₁₀.heap.Ns env.locals mE := by
    obtain ⟨o, es, ep, ho, r⟩ := hmE
    have hne : env.locals ≠ 111 := fun e => by
      rw [e, hP] at ho
      have q := Option.some.inj ho
      have q2 := r.1
      rw [← q] at q2
      cases q2
    obtain ⟨h, t, rfl, e1, e2⟩ := b.kp
    exact ⟨o, es, ep, Keeps.ext mk.kp _ _ (e1 _ _ (by simpa using hne) ho), r⟩
  refine wpAny_storeName_local hkK hmE10 (fun h' hn' hs => ?_) (by rw [I.st.kind]; rfl)
  exact wpAny_pure (hQ _ _ _ _ _ _ _ _ _ _ _ _ _ _ _ _ _ _ _ hdone b (fun p hp => .tail _ hp) ⟨_, .tail _ (hsub _ (.tail _ (.tail _ (.head _))))⟩ mk hmE10 hn' hs)
end Mine
end
section
open PySem PySem.W PyProof.Rows
set_option maxRecDepth 100000
set_option maxHeartbeats 1000000
namespace Mine
theorem closure_cls {env : Env} {sc : Scope} {c : Addr} (h : (sc.names.filter (·.2 == .free)) = [(Str.ofString "mycmp", .free)]) (hc : env.cells.lookup (Str.ofString "mycmp") = some c) : closureFor sc env = pure [(Str.ofString "mycmp", c)] := by
  have key : ∀ (l : List (Str × NameKind)) (cs : List (Str × Addr)), (forIn l cs fun (x : Str × NameKind) (cs : List (Str × Addr)) => (if (x.2 == .free) = true then (do let a ← cellOf env x.1; pure (ForInStep.yield ((x.1, a) :: cs))) else pure (ForInStep.yield cs) : Sem _)) = (forIn (l.filter (·.2 == .free)) cs fun (x : Str × NameKind) (cs : List (Str × Addr)) => (do let a ← cellOf env x.1; pure (ForInStep.yield ((x.1, a) :: cs)) : Sem _)) := by
    intro l
    induction l with
    | nil => intro cs; rfl
    | cons x l ih =>
      intro cs
      rw [List.forIn_cons]
      by_cases q : (x.2 == .free) = true
      · rw [if_pos q, List.filter_cons, if_pos q, List.forIn_cons]
        simp only [bind_assoc, pure_bind, ih]
      · rw [if_neg q, List.filter_cons, if_neg q]
        simp only [pure_bind, ih]
  unfold closureFor
  have e := key sc.names []
  rw [h] at e
  refine Eq.trans (congrArg (fun t => t >>= fun cs => pure cs) e) ?_
  rw [List.forIn_cons]
  unfold cellOf
  rw [hc]
  rfl
noncomputable def clsBodyOf : List Stmt → List Stmt
  | .ClassDef _ _ _ body _ _ _ _ _ _ _ :: _ => body
  | _ => []
noncomputable def methOf (b : List Stmt) (i : Nat) : Option (Str × Arguments × List Stmt × Scope) := match b[i]? with
  | some (.FunctionDef name params body _ _ _ scope _ _ _) => some (name, params, body, scope)
  | _ => Option.none
inductive MethAt (P : Params) (fs : List (Addr × Obj)) (i : Nat) (f : Addr) (clos : List (Str × Addr)) : Prop
  | mk (name : Str) (params : Arguments) (body : List Stmt) (scope : Scope) (qual : Str) (doc pm : Value) (c₂ : Addr) (oc₂ : Obj) (ctv : Value) (h1 : methOf (clsBodyOf (bodyAt (Kx P) 116)) i = some (name, params, body, scope)) (h2 : (f, fnMade name qual params body scope clos doc pm c₂ ctv) ∈ fs) (h3 : (c₂, oc₂) ∈ fs) (h4 : ∀ h' : Heap, h'.get? c₂ = some oc₂ → h'.CodeRec (.ref c₂) qual)
theorem MethAt.sub {P : Params} {fs fs' : List (Addr × Obj)} {i : Nat} {f : Addr} {clos : List (Str × Addr)} (h : ∀ p ∈ fs, p ∈ fs') (m : MethAt P fs i f clos) : MethAt P fs' i f clos := by
  obtain ⟨name, params, body, scope, qual, doc, pm, c₂, oc₂, ctv, h1, h2, h3, h4⟩ := m
  exact ⟨name, params, body, scope, qual, doc, pm, c₂, oc₂, ctv, h1, h _ h2, h _ h3, h4⟩
noncomputable def ofL : List (Str × Value) → Str → Option Value
  | [], _ => Option.none
  | (n, v) :: r, x => if x = n then some v else ofL r x
theorem ofL_mem {x : Str} {v : Value} : ∀ {l : List (Str × Value)}, ofL l x = some v → (x, v) ∈ l
  | (n, u) :: r, h => by
    unfold ofL at h
    by_cases q : x = n
    · rw [if_pos q] at h; cases h; rw [q]; exact .head _
    · rw [if_neg q] at h; exact .tail _ (ofL_mem h)
theorem ofL_ne {x n : Str} {v : Value} (h : ¬ x = n) : ∀ {l : List (Str × Value)}, ofL (l ++ [(n, v)]) x = ofL l x
  | [] => if_neg h
  | (m, u) :: r => by
    show (if x = m then some u else ofL (r ++ [(n, v)]) x) = if x = m then some u else ofL r x
    rw [ofL_ne h]
theorem ofL_some {x n : Str} {v u : Value} : ∀ {l : List (Str × Value)}, ofL l x = some u → ofL (l ++ [(n, v)]) x = some u
  | (m, w) :: r, h => by
    have h' : (if x = m then some w else ofL r x) = some u := h
    show (if x = m then some w else ofL (r ++ [(n, v)]) x) = some u
    by_cases q : x = m
    · rw [if_pos q] at h' ⊢; exact h'
    · rw [if_neg q] at h' ⊢; exact ofL_some h'
theorem ofL_dup {n : Str} {v u : Value} {l : List (Str × Value)} (h : ofL l n = some u) : ofL (l ++ [(n, v)]) = ofL l := funext fun x => by
  by_cases q : x = n
  · rw [q, h]; exact ofL_some h
  · exact ofL_ne q
noncomputable def AllV (s : Shared) : List (Str × Value) → Prop
  | [] => True
  | p :: r => NoSN s p.2 ∧ AllV s r
theorem AllV.c {s : Shared} {n : Str} {v : Value} {r : List (Str × Value)} (h : NoSN s v) (q : AllV s r) : AllV s ((n, v) :: r) := ⟨h, q⟩
theorem AllV.at {s : Shared} {p : Str × Value} {l : List (Str × Value)} (h : AllV s l) (m : p ∈ l) : NoSN s p.2 := by
  induction l with
  | nil => exact nomatch m
  | cons q r ih =>
    rcases List.mem_cons.mp m with e | m
    · rw [e]; exact h.1
    · exact ih h.2 m
noncomputable def listK (l f0 f1 f2 f3 f4 f5 : Addr) (tm : Tok) (q : Str) (i : Int) (tq ti : Tok) : List (Str × Value) :=
  [(Str.ofString "__hash__", .none), (Str.ofString "__ge__", .ref f5), (Str.ofString "__le__", .ref f4), (Str.ofString "__eq__", .ref f3), (Str.ofString "__gt__", .ref f2), (Str.ofString "__lt__", .ref f1), (Str.ofString "__init__", .ref f0), (Str.ofString "__slots__", .ref l),
    (Str.ofString "__module__", .str (Str.ofString "cpy313.functools") tm), (Str.ofString "__firstlineno__", .int i ti), (Str.ofString "__qualname__", .str q tq)]
noncomputable def chainK (l f0 f1 f2 f3 f4 f5 : Addr) (tm : Tok) (q : Str) (i : Int) (vn : Value) (tq ti : Tok) : Str → Option Value := ofL (listK l f0 f1 f2 f3 f4 f5 tm q i tq ti ++ [(Str.ofString "__module__", vn)])
structure DoneK (P : Params) (c : Addr) (m' : Str → Option Value) (fs : List (Addr × Obj)) (l f0 f1 f2 f3 f4 f5 : Addr) : Prop where
  map : ∃ tm q i vn tq ti, m' = chainK l f0 f1 f2 f3 f4 f5 tm q i vn tq ti
  lst : ∃ t, (l, ({ cls := .type "list", data := .seq [Value.str (Str.ofString "obj") t].toArray } : Obj)) ∈ fs
  m0 : MethAt P fs 2 f0 []
  m1 : MethAt P fs 3 f1 [(Str.ofString "mycmp", c)]
  m2 : MethAt P fs 4 f2 [(Str.ofString "mycmp", c)]
  m3 : MethAt P fs 5 f3 [(Str.ofString "mycmp", c)]
  m4 : MethAt P fs 6 f4 [(Str.ofString "mycmp", c)]
  m5 : MethAt P fs 7 f5 [(Str.ofString "mycmp", c)]
theorem closure_one {env : Env} {sc : Scope} {c : Addr} (h : sc.names = [(Str.ofString "self", .local), (Str.ofString "other", .local), (Str.ofString "mycmp", .free)]) (hc : env.cells = [(Str.ofString "mycmp", c)]) : closureFor sc env = pure [(Str.ofString "mycmp", c)] := by
  unfold closureFor cellOf
  rw [h, hc]
  rfl
theorem spliced_one {M : Model} {A : Around} {E : Value → Shared → Prop} {s : Shared} {env : Env} {e : Expr} {pos : Pos} {Q : List Value → Shared → Prop} (hst : starEach [e] env = [(false, eval e env)]) (h : wpAny M A (eval e env) (fun v s' => Q [v] s') E s) : wpAny M A (spliced (backTo pos (starEach [e] env))) Q E s := by
  rw [hst]
  exact PySem.Calls.spliced_cons (wpAny_mono h (fun v s' q => PySem.Calls.spliced_nil q) fun _ _ x => x)
theorem meth_fn {P : Params} {fs : List (Addr × Obj)} {i : Nat} {f : Addr} {clos : List (Str × Addr)} {s : Shared} (m : MethAt P fs i f clos) (hfs : ∀ p ∈ fs, s.heap.get? p.1 = some p.2) : NoSN s (.ref f) := by
  obtain ⟨name, params, body, scope, qual, doc, pm, c₂, oc₂, ctv, _, hm, _⟩ := m
  exact ⟨fun id e => (by cases e), "function", ⟨_, hfs _ hm, rfl⟩, sn_fn⟩
theorem map_done {P : Params} {c a l f0 f1 f2 f3 f4 f5 : Addr} {m' : Str → Option Value} {fs : List (Addr × Obj)} {s : Shared} (D : DoneK P c m' fs l f0 f1 f2 f3 f4 f5) (hfs : ∀ p ∈ fs, s.heap.get? p.1 = some p.2) (ht : s.TypeIs (.ref a) "tuple") :
    ∃ L, MapOk s (fun x => if x = Str.ofString "__static_attributes__" then some (.ref a) else m' x) L := by
  obtain ⟨tm, q, i, vn, tq, ti, rfl⟩ := D.map
  obtain ⟨t, hl⟩ := D.lst
  have hl' := hfs _ hl
  have al : AllV s ((Str.ofString "__static_attributes__", .ref a) :: listK l f0 f1 f2 f3 f4 f5 tm q i tq ti) :=
    .c ⟨(fun _ e => nomatch e), "tuple", ht, sn_tuple⟩ (.c ⟨(fun _ e => nomatch e), "NoneType", rfl, sn_none⟩ (.c (meth_fn D.m5 hfs) (.c (meth_fn D.m4 hfs) (.c (meth_fn D.m3 hfs) (.c (meth_fn D.m2 hfs) (.c (meth_fn D.m1 hfs) (.c (meth_fn D.m0 hfs) (.c ⟨(fun _ e => nomatch e), "list", ⟨_, hl', rfl⟩, sn_list⟩
      (.c ⟨(fun _ e => nomatch e), "str", rfl, sn_str⟩ (.c ⟨(fun _ e => nomatch e), "int", rfl, sn_int⟩ (.c ⟨(fun _ e => nomatch e), "str", rfl, sn_str⟩ trivial)))))))))))
  unfold chainK
  rw [ofL_dup (u := .str (Str.ofString "cpy313.functools") tm) (by kernel_rfl)]
  exact ⟨((Str.ofString "__static_attributes__", Value.ref a) :: listK l f0 f1 f2 f3 f4 f5 tm q i tq ti).map (·.1), ⟨⟨l, t, by kernel_rfl, ⟨_, hl', rfl, _, rfl⟩⟩, by kernel_rfl, by kernel_rfl, ⟨q, tq, by kernel_rfl⟩, by kernel_rfl, by kernel_rfl, by kernel_rfl, by kernel_rfl, by kernel_rfl, by kernel_rfl, by kernel_rfl, by kernel_rfl, by kernel_rfl,
    fun n v h => AllV.at al (ofL_mem h), fun n h => let ⟨v, h⟩ := Option.isSome_iff_exists.mp h; List.mem_map.mpr ⟨(n, v), ofL_mem h, rfl⟩, (show 12 ≤ 50 by decide)⟩⟩
end Mine
end
section
open PySem PySem.W PyProof.Rows
set_option genInjectivity false
set_option genSizeOfSpec false
set_option maxRecDepth 100000
set_option maxHeartbeats 1000000
namespace Mine
variable {prog : Program} {w : World} {A : Around} {E : Value → Shared → Prop} {s : Shared} {env : Env}
structure KP where
  (C N D bT l a f0 f1 f2 f3 f4 f5 c : Addr)
  (tk tq tm tq' ti : Tok)
  dt : Nat
  (q q' : Str)
  i : Int
  vn : Value
noncomputable def KP.map (k : KP) : Str → Option Value := mapK (fun x => if x = Str.ofString "__static_attributes__" then some (.ref k.a) else chainK k.l k.f0 k.f1 k.f2 k.f3 k.f4 k.f5 k.tm k.q' k.i k.vn k.tq' k.ti x) k.D
noncomputable def nk (o : Obj) : Bool := match o.data with
  | .dict .. => false
  | .cell .. => false
  | _ => true
inductive MethH (P : Params) (h : Heap) (i : Nat) (f : Addr) (clos : List (Str × Addr)) : Prop
  | mk (name : Str) (params : Arguments) (body : List Stmt) (scope : Scope) (qual : Str) (doc pm : Value) (c₂ : Addr) (oc₂ : Obj) (ctv : Value) (h1 : methOf (clsBodyOf (bodyAt (Kx P) 116)) i = some (name, params, body, scope)) (h2 : h.get? f = some (fnMade name qual params body scope clos doc pm c₂ ctv)) (h3 : h.get? c₂ = some oc₂) (h4 : nk oc₂ = true) (h5 : ∀ h' : Heap, h'.get? c₂ = some oc₂ → h'.CodeRec (.ref c₂) qual)
structure KH (P : Params) (h : Heap) (k : KP) : Prop where
  cls : h.get? k.C = some (clsK k.C k.N k.bT k.tk k.q k.tq)
  ns : h.Ns1 k.N k.map
  d : h.get? k.D = some (slotDesc k.C k.dt)
  m0 : MethH P h 2 k.f0 []
  m1 : MethH P h 3 k.f1 [(Str.ofString "mycmp", k.c)]
  m2 : MethH P h 4 k.f2 [(Str.ofString "mycmp", k.c)]
  m3 : MethH P h 5 k.f3 [(Str.ofString "mycmp", k.c)]
  m4 : MethH P h 6 k.f4 [(Str.ofString "mycmp", k.c)]
  m5 : MethH P h 7 k.f5 [(Str.ofString "mycmp", k.c)]
theorem MethH.keep {P : Params} {h h' : Heap} {i : Nat} {f : Addr} {clos : List (Str × Addr)} (m : MethH P h i f clos) (x : ∀ b o, nk o = true → h.get? b = some o → h'.get? b = some o) : MethH P h' i f clos := by
  obtain ⟨name, params, body, scope, qual, doc, pm, c₂, oc₂, ctv, a1, a2, a3, a4, a5⟩ := m
  exact ⟨name, params, body, scope, qual, doc, pm, c₂, oc₂, ctv, a1, x _ _ rfl a2, x _ _ a4 a3, a4, a5⟩
theorem KH.keep {P : Params} {h h' : Heap} {k : KP} (H : KH P h k) (x : ∀ b o, nk o = true → h.get? b = some o → h'.get? b = some o) (xN : ∀ o, h.get? k.N = some o → h'.get? k.N = some o) : KH P h' k :=
  ⟨x _ _ rfl H.cls, H.ns.at xN, x _ _ rfl H.d, H.m0.keep x, H.m1.keep x, H.m2.keep x, H.m3.keep x, H.m4.keep x, H.m5.keep x⟩
theorem KH.ext {P : Params} {h h' : Heap} {k : KP} (H : KH P h k) (x : Ext h h') : KH P h' k := H.keep (fun b o _ e => x b o e) fun o e => x _ o e
theorem MethAt.at {P : Params} {fs : List (Addr × Obj)} {i : Nat} {f : Addr} {clos : List (Str × Addr)} {h : Heap} (m : MethAt P fs i f clos) (hfs : ∀ p ∈ fs, h.get? p.1 = some p.2) : MethH P h i f clos := by
  refine bc fun nG => ?_
  obtain ⟨name, params, body, scope, qual, doc, pm, c₂, oc₂, ctv, a1, a2, a3, a4⟩ := m
  refine nG ?_
  refine ⟨name, params, body, scope, qual, doc, pm, c₂, oc₂, ctv, a1, hfs _ a2, hfs _ a3, ?_, a4⟩
  have e := hfs _ a3
  refine bc fun nG => ?_
  obtain ⟨c, o, vs, t, h1, h2, h3, _⟩ := a4 h e
  refine nG ?_
  cases h1
  rw [show h.get? c₂ = some oc₂ from e] at h2
  cases h2
  unfold nk
  rw [h3]
structure KMade (P : Params) (s s' : Shared) (fa : Addr) (k : KP) : Prop where
  keep : KeepsW [111] s s'
  kh : KH P s'.heap k
  cell : s'.heap.IsCell k.c (some (.ref fa))
  fc : s.heap.get? k.c = Option.none
  fN : s.heap.get? k.N = Option.none
  tab : ∃ ps, s'.heap.get? 111 = some (tabObj ps)
theorem meth_stage {P : Params} {i : Nat} {s₀ : Shared} {T c : Addr} {oc : Obj} {m : Str → Option Value} {ps : Array Value} {fs : List (Addr × Obj)} {name : Str} {params : Arguments} {body : List Stmt} {scope : Scope} {pos : Pos} {clos : List (Str × Addr)} {M : Model} {Q : Flow → Shared → Prop} (b : Bd s₀ s env.locals T m ps fs)
    (hk : env.scope.kind = .class) (hn : env.kindOf name = some .local) (hbk : env.blockKind ≠ .function) (hge : env.globals = mainGlobals) (hcode : env.code = .ref c) (hmem : (c, oc) ∈ fs) (hC : ∀ h' : Heap, h'.get? c = some oc → CodeHd h' c T)
    (hcl : closureFor scope env = pure clos) (hd0 : params.defaults = []) (hk0 : params.kw_defaults = []) (ha : annTrees params Option.none env = []) (hnf : codeAmong pos ps.toList = Option.none) (G : Gd (Kx P) s₀.heap)
    (hm : methOf (clsBodyOf (bodyAt (Kx P) 116)) i = some (name, params, body, scope))
    (h : ∀ f c₂ fs' s', (∀ p ∈ fs, p ∈ fs') → MethAt P fs' i f clos → Bd s₀ s' env.locals T (fun x => if x = name then some (.ref f) else m x) (ps ++ #[rawInt pos.line, rawInt pos.col, .ref c₂]) fs' → Q .next s') :
    wpAny M A (exec (.FunctionDef name params body [] Option.none [] scope Option.none name pos) env) Q E s :=
  bd_def (P := P) b hk hn hbk hge hcode hmem hC hcl hd0 hk0 ha hnf G fun f c₂ oc₂ doc pm ctv s' h0 b' => h f c₂ _ s' (fun p hp => .tail _ (.tail _ hp)) ⟨_, _, _, _, _, doc, pm, c₂, oc₂, ctv, hm, .head _, .tail _ (.head _), h0⟩ b'
theorem c_cmp (P : Params) {m : Nat} {fa : Addr} {X : List Addr} {Q : Value → Shared → Prop} (R : Rm A (m + 1)) (G : Gd (Kx P) s.heap) (L : Live s.heap X) (hP : s.heap.get? 111 = some (tabObj #[]))
    (hq : ∀ k s', KMade P s s' fa k → Q (.ref k.C) s') :
    wpAny (model prog w) A (call (.ref 116) [.ref fa] []) Q E s := by
  refine cmp_enter P R G L fun env E s₁ c I => ?_
  conv => arg 3; arg 1; whnf
  refine wpAny_execs_cons ?_
  refine class_def P (Done := fun _ m' fs' => ∃ l f0 f1 f2 f3 f4 f5, DoneK P c m' fs' l f0 f1 f2 f3 f4 f5) I (Keeps.ext I.keeps _ _ hP) rfl (by kernel_rfl) (by kernel_rfl) ?_ (by kernel_rfl) (by kernel_rfl) (by kernel_rfl) (by kernel_rfl) (by kernel_rfl) (by kernel_rfl) (by kernel_rfl) ?_ ?_ ?_
  · exact closure_cls (by kernel_rfl) I.cell
  · intro A' E' cenv s₇ T c' oc fs q i vn tq ti hsc hgl hce hco hC hmem b
    refine wpAny_execs_cons ?_
    rw [exec_Assign_Name cenv _ _ _ _ rfl]
    refine wpAny_bind (wpAny_standAt (wpAny_bind ?_))
    have hck : cenv.scope.kind = .class := by rw [hsc]
    have hbk : cenv.blockKind ≠ .function := by unfold Env.blockKind; rw [hck]; decide
    refine wpAny_Constant_str ?_
    have b := b.keeps (s' := { s₇ with toks := s₇.toks + 1 }) ⟨_, _, rfl, fun _ _ e => e⟩
    refine wpAny_bind (wpAny_standAt (wpAny_bind (wpAny_bindName (store_cls hck (.inl (by unfold Env.kindOf; rw [hsc]; kernel_rfl)) hbk (bd_set b fun s₈ b => wpAny_pure ?_)))))
    refine wpAny_execs_cons ?_
    rw [exec_Assign_Name cenv _ _ _ _ rfl]
    refine wpAny_bind (wpAny_standAt (wpAny_bind ?_))
    rw [arm_eval_List]
    refine wpAny_bind (wpAny_standAt (wpAny_bind ?_))
    refine spliced_one rfl (wpAny_Constant_str ?_)
    unfold newList
    refine wpAny_newObj_type ?_ (by size_fits)
    have b := b.add (o := { cls := .type "list", data := .seq [Value.str (Str.ofString "obj") s₈.toks].toArray }) (tk := s₈.toks + 1) rfl
    refine wpAny_bind (wpAny_standAt (wpAny_bind (wpAny_bindName (store_cls hck (.inl (by unfold Env.kindOf; rw [hsc]; kernel_rfl)) hbk (bd_set b fun s₉ b => wpAny_pure ?_)))))
    refine wpAny_execs_cons ?_
    refine meth_stage (P := P) (i := 2) b hck (by unfold Env.kindOf; rw [hsc]; kernel_rfl) hbk hgl hco (.tail _ hmem) hC (clos := []) (by rfl) rfl rfl (by rfl) (by rfl) I.gd (by kernel_rfl) fun f0 c0 fs0 sa0 u0 M0 b => ?_
    have hm0 := u0 _ (.tail _ hmem)
    refine wpAny_execs_cons ?_
    refine meth_stage (P := P) (i := 3) b hck (by unfold Env.kindOf; rw [hsc]; kernel_rfl) hbk hgl hco hm0 hC (closure_one rfl hce) rfl rfl (by rfl) (by rfl) I.gd (by kernel_rfl) fun f1 c1 fs1 sa1 u1 M1 b => ?_
    have hm1 := u1 _ hm0
    refine wpAny_execs_cons ?_
    refine meth_stage (P := P) (i := 4) b hck (by unfold Env.kindOf; rw [hsc]; kernel_rfl) hbk hgl hco hm1 hC (closure_one rfl hce) rfl rfl (by rfl) (by rfl) I.gd (by kernel_rfl) fun f2 c2 fs2 sa2 u2 M2 b => ?_
    have hm2 := u2 _ hm1
    refine wpAny_execs_cons ?_
    refine meth_stage (P := P) (i := 5) b hck (by unfold Env.kindOf; rw [hsc]; kernel_rfl) hbk hgl hco hm2 hC (closure_one rfl hce) rfl rfl (by rfl) (by rfl) I.gd (by kernel_rfl) fun f3 c3 fs3 sa3 u3 M3 b => ?_
    have hm3 := u3 _ hm2
    refine wpAny_execs_cons ?_
    refine meth_stage (P := P) (i := 6) b hck (by unfold Env.kindOf; rw [hsc]; kernel_rfl) hbk hgl hco hm3 hC (closure_one rfl hce) rfl rfl (by rfl) (by rfl) I.gd (by kernel_rfl) fun f4 c4 fs4 sa4 u4 M4 b => ?_
    have hm4 := u4 _ hm3
    refine wpAny_execs_cons ?_
    refine meth_stage (P := P) (i := 7) b hck (by unfold Env.kindOf; rw [hsc]; kernel_rfl) hbk hgl hco hm4 hC (closure_one rfl hce) rfl rfl (by rfl) (by rfl) I.gd (by kernel_rfl) fun f5 c5 fs5 sa5 u5 M5 b => ?_
    have hm5 := u5 _ hm4
    refine wpAny_execs_cons ?_
    rw [exec_Assign_Name cenv _ _ _ _ rfl]
    refine wpAny_bind (wpAny_standAt (wpAny_bind (wpAny_Constant_none ?_)))
    refine wpAny_bind (wpAny_standAt (wpAny_bind (wpAny_bindName (store_cls hck (.inl (by unfold Env.kindOf; rw [hsc]; kernel_rfl)) hbk (bd_set b fun s₂₀ b => wpAny_pure ?_)))))
    have v4 : ∀ p ∈ fs4, p ∈ fs5 := u5
    have v3 : ∀ p ∈ fs3, p ∈ fs5 := fun p hp => v4 p (u4 p hp)
    have v2 : ∀ p ∈ fs2, p ∈ fs5 := fun p hp => v3 p (u3 p hp)
    have v1 : ∀ p ∈ fs1, p ∈ fs5 := fun p hp => v2 p (u2 p hp)
    have v0 : ∀ p ∈ fs0, p ∈ fs5 := fun p hp => v1 p (u1 p hp)
    exact wpAny_pure ⟨rfl, _, _, _, b, fun p hp => v0 p (u0 p (.tail _ hp)), s₈.heap.objs.size, f0, f1, f2, f3, f4, f5, ⟨⟨s₇.toks, q, i, vn, tq, ti, rfl⟩, ⟨s₈.toks, v0 _ (u0 _ (.head _))⟩, M0.sub v0, M1.sub v1, M2.sub v2, M3.sub v3, M4.sub v4, M5⟩⟩
  · rintro cenv m' fs' s'' a ⟨l, f0, f1, f2, f3, f4, f5, D⟩ hfs ht
    exact map_done D hfs ht
  · rintro C N D a bT T dt tk tq q m' mE ps' fs fs' cenv s₉ s₁₀ h' ⟨l, f0, f1, f2, f3, f4, f5, DK⟩ b hsub ⟨ps11, h111⟩ mk hns hns' hsb
    refine bc fun nG => ?_
    obtain ⟨tm, q', i, vn, tq', ti, rfl⟩ := DK.map
    refine nG ?_
    refine wpAny_execs_cons (wpAny_Return_some ?_)
    have hk : env.kindOf (Str.ofString "K") = some .local := by
      rcases I.sc (Str.ofString "K") .local (by kernel_rfl) with h | ⟨h, _⟩
      · exact h
      · cases h
    refine wpAny_Name (wpAny_loadName_local I.st.kind hk hns' (v := .ref C) (by simp) ?_) (by decide +kernel)
    refine ⟨_, rfl, ?_⟩
    have k01 : KeepsW [111] s s₁ := KeepsW.of I.keeps
    have k10 : KeepsW [111] s s₁₀ := (k01.trans b.kp).trans (KeepsW.of mk.kp)
    have hLf : s.heap.get? env.locals = Option.none := I.fresh _ (Wr.loc _ _)
    have h9 : KeepsW [111] s s₉ := k01.trans b.kp
    have ne111 : ∀ {x : Addr}, s.heap.get? x = Option.none → x ∉ [111] := fun {x} e q => by
      rw [List.mem_singleton.mp q, hP] at e; cases e
    have lv1 : ∀ b ∈ Wr env Option.none, ∃ o, s₁.heap.get? b = some o := fun b hb => I.st.live b (List.mem_append_left _ hb)
    have keep1 : ∀ x ∈ Wr env Option.none, ∀ o, s₁.heap.get? x = some o → s₁₀.heap.get? x = some o := fun x hx o e => Keeps.ext mk.kp _ _ (b.kp.out x o (ne111 (I.fresh x hx)) e)
    have keep9 : ∀ x ∈ Wr env Option.none, ∃ o, s₉.heap.get? x = some o := fun x hx => by
      obtain ⟨o, ho⟩ := lv1 x hx
      exact ⟨o, b.kp.out x o (ne111 (I.fresh x hx)) ho⟩
    have hfs : ∀ p ∈ fs', s₁₀.heap.get? p.1 = some p.2 := fun p hp => Keeps.ext mk.kp _ _ (b.xs p (hsub p hp)).1
    have x' : ∀ b o, nk o = true → s₁₀.heap.get? b = some o → h'.get? b = some o := fun y o hn e => by
      refine hsb.extBut y o (fun q => ?_) e
      subst q
      refine bc fun nG => ?_
      obtain ⟨o', es, ep, e1, e2, _⟩ := hns
      refine nG ?_
      rw [e] at e1; cases e1
      unfold nk at hn; rw [e2] at hn; cases hn
    have xN : ∀ o, s₁₀.heap.get? N = some o → h'.get? N = some o := fun o e => by
      refine hsb.extBut _ o (fun q => ?_) e
      obtain ⟨o', ho'⟩ := keep9 _ (Wr.loc _ _)
      rw [← q] at ho'
      rw [mk.fN] at ho'; cases ho'
    refine hq ⟨C, N, D, bT, l, a, f0, f1, f2, f3, f4, f5, c, tk, tq, tm, tq', ti, dt, q, q', i, vn⟩ _ ⟨k10.put hLf fun y o hy e => hsb.extBut y o hy e, KH.keep (h := s₁₀.heap) ⟨mk.c, mk.n, (mk.xs _ (.head _)).1, DK.m0.at hfs, DK.m1.at hfs, DK.m2.at hfs, DK.m3.at hfs, DK.m4.at hfs, DK.m5.at hfs⟩ x' xN, ?_, I.fresh _ (Wr.cel I.cell), ?_, ⟨_, hsb.extBut _ _ (fun e => by rw [← e, hP] at hLf; cases hLf) (Keeps.ext mk.kp _ _ (b.xs _ h111).1)⟩⟩
    · refine bc fun nG => ?_
      obtain ⟨o, ho, hd⟩ := I.isc
      refine nG ?_
      exact ⟨o, hsb.extBut _ _ (I.sep.cl _ _ I.cell) (keep1 _ (Wr.cel I.cell) _ ho), hd⟩
    · cases e : s.heap.get? N with
      | none => rfl
      | some o =>
        have : ∃ o, s₉.heap.get? N = some o := by
          by_cases q : N ∈ [111]
          · refine bc fun nG => ?_
            obtain ⟨_, _, rfl, _, l⟩ := h9
            refine nG ?_
            exact l N q ⟨o, e⟩
          · exact ⟨o, h9.out _ _ q e⟩
        obtain ⟨o', ho'⟩ := this
        rw [mk.fN] at ho'; cases ho'
end Mine
end
section
open PySem PySem.W PyProof.Rows
set_option maxRecDepth 100000
set_option maxHeartbeats 1000000
namespace Mine
variable {prog : Program} {w : World} {A : Around} {E : Value → Shared → Prop} {s : Shared} {env : Env}
theorem in_all {K : Frag} {h : Heap} (hk : ∀ p ∈ K, h.get? p.1 = some p.2) : K.In h := fun a o e => hk (a, o) (by
  induction K with
  | nil => cases e
  | cons p r ih =>
    obtain ⟨b, x⟩ := p
    rw [List.lookup_cons] at e
    cases q : a == b with
    | true => rw [q] at e; cases e; rw [beq_iff_eq.mp q]; exact .head _
    | false => rw [q] at e; exact .tail _ (ih (fun p hp => hk p (.tail _ hp)) e))
theorem lookup_in {K : Frag} {h : Heap} (hk : ∀ p ∈ K, h.get? p.1 = some p.2) {a : Addr} {o : Obj} (hm : (a, o) ∈ K) : K.lookup a = some o := by
  induction K with
  | nil => cases hm
  | cons p r ih =>
    obtain ⟨b, x⟩ := p
    rw [List.lookup_cons]
    cases q : a == b with
    | true =>
      have e1 := hk _ hm
      have e2 := hk (b, x) (.head _)
      rw [beq_iff_eq.mp q] at e1
      rw [show h.get? b = some o from e1] at e2
      cases e2; rfl
    | false =>
      rcases List.mem_cons.mp hm with e | e
      · cases e; simp at q
      · exact ih (fun p hp => hk p (.tail _ hp)) e
theorem nsIn_of {K : Frag} {N : Addr} {oN : Obj} {es : Array DictEntry} {ep : Nat} {m : Str → Option Value} (hl : K.lookup N = some oN) (hd : oN.data = .dict es ep) (hk : StrKeys es) (hf : ∀ x, nsFind es x = m x) (name : Str) : nsIn K N name = some (m name) := by
  obtain ⟨oc, od, oda, osl⟩ := oN
  dsimp only at hd
  subst hd
  unfold nsIn
  rw [hl]
  dsimp only
  cases e : es.toList.find? (·.key.isStr name) with
  | some en =>
    have : nsFind es name = some en.val := by
      unfold nsFind findBy
      rw [← Array.find?_toList]
      have hg : ∀ l : List DictEntry, (∀ e ∈ l, ∃ n t, e.key = .str n t) → l.find? (·.key.isStr name) = some en → (l.find? fun e => e.key.isStr name) = some en := fun l _ h => h
      first
        | (rw [hg _ (fun x hx => hk x (by simpa using hx)) e]; rfl)
        | (simp [e])
    rw [← hf name, this]
  | none =>
    have : nsFind es name = none := by
      unfold nsFind findBy
      rw [← Array.find?_toList]
      simp [e]
    rw [← hf name, this]
    have hr : (es.toList.any (·.refKey)) = false := by
      rw [List.any_eq_false]
      intro x hx
      obtain ⟨n, t, h⟩ := hk x (by simpa using hx)
      unfold DictEntry.refKey
      rw [h]
      simp
    simp [hr]
end Mine
end
section
open PySem PySem.W PyProof.Rows
set_option maxRecDepth 100000
set_option maxHeartbeats 1000000
namespace Mine
variable {prog : Program} {w : World} {A : Around} {E : Value → Shared → Prop} {s : Shared} {env : Env}
structure KF (K : Frag) (k : KP) : Prop where
  lc : K.lookup k.C = some (clsK k.C k.N k.bT k.tk k.q k.tq)
  ln : ∀ name, nsIn K k.N name = some (k.map name)
  ld : K.lookup k.D = some (slotDesc k.C k.dt)
  fn : ∀ f ∈ [k.f0, k.f1, k.f2, k.f3, k.f4, k.f5], typeIn K (.ref f) = some (.type "function")
theorem MethH.fobj {P : Params} {h : Heap} {i : Nat} {f : Addr} {clos : List (Str × Addr)} (m : MethH P h i f clos) : ∃ o, h.get? f = some o ∧ o.cls = .type "function" := by
  obtain ⟨name, params, body, scope, qual, doc, pm, c₂, oc₂, ctv, a1, a2, _⟩ := m
  exact ⟨_, a2, rfl⟩
theorem KH.frag {P : Params} {h : Heap} {k : KP} (H : KH P h k) : ∃ K : Frag, K.In h ∧ KF K k := by
  refine bc fun nG => ?_
  obtain ⟨oN, es, ep, n1, n2, n3, n4, n5⟩ := H.ns
  obtain ⟨o0, a0, b0⟩ := H.m0.fobj
  obtain ⟨o1, a1, b1⟩ := H.m1.fobj
  obtain ⟨o2, a2, b2⟩ := H.m2.fobj
  obtain ⟨o3, a3, b3⟩ := H.m3.fobj
  obtain ⟨o4, a4, b4⟩ := H.m4.fobj
  obtain ⟨o5, a5, b5⟩ := H.m5.fobj
  refine nG ?_
  let K : Frag := [(k.C, clsK k.C k.N k.bT k.tk k.q k.tq), (k.N, oN), (k.D, slotDesc k.C k.dt), (k.f0, o0), (k.f1, o1), (k.f2, o2), (k.f3, o3), (k.f4, o4), (k.f5, o5)]
  have hk : ∀ p ∈ K, h.get? p.1 = some p.2 := by
    intro p hp
    simp only [K, List.mem_cons, List.not_mem_nil, or_false] at hp
    rcases hp with rfl | rfl | rfl | rfl | rfl | rfl | rfl | rfl | rfl
    · exact H.cls
    · exact n1
    · exact H.d
    all_goals assumption
  have tf : ∀ {f : Addr} {o : Obj}, (f, o) ∈ K → o.cls = .type "function" → typeIn K (.ref f) = some (.type "function") := fun {f o} hm hc => by
    show (K.lookup f).map (·.cls) = _
    rw [lookup_in hk hm, Option.map_some, hc]
  refine ⟨K, in_all hk, lookup_in hk (.head _), fun name => nsIn_of (lookup_in hk (.tail _ (.head _))) n2 n3 n5 name, lookup_in hk (.tail _ (.tail _ (.head _))), ?_⟩
  intro f hf
  simp only [List.mem_cons, List.not_mem_nil, or_false] at hf
  rcases hf with rfl | rfl | rfl | rfl | rfl | rfl
  · exact tf (o := o0) (by simp [K]) b0
  · exact tf (o := o1) (by simp [K]) b1
  · exact tf (o := o2) (by simp [K]) b2
  · exact tf (o := o3) (by simp [K]) b3
  · exact tf (o := o4) (by simp [K]) b4
  · exact tf (o := o5) (by simp [K]) b5
section
variable {K : Frag} {k : KP} (F : KF K k)
include F
theorem KF.cls : clsIn K k.C = some { name := Str.ofString "K", bases := [.type "object"], mro := [.ref k.C, .type "object"], ns := k.N, qualname := k.q, hasDict := false, slotNames := [Str.ofString "obj"] } := by
  unfold clsIn
  rw [F.lc]; rfl
theorem KF.find {name : Str} {r : Option Value} (h : k.map name = r) : findIn K (.ref k.C) name = some (r.or (fastBuiltinOwn "object" name)) := by
  have e : findIn K (.ref k.C) name = alongIn K name [.ref k.C, .type "object"] := by
    unfold findIn
    simp only [F.lc, clsK]
  have e2 : ownIn K name (.ref k.C) = some (k.map name) := by
    unfold ownIn
    simp only [F.lc, clsK]
    exact F.ln name
  rw [e]
  unfold alongIn
  rw [e2]
  subst h
  cases k.map name with
  | some v => rfl
  | none =>
    dsimp only
    unfold alongIn ownIn
    dsimp only
    cases fastBuiltinOwn "object" name <;> first | rfl | (unfold alongIn; rfl)
theorem KF.init : findIn K (.ref k.C) "__init__" = some (some (.ref k.f0)) := F.find (r := some (.ref k.f0)) (by kernel_rfl)
theorem KF.lt : findIn K (.ref k.C) "__lt__" = some (some (.ref k.f1)) := F.find (r := some (.ref k.f1)) (by kernel_rfl)
theorem KF.gt : findIn K (.ref k.C) "__gt__" = some (some (.ref k.f2)) := F.find (r := some (.ref k.f2)) (by kernel_rfl)
theorem KF.eq : findIn K (.ref k.C) "__eq__" = some (some (.ref k.f3)) := F.find (r := some (.ref k.f3)) (by kernel_rfl)
theorem KF.le : findIn K (.ref k.C) "__le__" = some (some (.ref k.f4)) := F.find (r := some (.ref k.f4)) (by kernel_rfl)
theorem KF.ge : findIn K (.ref k.C) "__ge__" = some (some (.ref k.f5)) := F.find (r := some (.ref k.f5)) (by kernel_rfl)
theorem KF.obj : findIn K (.ref k.C) "obj" = some (some (.ref k.D)) := F.find (r := some (.ref k.D)) (by kernel_rfl)
theorem KF.ne : findIn K (.ref k.C) "__ne__" = some (some (.builtin "object.__ne__")) := (F.find (name := Str.ofString "__ne__") (r := none) (by kernel_rfl)).trans (congrArg some (by kernel_rfl))
theorem KF.sat : findIn K (.ref k.C) "__setattr__" = some (some (.builtin "object.__setattr__")) := (F.find (name := Str.ofString "__setattr__") (r := none) (by kernel_rfl)).trans (congrArg some (by kernel_rfl))
theorem KF.gat : findIn K (.ref k.C) "__getattribute__" = some (some (.builtin "object.__getattribute__")) := (F.find (name := Str.ofString "__getattribute__") (r := none) (by kernel_rfl)).trans (congrArg some (by kernel_rfl))
theorem KF.ga : findIn K (.ref k.C) "__getattr__" = some none := (F.find (name := Str.ofString "__getattr__") (r := none) (by kernel_rfl)).trans (congrArg some (by kernel_rfl))
theorem KF.isCls : isClsIn K k.C = true := by unfold isClsIn; rw [F.cls]; rfl
theorem KF.typeD : typeIn K (.ref k.D) = some (.type "member_descriptor") := by
  show (K.lookup k.D).map (·.cls) = _
  rw [F.ld]; rfl
theorem KF.typeC : typeIn K (.ref k.C) = some (.type "type") := by
  show (K.lookup k.C).map (·.cls) = _
  rw [F.lc]; rfl
theorem KF.getD : specialIn K (.ref k.D) "__get__" = some (some (.builtin "member_descriptor.__get__")) := by
  unfold specialIn
  rw [F.typeD, Option.bind_some]
  kernel_rfl
theorem KF.takes : takesIn K (.ref k.D) = some true := by
  unfold takesIn specialIn
  rw [F.typeD, Option.bind_some]
  rw [show findIn K (.type "member_descriptor") "__set__" = some (some (.builtin "member_descriptor.__set__")) by kernel_rfl]
theorem KF.taker : takerIn K k.C "obj" = some (some (.ref k.D)) := by
  unfold takerIn
  rw [F.obj, Option.bind_some]
  dsimp only
  rw [F.takes]; rfl
theorem KF.over : plainOver K k.C = true := by
  unfold plainOver
  rw [F.cls]; rfl
theorem KF.slot : slotIn K k.D k.C = some 0 := by
  unfold slotIn
  have e : recIn K k.D "member_descriptor" = some [Value.str (Str.ofString "obj") k.dt, .ref k.C, .builtin "proto.slot", .builtin "proto.slot#set", rawInt 0] := by
    unfold recIn
    rw [F.ld]; rfl
  rw [e, F.cls]
  simp [rawInt]
theorem KF.makes : makesIn K k.C = true := by
  unfold makesIn
  rw [F.lc]
  have e1 : specialIn K (.ref k.C) "__call__" = some (some (.builtin "type.__call__")) := by
    unfold specialIn
    rw [F.typeC, Option.bind_some]
    kernel_rfl
  have e2 : instIn K (.ref k.C) (.type "type") = some true := by
    unfold instIn
    rw [F.typeC, Option.bind_some]
    kernel_rfl
  simp [clsK, e1, e2]
end
end Mine
end
section
open PySem PySem.W PyProof.Rows
set_option maxRecDepth 100000
set_option maxHeartbeats 1000000
namespace Mine
variable {prog : Program} {w : World} {A : Around} {E : Value → Shared → Prop} {s : Shared} {env : Env}
theorem clo_code {K : Frag} {m : Nat} {a : Addr} {fd : FuncData} {body : List Stmt} {names : List Str} {ds : List Dt} {ρc : List (Str × Dt)} {vals pos : List Value} {kw : List (Str × Value)} {X : List Addr} {RR : Result → Shared → Prop} (CO : CloOk s.heap a fd names) (hbody : fd.body = .stmts body) (R : Rm A (m + 1)) (G : Gd K s.heap) (L : Live s.heap X) (hv : VL s.heap X ds vals)
    (hb : BindsTo s fd ⟨pos, kw⟩ (names.zip vals))
    (hfree : ∀ x, fd.scope.names.lookup x = some .free → ∃ c ov, fd.closure.lookup x = some c ∧ s.heap.IsCell c ov ∧ c ∈ X ∧ ∀ d, ρc.lookup x = some d → ∃ v, ov = some v ∧ V s.heap X d v)
    (hkey : ∀ x d, ρc.lookup x = some d → x ∉ names)
    (hrun : ∀ (env : Env) (E : Value → Shared → Prop) (s' : Shared), CloIn K s s' X fd (names.zip ds ++ ρc) env → Rm (A.deeper env) m → wpAny (model prog w) (A.deeper env) (execs body env) (fun f s'' => RR (.ok (.ret (match f with | .ret v => v | _ => .none))) s'') E s') :
    codeAny (model prog w) A (.call (.ref a) ⟨pos, kw⟩) RR s := by
  refine bc fun nG => ?_
  obtain ⟨o, ho, hd⟩ := CO.obj
  refine nG ?_
  refine codeAny_call_function (by have := R.2.1; lia) ho hd CO.co CO.gen hbody CO.cd ?_
  refine hb _ _ _ _ ?_
  refine clo_env CO G L hv hfree hkey fun env s' CI => codeAny_func ?_
  have R' : Rm (A.deeper env) m := ⟨R.1, by have := R.2.1; show A.depth + 1 + m < _; lia, by have := R.2.2; show A.units + 3 + 100 * m + 200 < _; lia⟩
  exact hrun env _ s' CI R'
noncomputable def Inst (h : Heap) (C x : Addr) (v : Value) : Prop := ∃ dx od, h.get? x = some { cls := .ref C, dict := some dx, data := .plain, slots := #[some v] } ∧ h.get? dx = some od
theorem Inst.ext {h h' : Heap} {C x : Addr} {v : Value} (I : Inst h C x v) (k : Ext h h') : Inst h' C x v := let ⟨dx, od, a, b⟩ := I; ⟨dx, od, k _ _ a, k _ _ b⟩
theorem Inst.out {h h' : Heap} {Z : List Addr} {C x : Addr} {v : Value} (I : Inst h C x v) (k : ∀ b o, b ∉ Z → h.get? b = some o → h'.get? b = some o) (hx : x ∉ Z) (lv : ∀ b ∈ Z, ∃ o, h'.get? b = some o) : Inst h' C x v := by
  obtain ⟨dx, od, a, b⟩ := I
  by_cases q : dx ∈ Z
  · obtain ⟨o, ho⟩ := lv dx q
    exact ⟨dx, o, k _ _ hx a, ho⟩
  · exact ⟨dx, od, k _ _ hx a, k _ _ q b⟩
theorem Inst.at_ {h : Heap} {C x : Addr} {v : Value} (I : Inst h C x v) : ∃ ox od, InstAt h x ox C (some od) ∧ (ox.slots[0]?).join = some v := by
  refine bc fun nG => ?_
  obtain ⟨dx, od, a, b⟩ := I
  refine nG ?_
  exact ⟨_, od, ⟨a, rfl, rfl, b⟩, rfl⟩
theorem rm_under {A : Around} {m : Nat} {C : Addr} {vals : List Value} (R : Rm A (m + 2)) : Rm (A.under (.builtin "type.__call__" ⟨.ref C :: vals, []⟩)) (m + 1) := by
  refine ⟨R.1, ?_, ?_⟩
  · have := R.2.1
    rw [depth_under_kw]; lia
  · have := R.2.2
    have e : (A.under (.builtin "type.__call__" ⟨.ref C :: vals, []⟩)).units = A.units + 1 := by
      show A.units + _ = _
      exact congrArg (A.units + ·) (by kernel_rfl)
    lia
noncomputable def cloB (sc : Scope) (names : List Str) : Bool :=
  (!sc.isCoroutine) && (!sc.isGenerator) && (sc.kind == .function) && decide names.Nodup && (names.all fun x => sc.names.lookup x == some .local) && (sc.names.all fun p => p.2 != .local || names.contains p.1) && (sc.names.all fun p => p.2 != .cell)
theorem CloOk.ofB {h : Heap} {a : Addr} {o : Obj} {fd : FuncData} {names : List Str} (ho : h.get? a = some o) (hd : o.data = .func fd) (gl : fd.globals = mainGlobals) (bl : fd.builtins = builtinsNs) (cd : h.CodeRec fd.code fd.qualname) (hb : cloB fd.scope names = true) : CloOk h a fd names := by
  unfold cloB at hb
  simp only [Bool.and_eq_true, Bool.not_eq_true', beq_iff_eq, decide_eq_true_eq, List.all_eq_true, Bool.or_eq_true, bne_iff_ne] at hb
  refine bc fun nG => ?_
  obtain ⟨⟨⟨⟨⟨⟨h1, h2⟩, h3⟩, h4⟩, h5⟩, h6⟩, h7⟩ := hb
  refine nG ?_
  refine ⟨⟨o, ho, hd⟩, gl, bl, cd, h1, h2, h3, h4, h5, fun x hx => ?_, h7⟩
  rcases h6 _ (mem_of_lookup hx) with q | q
  · exact absurd rfl q
  · simpa using q
theorem key_init (P : Params) {k : KP} {m : Nat} {x dx : Addr} {v : Value} {s₀ : Shared} {RR : Result → Shared → Prop} (R : Rm A (m + 1)) (G : Gd (Kx P) s.heap) (H : KH P s.heap k) (k0 : Ext s₀.heap s.heap) (hsz : s₀.heap.objs.size ≤ s.heap.objs.size) (hx0 : s₀.heap.get? x = Option.none) (hx : s.heap.get? x = some (instObj k.C dx)) (hdx : s.heap.get? dx = some emptyDict) (hdx0 : s₀.heap.get? dx = Option.none)
    (hh : ∀ h tk, Ext s₀.heap h → Inst h k.C x v → RR (.ok (.ret .none)) { s with heap := h, toks := tk }) :
    codeAny (model prog w) A (.call (.ref k.f0) ⟨[.ref x, v], []⟩) RR s := by
  obtain ⟨name, params, body, scope, qual, doc, pm, c₂, oc₂, ctv, a1, a2, a3, a4, a5⟩ := H.m0
  conv at a1 => lhs; whnf
  injection a1 with a1
  injection a1 with e1 a1
  injection a1 with e2 a1
  injection a1 with e3 e4
  subst e1 e2 e3 e4
  refine clo_code (K := Kx P) (m := m) (X := []) (names := [Str.ofString "self", Str.ofString "obj"]) (ds := [.opq (.ref x), .opq v]) (ρc := []) (vals := [.ref x, v]) (CloOk.ofB a2 rfl rfl rfl (a5 _ a3) (by kernel_rfl)) rfl R G (fun a ha => by cases ha) ?_ (BindsTo.of_eq (by kernel_rfl)) ?_ (fun x d e => by simp at e) ?_
  · unfold VL V VL V VL; exact ⟨_, _, rfl, rfl, _, _, rfl, rfl, rfl⟩
  · intro y hy
    exfalso
    have hb : ∀ p ∈ [(Str.ofString "self", NameKind.local), (Str.ofString "obj", NameKind.local)], p.2 ≠ NameKind.free := by simp
    exact hb _ (mem_of_lookup hy) rfl
  intro env E s' CI R'
  obtain ⟨K, hK, F⟩ := (H.ext (Keeps.ext CI.keeps)).frag
  have k1 : Ext s₀.heap s'.heap := Ext.trans k0 (Keeps.ext CI.keeps)
  have hx1 := Keeps.ext CI.keeps _ _ hx
  have hdx1 := Keeps.ext CI.keeps _ _ hdx
  refine wpAny_execs_cons (plainObj_wpAny_Assign_Attribute ?_ rfl)
  refine opq_name (v := v) CI.sc CI.st (by kernel_rfl) (by kernel_rfl) (by kernel_rfl) (by kernel_rfl) ?_
  refine opq_name (v := .ref x) CI.sc CI.st (by kernel_rfl) (by kernel_rfl) (by kernel_rfl) (by kernel_rfl) ?_
  obtain ⟨ml, hml, _⟩ := CI.st.loc
  have hL0 : s₀.heap.objs.size ≤ env.locals := by
    rw [CI.loc]
    exact hsz
  have FF : Fr s₀.heap env.locals s'.heap ml := ⟨hml, k1, hL0⟩
  have I : InstAt s'.heap x (instObj k.C dx) k.C (some emptyDict) := ⟨hx1, rfl, rfl, hdx1⟩
  have hxl : x ≠ env.locals := fun q => by rw [q, CI.fresh] at hx; cases hx
  have hdl : dx ≠ env.locals := fun q => by rw [q, CI.fresh] at hdx; cases hdx
  have NN : News s₀.heap env.locals s'.heap ([] ++ (x, instObj k.C dx) :: [(dx, emptyDict)]) := fun p hp => by
    simp only [List.nil_append, List.mem_cons, List.not_mem_nil, or_false] at hp
    rcases hp with rfl | rfl
    · exact ⟨hx1, hxl, hx0⟩
    · exact ⟨hdx1, hdl, hdx0⟩
  have hxd : dx ≠ x := fun q => by
    rw [q, hx] at hdx
    have := congrArg Obj.cls (Option.some.inj hdx)
    cases this
  refine set_plain hK I F.sat ?_
  refine osa_descr (s := { s' with toks := s'.toks + 1 }) PySem.W.KF.slot_mset hK I F.over F.taker F.typeD ?_
  refine slot_set (s := { s' with toks := s'.toks + 1 }) (ox' := { cls := .ref k.C, dict := some dx, data := .plain, slots := #[some v] }) FF NN hK I F.slot (by decide) (fun p hp => by cases hp) (fun p hp => ?_) (by rfl) rfl fun h' F' N' => ?_
  · rw [List.mem_singleton.mp hp]; exact hxd
  refine wpAny_execs_nil ?_
  dsimp only
  have nx := (N' _ (.head _)).1
  have nd := (N' _ (.tail _ (.head _))).1
  obtain ⟨hp, tt, rfl, _⟩ := CI.keeps
  exact hh h' _ F'.keep ⟨dx, _, nx, nd⟩
theorem key_new (P : Params) {k : KP} {m : Nat} {v : Value} (R : Rm A (m + 2)) (G : Gd (Kx P) s.heap) (H : KH P s.heap k) :
    wpAny (model prog w) A (call (.ref k.C) [v] []) (fun r s' => ∃ x, r = .ref x ∧ Keeps s s' ∧ Inst s'.heap k.C x v) E s := by
  refine bc fun nG => ?_
  obtain ⟨K, hK, F⟩ := H.frag
  refine nG ?_
  refine wpAny_call ?_
  have hf0 := F.fn k.f0 (.head _)
  have ex : Ext s.heap ((s.heap.push emptyDict).push (instObj k.C s.heap.objs.size)) := fun b o e => Heap.get?_push_of_some _ (Heap.get?_push_of_some _ e)
  have hx : ((s.heap.push emptyDict).push (instObj k.C s.heap.objs.size)).get? (s.heap.objs.size + 1) = some (instObj k.C s.heap.objs.size) := by
    rw [← Heap.size_push s.heap emptyDict]; exact Heap.get?_push_size _ rfl
  have hdx : ((s.heap.push emptyDict).push (instObj k.C s.heap.objs.size)).get? s.heap.objs.size = some emptyDict := Heap.get?_push_of_some _ (Heap.get?_push_size _ rfl)
  refine make_core (h := s.heap) (g := s.gens) (d := s.drawn) (t := s.toks) (os := s.os) (makes_of hK F.makes) (looks_findIn hK F.init) (fun self => bind_fn hK self hf0) (.inl rfl) ?_
  refine key_init P (k := k) (m := m) (s₀ := s) (x := s.heap.objs.size + 1) (dx := s.heap.objs.size) (v := v) (rm_under R) (G.ext ex) (H.ext ex) ex (by show _ ≤ ((s.heap.push emptyDict).push _).objs.size; rw [Heap.size_push, Heap.size_push]; lia) (fresh_none _ (by lia)) hx hdx (fresh_none _ (Nat.le_refl _)) fun h tk e I => ⟨rfl, _, rfl, ⟨h, tk, rfl, e⟩, I⟩
end Mine
end
section
open PySem PySem.W PyProof.Rows
set_option maxRecDepth 100000
set_option maxHeartbeats 1000000
namespace Mine
variable {prog : Program} {w : World} {A : Around} {E : Value → Shared → Prop} {s : Shared} {env : Env}
structure Cmp2 (prog : Program) (w : World) (K : Frag) (m : Nat) (Hp : Heap → Prop) (fa : Addr) (cm : Nat → Nat → Int) (n : Nat) : Prop where
  ext : ∀ h h', Ext h h' → Hp h → Hp h'
  fn : ∀ h, Hp h → FnV h (.ref fa)
  run : ∀ (A : Around) (E : Value → Shared → Prop) (s : Shared) (i j : Nat) (t u : Tok), Rm A m → Gd K s.heap → Hp s.heap → i < n → j < n → wpAny (model prog w) A (call (.ref fa) [.int i t, .int j u] []) (fun r s' => Keeps s s' ∧ ∃ t', r = .int (cm i j) t') E s
theorem attr_get {K : Frag} {k : KP} {x : Addr} {v : Value} {expr : Bool} {Q : Value → Shared → Prop} (X : K.In s.heap) (F : KF K k) (I : Inst s.heap k.C x v) (hv : handedIn v = true) (h : Q v { s with toks := s.toks + 1 }) : wpAny (model prog w) A (getAttr (.ref x) "obj" expr) Q E s := by
  refine bc fun nG => ?_
  obtain ⟨ox, od, I', hs⟩ := I.at_
  refine nG ?_
  exact get_bind X I' F.gat (findObj_data F.isCls F.obj F.getD F.takes) F.ga (wpAny_call (slot_get (s := { s with toks := s.toks + 1 }) X I' F.slot hs (handed_on hv h)))
noncomputable def cmpBody (op : CmpOp) (p1 p2 p3 p4 p5 p6 p7 p8 p9 : Pos) (kd : Nat) : List Stmt :=
  [.Return (some (.Compare (.Call (.Name (Str.ofString "mycmp") p1) [.Attribute (.Name (Str.ofString "self") p2) (Str.ofString "obj") p3, .Attribute (.Name (Str.ofString "other") p4) (Str.ofString "obj") p5] [] p6) [op] [.Constant (.int 0) kd p7] p8)) p9]
noncomputable def cmpI : CmpOp → Int → Bool
  | .Lt, a => decide (a < 0)
  | .Gt, a => decide (0 < a)
  | .Eq, a => a == 0
  | .LtE, a => decide (a ≤ 0)
  | .GtE, a => decide (0 ≤ a)
  | _, _ => false
noncomputable def scM : Scope := { kind := .function, names := [(Str.ofString "self", .local), (Str.ofString "other", .local), (Str.ofString "mycmp", .free)], isGenerator := false, isCoroutine := false, more := [] }
theorem cmpI_D {op : CmpOp} {a : Int} (h : op ∈ [CmpOp.Lt, .Gt, .Eq, .LtE, .GtE]) : cmpD op (.int a) (.int 0) = some (cmpI op a) := by
  simp only [List.mem_cons, List.not_mem_nil, or_false] at h
  rcases h with rfl | rfl | rfl | rfl | rfl <;> rfl
theorem meth_run (P : Params) {k : KP} {m n : Nat} {Hp : Heap → Prop} {fa : Addr} {cm : Nat → Nat → Int} {op : CmpOp} {p1 p2 p3 p4 p5 p6 p7 p8 p9 : Pos} {kd : Nat} {f x y c₂ : Addr} {i j : Nat} {t u : Tok} {name qual : Str} {params : Arguments} {doc pm ctv : Value}
    (C : Cmp2 prog w (Kx P) m Hp fa cm n) (hop : op ∈ [CmpOp.Lt, .Gt, .Eq, .LtE, .GtE]) (R : Rm A (m + 1)) (G : Gd (Kx P) s.heap) (H : KH P s.heap k) (hH : Hp s.heap) (hc : s.heap.IsCell k.c (some (.ref fa)))
    (hf : s.heap.get? f = some (fnMade name qual params (cmpBody op p1 p2 p3 p4 p5 p6 p7 p8 p9 kd) scM [(Str.ofString "mycmp", k.c)] doc pm c₂ ctv)) (hr : s.heap.CodeRec (.ref c₂) qual)
    (hbd : ∀ vs, vs = [Value.ref x, .ref y] → BindsTo s (fnX name qual params (cmpBody op p1 p2 p3 p4 p5 p6 p7 p8 p9 kd) scM [(Str.ofString "mycmp", k.c)] .none .none doc pm none (.ref c₂) ctv) ⟨vs, []⟩ ([Str.ofString "self", Str.ofString "other"].zip vs))
    (hx : Inst s.heap k.C x (.int i t)) (hy : Inst s.heap k.C y (.int j u)) (hi : i < n) (hj : j < n) :
    wpAny (model prog w) A (call (.ref f) [.ref x, .ref y] []) (fun r s' => Keeps s s' ∧ r = .bool (cmpI op (cm i j))) E s := by
  have hcl : ∃ o, s.heap.get? k.c = some o := let ⟨o, ho, _⟩ := hc; ⟨o, ho⟩
  refine clo_stmts (K := Kx P) (m := m) (X := [k.c]) (names := [Str.ofString "self", Str.ofString "other"]) (ds := [.opq (.ref x), .opq (.ref y)]) (ρc := [(Str.ofString "mycmp", .opq (.ref fa))]) (vals := [.ref x, .ref y]) (CloOk.ofB hf rfl rfl rfl hr (by kernel_rfl)) rfl R G (fun a ha => by rw [List.mem_singleton.mp ha]; exact hcl) ?_ (hbd _ rfl) ?_ ?_ ?_
  · unfold VL V VL V VL; exact ⟨_, _, rfl, rfl, _, _, rfl, rfl, rfl⟩
  · intro z hz
    have hz' : z = Str.ofString "mycmp" := by
      have hm := mem_of_lookup hz
      have : (z, NameKind.free) ∈ [(Str.ofString "self", NameKind.local), (Str.ofString "other", .local), (Str.ofString "mycmp", .free)] := hm
      simp only [List.mem_cons, Prod.mk.injEq, List.not_mem_nil, or_false] at this
      rcases this with ⟨_, q⟩ | ⟨_, q⟩ | ⟨q, _⟩
      · cases q
      · cases q
      · exact q
    subst hz'
    refine ⟨k.c, _, by kernel_rfl, hc, .head _, fun d e => ?_⟩
    have e' : some (Dt.opq (.ref fa)) = some d := by rw [← e]; kernel_rfl
    cases e'
    exact ⟨_, rfl, by unfold V; rfl⟩
  · intro z d e
    rw [List.lookup_cons] at e
    cases hz : z == Str.ofString "mycmp" with
    | true => rw [beq_iff_eq.mp hz]; decide +kernel
    | false => rw [hz] at e; cases e
  intro env E s' CI R'
  refine wpAny_execs_cons (wpAny_Return_some ?_)
  have he : Ext s.heap s'.heap := Keeps.ext CI.keeps
  have hmk : ev cf0 2 scM.names [] (.Constant (.int 0) kd p7) = some (.int 0) := by rw [ev_const]; rfl
  have ok : ∀ s'' : Shared, Ext s'.heap s''.heap → ∃ K, K.In s''.heap ∧ KF K k ∧ Inst s''.heap k.C x (.int i t) ∧ Inst s''.heap k.C y (.int j u) := fun s'' e => by
    refine bc fun nG => ?_
    obtain ⟨K, hK, F⟩ := (H.ext (Ext.trans he e)).frag
    refine nG ?_
    exact ⟨K, hK, F, hx.ext (Ext.trans he e), hy.ext (Ext.trans he e)⟩
  have nm : ∀ (s'' : Shared), Keeps s' s'' → EnvOk s''.heap (env.locals :: [k.c]) env ([Str.ofString "self", Str.ofString "other"].zip [Dt.opq (.ref x), .opq (.ref y)] ++ [(Str.ofString "mycmp", .opq (.ref fa))]) := fun s'' q => CI.st.ext (Keeps.ext q)
  refine wpAny_Compare1 (Q := fun v s'' => ∃ v', Flow.ret v = .ret v' ∧ Keeps s s'' ∧ v' = .bool (cmpI op (cm i j))) ?_ (noMarks hmk op)
  refine wpAny_Call_Name_kw (opq_name (v := .ref fa) CI.sc (nm s' (Keeps.refl' _)) (by kernel_rfl) (by kernel_rfl) (by kernel_rfl) (by kernel_rfl) ?_)
  refine callWith_of (P := fun h => Ext s'.heap h) rfl (fun h hK => ((C.fn h (C.ext _ _ (Ext.trans he hK) hH)).keeps)) ?_
  refine evalArgs_any rfl rfl (PySem.Calls.spliced_cons ?_)
  refine Attribute_any_ (opq_name (v := .ref x) CI.sc (nm s' (Keeps.refl' _)) (by kernel_rfl) (by kernel_rfl) (by kernel_rfl) (by kernel_rfl) ?_) (by rfl)
  refine bc fun nG => ?_
  obtain ⟨K, hK, F, ix, iy⟩ := ok s' (Ext.refl _)
  refine nG ?_
  refine attr_get hK F ix rfl ?_
  have k1 : Keeps s' { s' with toks := s'.toks + 1 } := Keeps.tok _
  refine PySem.Calls.spliced_cons ?_
  refine Attribute_any_ (opq_name (v := .ref y) CI.sc (nm _ k1) (by kernel_rfl) (by kernel_rfl) (by kernel_rfl) (by kernel_rfl) ?_) (by rfl)
  refine attr_get (s := { s' with toks := s'.toks + 1 }) hK F iy rfl ?_
  have k2 : Keeps s' { s' with toks := s'.toks + 1 + 1 } := Keeps.tok _
  refine PySem.Calls.spliced_nil (wpAny_evalAll_nil ⟨Ext.refl _, ?_⟩)
  refine wpAny_mono (C.run _ _ { s' with toks := s'.toks + 1 + 1 } i j t u R' CI.gd (C.ext _ _ he hH) hi hj) (fun r s₂ q => ?_) fun _ _ x => x
  refine bc fun nG => ?_
  obtain ⟨k3, t', rfl⟩ := q
  refine nG ?_
  refine wpAny_Constant_int ?_
  have k4 : Keeps s { s₂ with toks := s₂.toks + 1 } := Keeps.trans' CI.keeps (Keeps.trans' k2 (Keeps.trans' k3 (Keeps.tok _)))
  exact cmpD_sound (X := []) (cmpI_D hop) (by unfold V; exact ⟨_, rfl⟩) (by unfold V; exact ⟨_, rfl⟩) R'.units ⟨_, rfl, k4, rfl⟩
end Mine
end
section
open PySem PySem.W PyProof.Rows
set_option maxRecDepth 100000
set_option maxHeartbeats 1000000
namespace Mine
variable {prog : Program} {w : World} {A : Around} {E : Value → Shared → Prop} {s : Shared} {env : Env}
theorem rich_own {C x y : Addr} {ox oy : Obj} {op : CmpOp} {Q : Value → Shared → Prop} (hu : A.units < cLine) (hx : s.heap.get? x = some ox) (cx : ox.cls = .ref C) (hy : s.heap.get? y = some oy) (cy : oy.cls = .ref C)
    (h : wpAny (model prog w) A (tryCompare (.ref x) (cmpInfo op).2.1 (.ref y)) (fun r s' => ∃ v, r = some v ∧ Q v s') E s) : wpAny (model prog w) A (richCompare op (.ref x) (.ref y)) Q E s := by
  have t1 : Looks (model prog w) s.heap (typeOf (.ref x)) (.ref C) := by rw [← cx]; exact (Looks.ld hx).andThen .now
  have t2 : Looks (model prog w) s.heap (typeOf (.ref y)) (.ref C) := by rw [← cy]; exact (Looks.ld hy).andThen .now
  unfold richCompare
  simp only [oneThing_ref]
  refine wpAny_holding (wpAny_bind (wpAny_cRoomFor hu ?_))
  refine wpAny_bind (t1.here (wpAny_bind (t2.here ?_)))
  rw [if_neg (by simp)]
  refine wpAny_bind (wpAny_pure ?_)
  simp only [Bool.false_eq_true, if_false]
  refine wpAny_bind (wpAny_mono h (fun r s' z => ?_) fun _ _ e => e)
  obtain ⟨v, rfl, hq⟩ := z
  exact wpAny_pure hq
theorem try_own {K : Frag} {C x f : Addr} {ox : Obj} {od : Option Obj} {name : Str} {b : Value} {Q : Value → Shared → Prop} (X : K.In s.heap) (I : InstAt s.heap x ox C od) (hs : findIn K (.ref C) name = some (some (.ref f))) (hf : isFn K (.ref f) = true)
    (h : wpAny (model prog w) A (call (.ref f) [.ref x, b]) (fun v s' => (∃ c, v = .bool c) ∧ Q v s') E s) : wpAny (model prog w) A (tryCompare (.ref x) name b) (fun r s' => ∃ v, r = some v ∧ Q v s') E s := by
  unfold tryCompare
  refine wpAny_bind (ifBound_K X I hs hf (wpAny_mono h (fun v s' hv => ?_) fun _ _ e => e))
  obtain ⟨⟨c, rfl⟩, hq⟩ := hv
  exact wpAny_pure ⟨_, rfl, hq⟩
theorem KF.isFn {K : Frag} {k : KP} (F : KF K k) {f : Addr} (hf : f ∈ [k.f0, k.f1, k.f2, k.f3, k.f4, k.f5]) : PySem.W.isFn K (.ref f) = true := by
  unfold PySem.W.isFn
  rw [F.fn f hf]; rfl
theorem meth_call (P : Params) {k : KP} {m n : Nat} {Hp : Heap → Prop} {fa : Addr} {cm : Nat → Nat → Int} {op : CmpOp} {x y f : Addr} {i j idx : Nat} {t u : Tok}
    (C : Cmp2 prog w (Kx P) m Hp fa cm n) (hop : (op, idx, f) ∈ [(CmpOp.Lt, 3, k.f1), (.Gt, 4, k.f2), (.Eq, 5, k.f3), (.LtE, 6, k.f4), (.GtE, 7, k.f5)]) (R : Rm A (m + 1)) (G : Gd (Kx P) s.heap) (H : KH P s.heap k) (hH : Hp s.heap) (hc : s.heap.IsCell k.c (some (.ref fa)))
    (hx : Inst s.heap k.C x (.int i t)) (hy : Inst s.heap k.C y (.int j u)) (hi : i < n) (hj : j < n) :
    wpAny (model prog w) A (call (.ref f) [.ref x, .ref y] []) (fun r s' => Keeps s s' ∧ r = .bool (cmpI op (cm i j))) E s := by
  simp only [List.mem_cons, Prod.mk.injEq, List.not_mem_nil, or_false] at hop
  rcases hop with ⟨rfl, rfl, rfl⟩ | ⟨rfl, rfl, rfl⟩ | ⟨rfl, rfl, rfl⟩ | ⟨rfl, rfl, rfl⟩ | ⟨rfl, rfl, rfl⟩
  · obtain ⟨name, params, body, scope, qual, doc, pm, c₂, oc₂, ctv, a1, a2, a3, a4, a5⟩ := H.m1
    conv at a1 => lhs; whnf
    injection a1 with a1; injection a1 with e1 a1; injection a1 with e2 a1; injection a1 with e3 e4
    subst e1 e2 e3 e4
    exact meth_run P (op := .Lt) C (by simp) R G H hH hc a2 (a5 _ a3) (fun vs e => by subst e; exact BindsTo.of_eq (by kernel_rfl)) hx hy hi hj
  · obtain ⟨name, params, body, scope, qual, doc, pm, c₂, oc₂, ctv, a1, a2, a3, a4, a5⟩ := H.m2
    conv at a1 => lhs; whnf
    injection a1 with a1; injection a1 with e1 a1; injection a1 with e2 a1; injection a1 with e3 e4
    subst e1 e2 e3 e4
    exact meth_run P (op := .Gt) C (by simp) R G H hH hc a2 (a5 _ a3) (fun vs e => by subst e; exact BindsTo.of_eq (by kernel_rfl)) hx hy hi hj
  · obtain ⟨name, params, body, scope, qual, doc, pm, c₂, oc₂, ctv, a1, a2, a3, a4, a5⟩ := H.m3
    conv at a1 => lhs; whnf
    injection a1 with a1; injection a1 with e1 a1; injection a1 with e2 a1; injection a1 with e3 e4
    subst e1 e2 e3 e4
    exact meth_run P (op := .Eq) C (by simp) R G H hH hc a2 (a5 _ a3) (fun vs e => by subst e; exact BindsTo.of_eq (by kernel_rfl)) hx hy hi hj
  · obtain ⟨name, params, body, scope, qual, doc, pm, c₂, oc₂, ctv, a1, a2, a3, a4, a5⟩ := H.m4
    conv at a1 => lhs; whnf
    injection a1 with a1; injection a1 with e1 a1; injection a1 with e2 a1; injection a1 with e3 e4
    subst e1 e2 e3 e4
    exact meth_run P (op := .LtE) C (by simp) R G H hH hc a2 (a5 _ a3) (fun vs e => by subst e; exact BindsTo.of_eq (by kernel_rfl)) hx hy hi hj
  · obtain ⟨name, params, body, scope, qual, doc, pm, c₂, oc₂, ctv, a1, a2, a3, a4, a5⟩ := H.m5
    conv at a1 => lhs; whnf
    injection a1 with a1; injection a1 with e1 a1; injection a1 with e2 a1; injection a1 with e3 e4
    subst e1 e2 e3 e4
    exact meth_run P (op := .GtE) C (by simp) R G H hH hc a2 (a5 _ a3) (fun vs e => by subst e; exact BindsTo.of_eq (by kernel_rfl)) hx hy hi hj
end Mine
end
section
open PySem PySem.W PyProof.Rows
set_option maxRecDepth 100000
set_option maxHeartbeats 1000000
namespace Mine
variable {prog : Program} {w : World} {A : Around} {E : Value → Shared → Prop} {s : Shared} {env : Env}
theorem slot_ne : Slot "object" "__ne__" "object.__ne__" := .of (owner := "object") (n := "__ne__") (by rw [typeLookup_type, builtinLookup_eq_fast]; kernel_rfl) (by decide +kernel) (by decide +kernel) (by decide +kernel)
    (.inl (by decide +kernel)) (by rw [isSubtype_type]; kernel_rfl)
theorem entry_ne : entryFor table "object.__ne__" = some Builtin.«object.__ne__» := entryFor_of_tree (by kernel_rfl)
theorem kind_ne : builtinKind "object.__ne__" = some .slot := by decide +kernel
theorem split_ne : splitId "object.__ne__" = some ("object", "__ne__") := by decide +kernel
theorem args_ne (a b : Value) : argsOk "object.__ne__" ⟨[a, b], []⟩ := by unfold argsOk; kernel_rfl
theorem sa_ne (a b : Value) : slotArgs "__ne__" 1 ⟨[a, b], []⟩ = pure (a, [b]) := by first | rfl | kernel_rfl
theorem ifBound_B {K : Frag} {C x : Addr} {ox : Obj} {od : Option Obj} {name : Str} {id : String} {args : List Value} {Q : Option Value → Shared → Prop} (X : K.In s.heap) (I : InstAt s.heap x ox C od) (hs : findIn K (.ref C) name = some (some (.builtin id))) (hb : bindSpecial (.builtin id) (.ref x) = pure (.builtin id, [.ref x]))
    (h : wpAny (model prog w) A (call (.builtin id) ([.ref x] ++ args) []) (fun v => Q (some v)) E s) : wpAny (model prog w) A (callSpecialIfBound? (.ref x) name args) Q E s := by
  simp only [callSpecialIfBound?, bindSpecialIfBound?]
  refine wpAny_holding (wpAny_bind (wpAny_bind (wpAny_bind (I.type.here ((looks_findIn X hs).here ?_)))))
  refine wpAny_bind (wpAny_askSetting (wpAny_ite ?_))
  have fin : wpAny (model prog w) A (call (.builtin id) ([.ref x] ++ args) >>= fun v => pure (some v)) Q E s := wpAny_bind (wpAny_mono h (fun v s' h' => wpAny_pure h') fun _ _ h' => h')
  rw [hb]
  split
  · exact wpAny_bind (wpAny_pure (wpAny_pure fin))
  · exact wpAny_tryCatch (wpAny_bind (wpAny_pure (wpAny_pure fin)))
noncomputable def cmpN : CmpOp → Int → Bool
  | .NotEq, a => !cmpI .Eq a
  | op, a => cmpI op a
theorem key_try (P : Params) {k : KP} {m n : Nat} {Hp : Heap → Prop} {fa : Addr} {cm : Nat → Nat → Int} {op : CmpOp} {x y : Addr} {i j : Nat} {t u : Tok}
    (C : Cmp2 prog w (Kx P) m Hp fa cm n) (hop : op ∈ [CmpOp.Lt, .Gt, .LtE, .GtE, .Eq, .NotEq]) (R : Rm A (m + 2)) (G : Gd (Kx P) s.heap) (H : KH P s.heap k) (hH : Hp s.heap) (hc : s.heap.IsCell k.c (some (.ref fa)))
    (hx : Inst s.heap k.C x (.int i t)) (hy : Inst s.heap k.C y (.int j u)) (hi : i < n) (hj : j < n) :
    wpAny (model prog w) A (tryCompare (.ref x) (cmpInfo op).2.1 (.ref y)) (fun r s' => ∃ v, r = some v ∧ Keeps s s' ∧ v = .bool (cmpN op (cm i j))) E s := by
  obtain ⟨K, hK, F⟩ := H.frag
  obtain ⟨ox, od, I, hs⟩ := hx.at_
  have R1 : Rm A (m + 1) := R.mono (by lia)
  simp only [List.mem_cons, List.not_mem_nil, or_false] at hop
  rcases hop with rfl | rfl | rfl | rfl | rfl | rfl
  · exact try_own hK I F.lt (F.isFn (by simp)) (wpAny_mono (meth_call P C (op := .Lt) (idx := 3) (by simp) R1 G H hH hc hx hy hi hj) (fun v s' q => ⟨⟨_, q.2⟩, q⟩) fun _ _ x => x)
  · exact try_own hK I F.gt (F.isFn (by simp)) (wpAny_mono (meth_call P C (op := .Gt) (idx := 4) (by simp) R1 G H hH hc hx hy hi hj) (fun v s' q => ⟨⟨_, q.2⟩, q⟩) fun _ _ x => x)
  · exact try_own hK I F.le (F.isFn (by simp)) (wpAny_mono (meth_call P C (op := .LtE) (idx := 6) (by simp) R1 G H hH hc hx hy hi hj) (fun v s' q => ⟨⟨_, q.2⟩, q⟩) fun _ _ x => x)
  · exact try_own hK I F.ge (F.isFn (by simp)) (wpAny_mono (meth_call P C (op := .GtE) (idx := 7) (by simp) R1 G H hH hc hx hy hi hj) (fun v s' q => ⟨⟨_, q.2⟩, q⟩) fun _ _ x => x)
  · exact try_own hK I F.eq (F.isFn (by simp)) (wpAny_mono (meth_call P C (op := .Eq) (idx := 5) (by simp) R1 G H hH hc hx hy hi hj) (fun v s' q => ⟨⟨_, q.2⟩, q⟩) fun _ _ x => x)
  · have hobj : Looks (model prog w) s.heap (isInstance (.ref x) (.type "object")) true := by
      refine I.type.andThen (looks_mroIn hK ?_)
      unfold mroIn
      rw [F.cls, Option.bind_some, if_neg (by simp)]
      simp
    have inner : ∀ A' : Around, A'.units < cLine → Rm A' (m + 1) → ∀ E', wpAny (model prog w) A' (Builtin.«object.__ne__» ⟨[.ref x, .ref y], []⟩) (fun fin s' => ∃ v, fin = .done (.ret v) ∧ Keeps s s' ∧ v = .bool (cmpN .NotEq (cm i j))) E' s := by
      intro A' hu RA E'
      unfold Builtin.«object.__ne__»
      rw [sa_ne]
      refine wpAny_bind (wpAny_pure ?_)
      dsimp only
      refine wpAny_bind (wpAny_cRoomFor hu ?_)
      refine wpAny_bind (ifBound_K hK I F.eq (F.isFn (by simp)) (mono2 (meth_call P C (op := .Eq) (idx := 5) (by simp) RA G H hH hc hx hy hi hj) fun v s' q qq1 => ?_))
      obtain rfl := qq1
      dsimp only
      refine wpAny_bind (wpAny_truthy_bool (wpAny_pure ⟨_, rfl, q, rfl⟩))
    have hcall : ∀ A' : Around, A' = A → wpAny (model prog w) A' (call (.builtin "object.__ne__") ([.ref x] ++ [.ref y]) []) (fun v s' => Keeps s s' ∧ v = .bool (cmpN .NotEq (cm i j))) E s := by
      rintro A' rfl
      refine wpAny_call (codeAny_call_builtin slot_ne.plain entry_ne (check_slot (rest := [.ref y]) (kw := []) kind_ne split_ne hobj (args_ne _ _) ?_))
      refine wpAny_mono (inner A'.in1 (by have := R.2.2; show A'.units + 1 < _; lia) ⟨R1.1, R1.2.1, by have := R.2.2; show A'.units + 1 + 100 * (m + 1) + 200 < _; lia⟩ _) (fun fin s' q => ?_) fun _ _ x => x
      obtain ⟨v, rfl, q1, rfl⟩ := q
      exact ⟨q1, rfl⟩
    unfold tryCompare
    refine wpAny_bind (ifBound_B hK I F.ne (slot_ne.bind _) (mono2 (hcall A rfl) fun v s' q qq1 => ?_))
    obtain rfl := qq1
    exact wpAny_pure ⟨_, rfl, q, rfl⟩
theorem key_rich (P : Params) {k : KP} {m n : Nat} {Hp : Heap → Prop} {fa : Addr} {cm : Nat → Nat → Int} {op : CmpOp} {x y : Addr} {i j : Nat} {t u : Tok}
    (C : Cmp2 prog w (Kx P) m Hp fa cm n) (hop : op ∈ [CmpOp.Lt, .Gt, .LtE, .GtE, .Eq, .NotEq]) (R : Rm A (m + 2)) (G : Gd (Kx P) s.heap) (H : KH P s.heap k) (hH : Hp s.heap) (hc : s.heap.IsCell k.c (some (.ref fa)))
    (hx : Inst s.heap k.C x (.int i t)) (hy : Inst s.heap k.C y (.int j u)) (hi : i < n) (hj : j < n) :
    wpAny (model prog w) A (compareOp op (.ref x) (.ref y)) (fun v s' => Keeps s s' ∧ v = .bool (cmpN op (cm i j))) E s := by
  have h := rich_own (prog := prog) (w := w) (A := A) (E := E) (Q := fun v s' => Keeps s s' ∧ v = .bool (cmpN op (cm i j))) (C := k.C) (op := op) (by have := R.2.2; lia) hx.choose_spec.choose_spec.1 rfl hy.choose_spec.choose_spec.1 rfl (key_try P C hop R G H hH hc hx hy hi hj)
  simp only [List.mem_cons, List.not_mem_nil, or_false] at hop
  rcases hop with rfl | rfl | rfl | rfl | rfl | rfl <;> exact h
theorem key_lt (P : Params) {k : KP} {m n : Nat} {Hp : Heap → Prop} {fa : Addr} {cm : Nat → Nat → Int} {x y : Addr} {i j : Nat} {t u : Tok}
    (C : Cmp2 prog w (Kx P) m Hp fa cm n) (R : Rm A (m + 2)) (G : Gd (Kx P) s.heap) (H : KH P s.heap k) (hH : Hp s.heap) (hc : s.heap.IsCell k.c (some (.ref fa)))
    (hx : Inst s.heap k.C x (.int i t)) (hy : Inst s.heap k.C y (.int j u)) (hi : i < n) (hj : j < n) :
    wpAny (model prog w) A (keyLt' oneType' (.ref x) (.ref y)) (fun c s' => Keeps s s' ∧ c = decide (cm i j < 0)) E s := by
  refine bc fun nG => ?_
  obtain ⟨K, hK, F⟩ := H.frag
  obtain ⟨ox, od, I, hs⟩ := hx.at_
  refine nG ?_
  rw [keyLt'_oneType, oneLt'_eq]
  simp only [if_true]
  refine wpAny_bind (wpAny_cRoomFor (by have := R.2.2; lia) ?_)
  refine wpAny_bind (ifBound_K hK I F.lt (F.isFn (by simp)) (mono2 (meth_call P C (op := .Lt) (idx := 3) (by simp) (R.mono (by lia)) G H hH hc hx hy hi hj) fun v s' q qq1 => ?_))
  obtain rfl := qq1
  exact wpAny_truthy_bool ⟨q, rfl⟩
end Mine
end
section
open PySem PySem.W PyProof.Rows
set_option maxRecDepth 100000
set_option maxHeartbeats 1000000
namespace Mine
variable {prog : Program} {w : World} {A : Around} {E : Value → Shared → Prop} {s : Shared} {env : Env}
noncomputable def askI (a : Int) : List Dt := [.bool (cmpN .Lt a), .bool (cmpN .Gt a), .bool (cmpN .LtE a), .bool (cmpN .GtE a), .bool (cmpN .Eq a), .bool (cmpN .NotEq a)]
theorem bind161 (P : Params) {s : Shared} {v u : Value} (X : (Kx P).In s.heap) : BindsTo s (fdAt (Kx P) 161) ⟨[v, u], []⟩ ([Str.ofString "one", Str.ofString "two"].zip [v, u]) := by
  have e : ∀ S, peek (Kx P) S (bindArgs (fdAt (Kx P) 161) ⟨[v, u], []⟩) = some ([Str.ofString "one", Str.ofString "two"].zip [v, u]) := by
    intro S
    kernel_rfl
  generalize fdAt (Kx P) 161 = fd at e ⊢
  exact kp_binds X e
theorem asked_keys (P : Params) {k : KP} {m n : Nat} {Hp : Heap → Prop} {fa : Addr} {cm : Nat → Nat → Int} {x y : Addr} {i j : Nat} {t u : Tok} {X : List Addr}
    (C : Cmp2 prog w (Kx P) m Hp fa cm n) (R : Rm A (m + 3)) (G : Gd (Kx P) s.heap) (L : Live s.heap X) (H : KH P s.heap k) (hH : Hp s.heap) (hc : s.heap.IsCell k.c (some (.ref fa)))
    (hx : Inst s.heap k.C x (.int i t)) (hy : Inst s.heap k.C y (.int j u)) (hi : i < n) (hj : j < n) :
    wpAny (model prog w) A (call (.ref 161) [.ref x, .ref y] []) (fun r s' => Keeps s s' ∧ V s'.heap X (.list (askI (cm i j))) r) E s := by
  have FO : FnOk (Kx P) 161 (fdAt (Kx P) 161) (bodyAt (Kx P) 161) [Str.ofString "one", Str.ofString "two"] := FnOk.of (by kernel_rfl)
  refine fn_enter (m := m + 2) (ds := [.opq (.ref x), .opq (.ref y)]) (vals := [.ref x, .ref y]) FO R G L (by unfold VL V VL V VL; exact ⟨_, _, rfl, rfl, _, _, rfl, rfl, rfl⟩) (@bind161 P s _ _ G.kin) ?_
  intro env E s' F
  have hS := F.sc
  have hN : ∀ s'' : Shared, Keeps s' s'' → EnvOk s''.heap (Wr env Option.none ++ X) env ([Str.ofString "one", Str.ofString "two"].zip [Dt.opq (.ref x), .opq (.ref y)]) := fun s'' q => F.st.env.ext (Keeps.ext q)
  have l1 : isLoc (fdAt (Kx P) 161).scope.names (Str.ofString "one") = true := by kernel_rfl
  have l2 : isLoc (fdAt (Kx P) 161).scope.names (Str.ofString "two") = true := by kernel_rfl
  have ks := F.keeps
  have gd' := F.gd
  have rm' := F.rm
  have cmp1 : ∀ (op : CmpOp) (p1 p2 p3 : Pos) (s'' : Shared), op ∈ [CmpOp.Lt, .Gt, .LtE, .GtE, .Eq, .NotEq] → Keeps s' s'' →
      wpAny (model prog w) (A.deeper env) (eval (.Compare (.Name (Str.ofString "one") p1) [op] [.Name (Str.ofString "two") p2] p3) env) (fun v s3 => Keeps s'' s3 ∧ v = .bool (cmpN op (cm i j))) E s'' := by
    intro op p1 p2 p3 s'' hop q
    refine wpAny_Compare1 ?_ (by simp only [List.mem_cons, List.not_mem_nil, or_false] at hop; rcases hop with rfl | rfl | rfl | rfl | rfl | rfl <;> rfl)
    refine opq_name (v := .ref x) hS (hN _ q) l1 (by kernel_rfl) (by kernel_rfl) (by kernel_rfl) ?_
    refine opq_name (v := .ref y) hS (hN _ q) l2 (by kernel_rfl) (by kernel_rfl) (by kernel_rfl) ?_
    have e := Ext.trans (Keeps.ext ks) (Keeps.ext q)
    obtain ⟨oc, ho, hd⟩ := hc
    exact key_rich P C hop rm' (gd'.ext (Keeps.ext q)) (H.ext e) (C.ext _ _ e hH) ⟨oc, e _ _ ho, hd⟩ (hx.ext e) (hy.ext e) hi hj
  have spl : ∀ (op : CmpOp) (p1 p2 p3 : Pos) (es : List Expr) (pos : Pos) (vs : List Value) (s'' : Shared) (Q : List Value → Shared → Prop), op ∈ [CmpOp.Lt, .Gt, .LtE, .GtE, .Eq, .NotEq] → Keeps s' s'' →
      (∀ s3, Keeps s' s3 → wpAny (model prog w) (A.deeper env) (spliced (backTo pos (starEach es env))) (fun vs s4 => Q (.bool (cmpN op (cm i j)) :: vs) s4) E s3) →
      wpAny (model prog w) (A.deeper env) (spliced (backTo pos (starEach (.Compare (.Name (Str.ofString "one") p1) [op] [.Name (Str.ofString "two") p2] p3 :: es) env))) Q E s'' := by
    intro op p1 p2 p3 es pos vs s'' Q hop q h
    refine PySem.Calls.spliced_cons (mono2 (cmp1 op p1 p2 p3 s'' hop q) fun v s3 z qq1 => ?_)
    obtain rfl := qq1
    exact h s3 (Keeps.trans' q z)
  clear cmp1
  conv => arg 3; arg 1; whnf
  refine wpAny_execs_cons (wpAny_Return_some (PyProof.Rows.List_ ?_))
  refine spl .Lt _ _ _ _ _ [] s' _ (by simp) (Keeps.refl' _) fun s1 k1 => ?_
  refine spl .Gt _ _ _ _ _ [] s1 _ (by simp) k1 fun s2 k2 => ?_
  refine spl .LtE _ _ _ _ _ [] s2 _ (by simp) k2 fun s3 k3 => ?_
  refine spl .GtE _ _ _ _ _ [] s3 _ (by simp) k3 fun s4 k4 => ?_
  refine spl .Eq _ _ _ _ _ [] s4 _ (by simp) k4 fun s5 k5 => ?_
  refine spl .NotEq _ _ _ _ _ [] s5 _ (by simp) k5 fun s6 k6 => ?_
  refine PySem.Calls.spliced_nil ?_
  have kk : Keeps s s6 := Keeps.trans' ks k6
  refine wpAny_newList ⟨_, rfl, Keeps.trans' kk (Keeps.of_heap fun b o e => Heap.get?_push_of_some _ e), ?_⟩ (by rw [sizeLine_eq]; simp)
  exact list_push (L.ext (Keeps.ext kk)) (by simp [askI, VL, V])
end Mine
end
section
open PySem PySem.W PyProof.Rows
set_option maxRecDepth 100000
set_option maxHeartbeats 1000000
namespace Mine
open PySem.SeqAt AutoSeq1 MeetsSeq MeetsSeq2 MeetsSeq3
noncomputable def pairLt (b : List UInt8) (i : Int) (c : List UInt8) (j : Int) : Bool := if b == c then decide (i < j) else (Builtin.Bytes.order b c == .lt)
section
variable (l r : Addr) (b c : List UInt8) (i j : Int) (t1 t2 u1 u2 : Tok) (n n2 : Nat) (dd dd2 : Option Addr) (sl sl2 : Array (Option Value))
noncomputable def pl (b : List UInt8) (t1 : Tok) (i : Int) (t2 : Tok) : Array Value := #[.bytes b.toArray t1, .int i t2]
theorem pl0 {xs : Array Value} (h : xs = pl b t1 i t2) : xs[((0 : Nat) : Int).toNat]? = some (.bytes b.toArray t1) := by rw [h]; rfl
theorem pl1 {xs : Array Value} (h : xs = pl b t1 i t2) : xs[((1 : Nat) : Int).toNat]? = some (.int i t2) := by rw [h]; rfl
theorem pl2 {xs : Array Value} (h : xs = pl b t1 i t2) : xs[((2 : Nat) : Int).toNat]? = none := by rw [h]; rfl
variable (xs ys : Array Value) (hxs : xs = pl b t1 i t2) (hys : ys = pl c u1 j u2)
include hxs hys
theorem plt_2 : Meets (Builtin.«list.__eq__.loop» ⟨[.ref l, .ref r, rawInt ((2 : Nat) : Int), rawInt 0], []⟩)
      (fun _ R s => s.heap.get? l = some { cls := .type "list", dict := dd, data := .seq xs n, slots := sl } ∧ s.heap.get? r = some { cls := .type "list", dict := dd2, data := .seq ys n2, slots := sl2 } ∧
        R (.ok (.ret (.bool false))) s) := by
  intro prog w A R s h
  obtain ⟨hp, g, d, tk, os⟩ := s; obtain ⟨hl, hb, h⟩ := h
  wp_walk using wpAny_loadPart' hl, wpAny_loadPart' hb
  rw [pl2 b i t1 t2 hxs, pl2 c j u1 u2 hys]
  wp_walk using wpAny_loadPart' hl, wpAny_loadPart' hb
  show R (.ok (.ret (.bool (decide (xs.size < ys.size))))) _
  rw [hxs, hys]
  exact h
theorem plt_1 : Meets (Builtin.«list.__eq__.loop» ⟨[.ref l, .ref r, rawInt ((1 : Nat) : Int), rawInt 0], []⟩)
      (fun _ R s => s.heap.get? l = some { cls := .type "list", dict := dd, data := .seq xs n, slots := sl } ∧ s.heap.get? r = some { cls := .type "list", dict := dd2, data := .seq ys n2, slots := sl2 } ∧
        R (.ok (.ret (.bool (decide (i < j))))) s) := by
  intro prog w A R s h
  obtain ⟨hp, g, d, tk, os⟩ := s; obtain ⟨hl, hb, h⟩ := h
  wp_walk using wpAny_loadPart' hl, wpAny_loadPart' hb
  rw [pl1 b i t1 t2 hxs, pl1 c j u1 u2 hys]
  refine wpAny_bind (EqAt.int_int i t2 j u2 prog w _ _ ?_)
  cases hb' : (i == j) with
  | true =>
    have e : i = j := by simpa using hb'
    wp_walk
    exact ⟨plainId_quiet plain_eq_loop _, codeAny_builtin entry_eq_loop (by
        rw [Around.under_plainId plain_eq_loop _]
        exact plt_2 l r b c i j t1 t2 u1 u2 n n2 dd dd2 sl sl2 xs ys hxs hys prog w A R _ ⟨hl, hb, by rw [show decide (i < j) = false by simp [e]] at h; exact h⟩)⟩
  | false =>
    wp_walk using wpAny_loadPart' hl, wpAny_loadPart' hb
    rw [pl1 b i t1 t2 hxs, pl1 c j u1 u2 hys]
    dsimp only
    refine wpAny_bind (show wpAny (model prog w) A.in1 (richCompare .Lt (.int i t2) (.int j u2)) _ _ _ from PyProof.Rows.lt_int ?_)
    exact wpAny_pure h
theorem plt_0 : Meets (Builtin.«list.__eq__.loop» ⟨[.ref l, .ref r, rawInt ((0 : Nat) : Int), rawInt 0], []⟩)
      (fun _ R s => s.heap.get? l = some { cls := .type "list", dict := dd, data := .seq xs n, slots := sl } ∧ s.heap.get? r = some { cls := .type "list", dict := dd2, data := .seq ys n2, slots := sl2 } ∧
        R (.ok (.ret (.bool (pairLt b i c j)))) s) := by
  intro prog w A R s h
  obtain ⟨hp, g, d, tk, os⟩ := s; obtain ⟨hl, hb, h⟩ := h
  wp_walk using wpAny_loadPart' hl, wpAny_loadPart' hb
  rw [pl0 b i t1 t2 hxs, pl0 c j u1 u2 hys]
  refine wpAny_bind (eqAt_bytes b c t1 u1 prog w _ _ ?_)
  unfold pairLt at h
  cases hb' : (b == c) with
  | true =>
    rw [hb', if_pos rfl] at h
    wp_walk
    exact ⟨plainId_quiet plain_eq_loop _, codeAny_builtin entry_eq_loop (by
        rw [Around.under_plainId plain_eq_loop _]
        exact plt_1 l r b c i j t1 t2 u1 u2 n n2 dd dd2 sl sl2 xs ys hxs hys prog w A R _ ⟨hl, hb, h⟩)⟩
  | false =>
    rw [hb', if_neg (by simp)] at h
    wp_walk using wpAny_loadPart' hl, wpAny_loadPart' hb
    rw [pl0 b i t1 t2 hxs, pl0 c j u1 u2 hys]
    dsimp only
    refine wpAny_bind (show wpAny (model prog w) A.in1 (richCompare .Lt (.bytes b.toArray t1) (.bytes c.toArray u1)) _ _ _ from lt_bytesR ?_)
    exact wpAny_pure h
theorem plt : Meets (Builtin.«list.__lt__» ⟨[.ref l, .ref r], []⟩)
      (fun _ R s => s.heap.get? l = some { cls := .type "list", dict := dd, data := .seq xs n, slots := sl } ∧ s.heap.get? r = some { cls := .type "list", dict := dd2, data := .seq ys n2, slots := sl2 } ∧
        R (.ok (.ret (.bool (pairLt b i c j)))) s) := by
  intro prog w A R s h
  obtain ⟨hp, g, d, tk, os⟩ := s; obtain ⟨hl, hb, h⟩ := h
  have f3 := AutoSeq1.sub_list_list
  wp_walk using wpAny_loadPart' hl, wpAny_loadPart' hb
  exact ⟨plainId_quiet plain_eq_loop _, codeAny_builtin entry_eq_loop (by
    rw [Around.under_plainId plain_eq_loop _]
    exact plt_0 l r b c i j t1 t2 u1 u2 n n2 dd dd2 sl sl2 xs ys hxs hys prog w A R _ ⟨hl, hb, h⟩)⟩
end
variable {prog : Program} {w : World} {A : Around} {E : Value → Shared → Prop} {s : Shared}
theorem list_lt {l r : Addr} {b c : List UInt8} {i j : Int} {t1 t2 u1 u2 : Tok} {Q : Bool → Shared → Prop} (hu : A.units < cLine) (hl : s.heap.IsList l (pl b t1 i t2)) (hr : s.heap.IsList r (pl c u1 j u2)) (h : Q (pairLt b i c j) s) :
    wpAny (model prog w) A (keyLt' oneType' (.ref l) (.ref r)) Q E s := by
  obtain ⟨⟨cls, dd, data, sl⟩, ho, hc, n, hd⟩ := id hl
  obtain ⟨⟨cls2, dd2, data2, sl2⟩, ho2, hc2, n2, hd2⟩ := id hr
  simp only at hc hd hc2 hd2
  subst hc hd hc2 hd2
  rw [keyLt'_oneType, oneLt'_eq]
  simp only [if_true]
  refine wpAny_bind (wpAny_cRoomFor hu ?_)
  refine wpAny_bind (wpAny_callSpecialIfBound?_slot (T := "list") ⟨_, ho, rfl⟩ F.slot_list_lt (call_meets F.slot_list_lt ⟨_, ho, rfl⟩ F.entry_list_lt (F.args_list_lt_2 _ _) (plt l r b c i j t1 t2 u1 u2 n n2 dd dd2 sl sl2 _ _ rfl rfl) ⟨ho, ho2, ?_⟩))
  exact wpAny_truthy_bool h
end Mine
end
section
open PySem PySem.W PyProof.Rows
namespace Mine
structure Swo (lt : Nat → Nat → Bool) : Prop where
  asym : ∀ i j, lt i j = true → lt j i = false
  cot : ∀ i j k, lt i k = true → lt i j = true ∨ lt j k = true
noncomputable def RR (lt : Nat → Nat → Bool) (i j : Nat) : Prop := lt i j = true ∨ (lt j i = false ∧ i < j)
variable {lt : Nat → Nat → Bool}
theorem RR.no (S : Swo lt) {i j : Nat} (h : RR lt i j) : lt j i = false := h.elim (S.asym _ _) (·.1)
theorem RR.trans (S : Swo lt) {i j k : Nat} (h : RR lt i j) (g : RR lt j k) : RR lt i k := by
  rcases h with h | ⟨h, hij⟩ <;> rcases g with g | ⟨g, hjk⟩
  · rcases S.cot i k j h with q | q
    · exact .inl q
    · rw [S.asym _ _ g] at q; cases q
  · rcases S.cot i k j h with q | q
    · exact .inl q
    · rw [g] at q; cases q
  · rcases S.cot j i k g with q | q
    · rw [h] at q; cases q
    · exact .inl q
  · refine .inr ⟨?_, by lia⟩
    cases e : lt k i with
    | false => rfl
    | true =>
      rcases S.cot k j i e with q | q
      · rw [g] at q; cases q
      · rw [h] at q; cases q
theorem RR.irr (S : Swo lt) {i : Nat} (h : RR lt i i) : False := by
  rcases h with h | ⟨_, h⟩
  · have := S.asym _ _ h; rw [h] at this; cases this
  · lia
noncomputable def KW (n : Nat) (lt : Nat → Nat → Bool) {α : Type} : KasT α → (α → Prop) → Prop
  | .ret a, Q => Q a
  | .ask i j k, Q => i < n ∧ j < n ∧ KW n lt (k (lt i j)) Q
theorem KW.bind {n : Nat} {α β : Type} {f : α → KasT β} {Q : β → Prop} : ∀ {t : KasT α}, KW n lt t (fun a => KW n lt (f a) Q) → KW n lt (t.bind f) Q
  | .ret _, h => h
  | .ask _ _ _, h => ⟨h.1, h.2.1, KW.bind h.2.2⟩
theorem KW.mono {n : Nat} {α : Type} {Q Q' : α → Prop} (hq : ∀ a, Q a → Q' a) : ∀ {t : KasT α}, KW n lt t Q → KW n lt t Q'
  | .ret _, h => hq _ h
  | .ask _ _ _, h => ⟨h.1, h.2.1, KW.mono hq h.2.2⟩
theorem KW.run {n : Nat} {α : Type} {Q : α → Prop} {G : α → Shared → Prop} {I : Shared → Prop} {cmp : Nat → Nat → (Bool → Shared → Prop) → Shared → Prop}
    (hc : ∀ i j C s, i < n → j < n → I s → (∀ s', I s' → C (lt i j) s') → cmp i j C s) (hG : ∀ a s, Q a → I s → G a s) : ∀ {t : KasT α} {s : Shared}, KW n lt t Q → I s → t.kasWp cmp G s
  | .ret _, s, h, hI => hG _ _ h hI
  | .ask i j k, s, h, hI => hc i j _ s h.1 h.2.1 hI fun s' hI' => KW.run hc hG h.2.2 hI'
noncomputable abbrev gp (p : Array Nat) (k : Nat) : Nat := p.getD k 0
theorem gp_eq (p : Array Nat) (k : Nat) : gp p k = (p[k]?).getD 0 := by simp [gp]
structure ST (n : Nat) (p : Array Nat) (m : Nat) : Prop where
  sz : p.size = n
  pm : p.Perm (List.range n).toArray
  lo : ∀ k, k < m → gp p k < m
  hi : ∀ k, m ≤ k → k < n → gp p k = k
theorem ST.succ {n m : Nat} {p : Array Nat} (h : ST n p m) (hm : m < n) : ST n p (m + 1) where
  sz := h.sz
  pm := h.pm
  lo := fun k hk => by
    by_cases e : k < m
    · exact Nat.lt_succ_of_lt (h.lo k e)
    · obtain rfl : k = m := Nat.le_antisymm (Nat.le_of_lt_succ hk) (Nat.not_lt.mp e)
      rw [h.hi k (Nat.le_refl _) hm]; exact Nat.lt_succ_self k
  hi := fun k hk hn => h.hi k (Nat.le_of_succ_le hk) hn
theorem ST.more {n m : Nat} {p : Array Nat} (h : ST n p m) : ∀ d, m + d ≤ n → ST n p (m + d)
  | 0, _ => h
  | d + 1, hd => (ST.more h d (Nat.le_of_succ_le hd)).succ hd
theorem ST.bnd {n m k : Nat} {p : Array Nat} (h : ST n p m) (hm : m ≤ n) (hk : k < n) : gp p k < n := by
  by_cases e : k < m
  · exact Nat.lt_of_lt_of_le (h.lo k e) hm
  · rw [h.hi k (Nat.not_lt.mp e) hk]; exact hk
theorem le_pred {a b : Nat} (h : a < b) : a ≤ b - 1 := Nat.le_sub_one_of_lt h
theorem pred_lt' {b : Nat} (h : 1 ≤ b) : b - 1 < b := Nat.sub_lt h Nat.one_pos
theorem pos_lt {i b : Nat} (h : i < b) : 1 ≤ b := Nat.lt_of_le_of_lt (Nat.zero_le _) h
theorem eqlast {j b : Nat} (h : j < b + 1) (e : ¬ j < b) : j = b := Nat.le_antisymm (Nat.le_of_lt_succ h) (Nat.not_lt.mp e)
theorem ltpred {i b : Nat} (h : i < b) (e : ¬ i = b - 1) : i < b - 1 := Nat.lt_of_le_of_ne (le_pred h) e
theorem no_ {a k : Nat} {P : Prop} (h1 : a ≤ k) (h2 : k < a) : P := absurd h2 (Nat.not_lt.mpr h1)
theorem fuel {a f n : Nat} (h : a + (f + 1) = n) : a + 1 + f = n := (Nat.succ_add_eq_add_succ a f).trans h
theorem fuel_lt {a f n : Nat} (h : a + (f + 1) = n) : a < n := h ▸ Nat.lt_add_of_pos_right (Nat.succ_pos f)
theorem pred_lt_of {a n : Nat} (h : a < n) : a - 1 < n := Nat.lt_of_le_of_lt (Nat.sub_le a 1) h
theorem mir_top {a b : Nat} : b - 1 ≤ a + b - 1 := Nat.sub_le_sub_right (Nat.le_add_left b a) 1
theorem mir {a b j : Nat} (h1 : a ≤ j) (h2 : j < b) : a ≤ a + b - 1 - j ∧ a + b - 1 - j < b := by
  have e : a + b - 1 = a + (b - 1) := Nat.add_sub_assoc (pos_lt h2) a
  rw [e, Nat.add_sub_assoc (le_pred h2)]
  refine ⟨Nat.le_add_right _ _, ?_⟩
  rw [← Nat.add_sub_assoc (le_pred h2)]
  exact Nat.lt_of_le_of_lt (Nat.sub_le_sub_left h1 _) (by rw [Nat.add_sub_cancel_left]; exact pred_lt' (pos_lt h2))
theorem mir_lt {a b i j : Nat} (h : i < j) (h2 : j < b) : a + b - 1 - j < a + b - 1 - i := Nat.sub_lt_sub_left (Nat.lt_of_lt_of_le (Nat.lt_of_lt_of_le h (le_pred h2)) mir_top) h
theorem mir_end {a b : Nat} (h : 1 ≤ b) : a + b - 1 - (b - 1) = a := by rw [Nat.sub_sub, Nat.add_sub_of_le h, Nat.add_sub_cancel]
theorem mid {l r : Nat} (h : ¬ r ≤ l) : l ≤ (l + r) / 2 ∧ (l + r) / 2 < r := by lia
theorem gp_rev {p : Array Nat} {i j : Nat} (hj : j ≤ p.size) (k : Nat) : gp (kas_rev p i j) k = if i ≤ k ∧ k < j then gp p (i + j - 1 - k) else gp p k := by
  rw [gp_eq, gp_eq, gp_eq]
  unfold kas_rev
  rw [getElem?_mirror_all hj]
  split <;> rfl
theorem ST.rev {n m i j : Nat} {p : Array Nat} (h : ST n p m) (hj : j ≤ m) (hm : m ≤ n) : ST n (kas_rev p i j) m where
  sz := by unfold kas_rev; rw [mirror_size]; exact h.sz
  pm := by unfold kas_rev; exact (mirror_perm _ _ _ _).trans h.pm
  lo := fun k hk => by
    rw [gp_rev (by rw [h.sz]; exact Nat.le_trans hj hm)]
    split
    · rename_i q
      exact h.lo _ (Nat.lt_of_lt_of_le (mir q.1 q.2).2 hj)
    · exact h.lo _ hk
  hi := fun k hk hn => by
    rw [gp_rev (by rw [h.sz]; exact Nat.le_trans hj hm), if_neg fun q => Nat.not_lt.mpr hk (Nat.lt_of_lt_of_le q.2 hj)]
    exact h.hi k hk hn
noncomputable def Asc (lt : Nat → Nat → Bool) (p : Array Nat) (b : Nat) : Prop := ∀ i j, i < j → j < b → RR lt (gp p i) (gp p j)
noncomputable def Dsc (lt : Nat → Nat → Bool) (p : Array Nat) (b : Nat) : Prop := ∀ i j, i < j → j < b → RR lt (gp p j) (gp p i)
theorem Asc.succ (S : Swo lt) {p : Array Nat} {b : Nat} (h : Asc lt p b) (hb : 1 ≤ b) (q : RR lt (gp p (b - 1)) (gp p b)) : Asc lt p (b + 1) := by
  intro i j hij hj
  by_cases e : j < b
  · exact h i j hij e
  · have : j = b := eqlast hj e
    subst this
    by_cases e2 : i = j - 1
    · rw [e2]; exact q
    · exact (h i (j - 1) (ltpred hij e2) (pred_lt' hb)).trans S q
theorem asc_spec {n : Nat} {p : Array Nat} {m : Nat} (T : ST n p m) (hm : m ≤ n) : ∀ (f a : Nat), 1 ≤ a → a + f = n →
    KW n lt (kas_asc p f a) (fun r => a ≤ r ∧ r ≤ n ∧ (∀ k, a ≤ k → k < r → lt (gp p k) (gp p (k - 1)) = false) ∧ (r < n → lt (gp p r) (gp p (r - 1)) = true))
  | 0, a, _, h2 => ⟨Nat.le_refl _, Nat.le_of_eq h2, fun k h3 h4 => no_ h3 h4, fun h => absurd h2 (Nat.ne_of_lt h)⟩
  | f + 1, a, h1, h2 => by
    unfold kas_asc
    refine ⟨T.bnd hm (fuel_lt h2), T.bnd hm (pred_lt_of (fuel_lt h2)), ?_⟩
    cases e : lt (p.getD a 0) (p.getD (a - 1) 0) with
    | true =>
      simp only [if_true]
      exact ⟨Nat.le_refl _, Nat.le_of_lt (fuel_lt h2), fun k h3 h4 => no_ h3 h4, fun _ => e⟩
    | false =>
      simp only [Bool.false_eq_true, if_false]
      refine KW.mono (fun r hr => ?_) (asc_spec T hm f (a + 1) (Nat.le_succ_of_le h1) (fuel h2))
      obtain ⟨q1, q2, q3, q4⟩ := hr
      refine ⟨Nat.le_of_succ_le q1, q2, fun k h3 h4 => ?_, q4⟩
      by_cases e2 : k = a
      · rw [e2]; exact e
      · exact q3 k (Nat.lt_of_le_of_ne h3 (Ne.symm e2)) h4
theorem asc_more (S : Swo lt) {n : Nat} {p : Array Nat} {m : Nat} (T : ST n p m) (A : Asc lt p m) (hm : 1 ≤ m) : ∀ (d : Nat), m + d ≤ n → (∀ k, m ≤ k → k < m + d → lt (gp p k) (gp p (k - 1)) = false) → Asc lt p (m + d)
  | 0, _, _ => A
  | d + 1, hd, h => by
    have ih := asc_more S T A hm d (Nat.le_of_succ_le hd) fun k h1 h2 => h k h1 (Nat.lt_succ_of_lt h2)
    refine Asc.succ (b := m + d) S ih (Nat.le_trans hm (Nat.le_add_right m d)) (.inr ⟨h (m + d) (Nat.le_add_right m d) (Nat.lt_succ_self _), ?_⟩)
    have T' := T.more d (Nat.le_of_succ_le hd)
    rw [T'.hi (m + d) (Nat.le_refl _) hd]
    exact T'.lo _ (pred_lt' (Nat.le_trans hm (Nat.le_add_right m d)))
structure DI (lt : Nat → Nat → Bool) (N : Nat) (p : Array Nat) (n q : Nat) : Prop where
  st : ST N p n
  q1 : q + 1 ≤ n
  n1 : n ≤ N
  out : ∀ i j, i < j → j < n - (q + 1) → RR lt (gp p j) (gp p i)
  cross : ∀ i j, i < n - (q + 1) → n - (q + 1) ≤ j → j < n → lt (gp p j) (gp p i) = true
  blk : ∀ i j, n - (q + 1) ≤ i → i < j → j < n → lt (gp p i) (gp p j) = false ∧ lt (gp p j) (gp p i) = false ∧ gp p i < gp p j
theorem DI.dsc0 {N n : Nat} {p : Array Nat} (D : DI lt N p n 0) : Dsc lt p n := fun i j hij hj => by
  by_cases e : j < n - 1
  · exact D.out i j hij e
  · exact .inl (D.cross i j (Nat.lt_of_lt_of_le hij (le_pred hj)) (Nat.not_lt.mp e) hj)
theorem DI.rev (S : Swo lt) {N n q : Nat} {p : Array Nat} (D : DI lt N p n q) : ST N (kas_rev p (n - (q + 1)) n) n ∧ Dsc lt (kas_rev p (n - (q + 1)) n) n ∧ gp (kas_rev p (n - (q + 1)) n) (n - 1) = gp p (n - (q + 1)) := by
  obtain ⟨hst, q1, n1, out, cross, blk⟩ := D
  have hs : n ≤ p.size := by rw [hst.sz]; exact n1
  obtain ⟨a, ha⟩ : ∃ a, n - (q + 1) = a := ⟨_, rfl⟩
  have han : a < n := by rw [← ha]; exact Nat.sub_lt (Nat.lt_of_lt_of_le (Nat.succ_pos q) q1) (Nat.succ_pos q)
  rw [ha] at out cross blk ⊢
  refine ⟨hst.rev (Nat.le_refl _) n1, fun i j hij hj => ?_, ?_⟩
  · rw [gp_rev hs, gp_rev hs]
    by_cases e1 : j < a
    · rw [if_neg fun q => Nat.not_le.mpr e1 q.1, if_neg fun q => Nat.not_le.mpr (Nat.lt_trans hij e1) q.1]
      exact out i j hij e1
    · have e1 := Nat.not_lt.mp e1
      have m1 := mir e1 hj
      rw [if_pos ⟨e1, hj⟩]
      by_cases e2 : i < a
      · rw [if_neg fun q => Nat.not_le.mpr e2 q.1]
        exact .inl (cross _ _ e2 m1.1 m1.2)
      · have e2 := Nat.not_lt.mp e2
        have hi := Nat.lt_trans hij hj
        rw [if_pos ⟨e2, hi⟩]
        obtain ⟨u, b, c⟩ := blk _ _ m1.1 (mir_lt hij hj) (mir e2 hi).2
        exact .inr ⟨b, c⟩
  · have hn1 := Nat.lt_of_le_of_lt (Nat.zero_le a) han
    rw [gp_rev hs, if_pos ⟨le_pred han, pred_lt' hn1⟩, mir_end hn1]
theorem DI.start (S : Swo lt) {N n : Nat} {p : Array Nat} (T : ST N p n) (D : Dsc lt p n) (hn : 1 ≤ n) (hN : n < N) (h : lt (gp p n) (gp p (n - 1)) = true) : DI lt N p (n + 1) 0 where
  st := T.succ hN
  q1 := Nat.succ_le_succ (Nat.zero_le n)
  n1 := hN
  out := fun i j hij hj => D i j hij hj
  cross := fun i j hi hj1 hj2 => by
    have : j = n := Nat.le_antisymm (Nat.le_of_lt_succ hj2) hj1
    subst this
    by_cases e : i = j - 1
    · rw [e]; exact h
    · have r := D i (j - 1) (ltpred hi e) (pred_lt' hn)
      rcases S.cot (gp p j) (gp p i) (gp p (j - 1)) h with q | q
      · exact q
      · rw [r.no S] at q; cases q
  blk := fun i j h1 h2 h3 => no_ (show n ≤ i from h1) (Nat.lt_of_lt_of_le h2 (Nat.le_of_lt_succ h3))
theorem desc_spec (S : Swo lt) {N : Nat} : ∀ (f : Nat) (p : Array Nat) (n q : Nat), DI lt N p n q → n + f = N → KW N lt (kas_desc f p n q) (fun r => DI lt N r.1 r.2.1 r.2.2)
  | 0, p, n, q, D, _ => D
  | f + 1, p, n, q, D, hf => by
    have hq := D.q1
    have hnN := fuel_lt hf
    have h1n : 1 ≤ n := Nat.le_trans (Nat.succ_le_succ (Nat.zero_le q)) hq
    unfold kas_desc
    refine ⟨D.st.bnd D.n1 hnN, D.st.bnd D.n1 (pred_lt_of hnN), ?_⟩
    cases e : lt (p.getD n 0) (p.getD (n - 1) 0) with
    | true =>
      simp only [if_true]
      split
      · obtain ⟨a, b, c⟩ := D.rev S
        refine desc_spec S f _ _ _ (DI.start S a b h1n hnN ?_) (fuel hf)
        rw [c, gp_rev (by rw [D.st.sz]; exact D.n1), if_neg fun q => Nat.lt_irrefl n q.2]
        by_cases eq : q = 0
        · subst eq; exact e
        · obtain ⟨u, v, x⟩ := D.blk (n - (q + 1)) (n - 1) (Nat.le_refl _) (by lia) (pred_lt' h1n)
          rcases S.cot _ (gp p (n - (q + 1))) _ e with q | q
          · exact q
          · rw [u] at q; cases q
      · have : q = 0 := by lia
        subst this
        exact desc_spec S f _ _ _ (DI.start S D.st D.dsc0 h1n hnN e) (fuel hf)
    | false =>
      simp only [Bool.false_eq_true, if_false]
      refine ⟨D.st.bnd D.n1 (pred_lt_of hnN), D.st.bnd D.n1 hnN, ?_⟩
      cases e2 : lt (p.getD (n - 1) 0) (p.getD n 0) with
      | true => simp only [if_true]; exact D
      | false =>
        simp only [Bool.false_eq_true, if_false]
        have eq : n + 1 - (q + 1 + 1) = n - (q + 1) := Nat.add_sub_add_right n 1 (q + 1)
        refine desc_spec S f _ _ _ ⟨D.st.succ hnN, Nat.succ_le_succ hq, hnN, fun i j hij hj => D.out i j hij (eq ▸ hj), fun i j hi hj1 hj2 => ?_, fun i j h1 h2 h3 => ?_⟩ (fuel hf)
        · rw [eq] at hi hj1
          by_cases ej : j < n
          · exact D.cross i j hi hj1 ej
          · have : j = n := eqlast hj2 ej
            subst this
            have c := D.cross i (j - 1) hi (Nat.sub_le_sub_left (Nat.succ_le_succ (Nat.zero_le q)) j) (pred_lt' h1n)
            rcases S.cot _ (gp p j) _ c with q | q
            · rw [show lt (gp p (j - 1)) (gp p j) = false from e2] at q; cases q
            · exact q
        · rw [eq] at h1
          by_cases ej : j < n
          · exact D.blk i j h1 h2 ej
          · have : j = n := eqlast h3 ej
            subst this
            have hlt : gp p i < gp p j := by
              rw [D.st.hi j (Nat.le_refl _) hnN]; exact D.st.lo i h2
            by_cases ei : i = j - 1
            · subst ei; exact ⟨e2, e, hlt⟩
            · obtain ⟨u, v, x⟩ := D.blk i (j - 1) h1 (ltpred h2 ei) (pred_lt' h1n)
              refine ⟨?_, ?_, hlt⟩
              · cases q : lt (gp p i) (gp p j) with
                | false => rfl
                | true =>
                  rcases S.cot _ (gp p (j - 1)) _ q with z | z
                  · rw [u] at z; cases z
                  · rw [show lt (gp p (j - 1)) (gp p j) = false from e2] at z; cases z
              · cases q : lt (gp p j) (gp p i) with
                | false => rfl
                | true =>
                  rcases S.cot _ (gp p (j - 1)) _ q with z | z
                  · rw [show lt (gp p j) (gp p (j - 1)) = false from e] at z; cases z
                  · rw [v] at z; cases z
structure Run (lt : Nat → Nat → Bool) (N : Nat) (r : Nat × Array Nat) : Prop where
  st : ST N r.2 r.1
  asc : Asc lt r.2 r.1
  pos : 1 ≤ r.1
  le : r.1 ≤ N
theorem tail_spec (S : Swo lt) {N n : Nat} {p : Array Nat} (T : ST N p n) (D : Dsc lt p n) (h1 : 1 ≤ n) (hN : n ≤ N) : KW N lt (kas_tail3 n N p) (Run lt N) := by
  unfold kas_tail3
  have T' : ST N (kas_rev p 0 n) n := T.rev (Nat.le_refl _) hN
  have A' : Asc lt (kas_rev p 0 n) n := fun i j hij hj => by
    rw [gp_rev (by rw [T.sz]; exact hN), gp_rev (by rw [T.sz]; exact hN), if_pos ⟨Nat.zero_le _, Nat.lt_trans hij hj⟩, if_pos ⟨Nat.zero_le _, hj⟩]
    exact D _ _ (mir_lt hij hj) (mir (Nat.zero_le _) (Nat.lt_trans hij hj)).2
  refine KW.bind (KW.mono (fun m hm => ?_) (asc_spec T' hN (N - n) n h1 (Nat.add_sub_of_le hN)))
  obtain ⟨a, b, c, _⟩ := hm
  obtain ⟨d, rfl⟩ := Nat.le.dest a
  exact ⟨T'.more d b, asc_more S T' A' h1 d b c, Nat.le_trans h1 (Nat.le_add_right n d), b⟩
theorem descPart_spec (S : Swo lt) {N n : Nat} {p : Array Nat} (T : ST N p n) (D : Dsc lt p n) (h1 : 1 ≤ n) (hN : n < N) (h : lt (gp p n) (gp p (n - 1)) = true) : KW N lt (kas_descPart n N p) (Run lt N) := by
  unfold kas_descPart
  refine KW.bind (KW.mono (fun r hr => ?_) (desc_spec S _ _ _ _ (DI.start S T D h1 hN h) (Nat.add_sub_of_le hN)))
  obtain ⟨p', n', q'⟩ := r
  dsimp only at hr ⊢
  have hq := hr.q1
  split
  · obtain ⟨a, b, _⟩ := hr.rev S
    exact tail_spec S a b (Nat.le_trans (Nat.succ_le_succ (Nat.zero_le _)) hq) hr.n1
  · have : q' = 0 := by lia
    subst this
    exact tail_spec S hr.st hr.dsc0 hq hr.n1
theorem gp_range {N k : Nat} (h : k < N) : gp (List.range N).toArray k = k := by
  rw [gp_eq]
  simp [h]
theorem st_range (N : Nat) : ST N (List.range N).toArray 1 ∨ N = 0 := by
  by_cases h : N = 0
  · exact .inr h
  · refine .inl ⟨by simp, Array.Perm.refl _, fun k hk => ?_, fun k _ hk => gp_range hk⟩
    rw [gp_range (by lia)]; exact hk
theorem count_spec (S : Swo lt) {N : Nat} (hN : 1 ≤ N) : KW N lt (kas_count N (List.range N).toArray) (Run lt N) := by
  have T : ST N (List.range N).toArray 1 := (st_range N).resolve_right fun q => absurd hN (by rw [q]; decide)
  have A : Asc lt (List.range N).toArray 1 := fun i j hij hj => absurd (Nat.lt_of_lt_of_le hij (Nat.le_of_lt_succ hj)) (Nat.not_lt_zero i)
  unfold kas_count
  refine KW.bind (KW.mono (fun r hr => ?_) (asc_spec T hN (N - 1) 1 (Nat.le_refl 1) (Nat.add_sub_of_le hN)))
  obtain ⟨a, b, c, d⟩ := hr
  obtain ⟨e, he⟩ := Nat.le.dest a
  have T' : ST N (List.range N).toArray r := by have := T.more e (Nat.le_trans (Nat.le_of_eq he) b); rwa [he] at this
  have A' : Asc lt (List.range N).toArray r := by have := asc_more S T A (Nat.le_refl 1) e (Nat.le_trans (Nat.le_of_eq he) b) fun k h1 h2 => c k h1 (he ▸ h2); rwa [he] at this
  split
  · exact ⟨T', A', a, b⟩
  · rename_i hne
    have hr : r < N := by
      exact Nat.lt_of_le_of_ne b (by simpa using hne)
    have hst := d hr
    split
    · rename_i h1
      refine ⟨T'.bnd b (pos_lt hr), T'.bnd b (pred_lt_of hr), ?_⟩
      cases e : lt ((List.range N).toArray.getD 0 0) ((List.range N).toArray.getD (r - 1) 0) with
      | true => simp only [if_true]; exact ⟨T', A', a, b⟩
      | false =>
        simp only [Bool.false_eq_true, if_false]
        have e' : lt 0 (r - 1) = false := by rw [← gp_range (N := N) (k := 0) (pos_lt hr), ← gp_range (N := N) (k := r - 1) (pred_lt_of hr)]; exact e
        have R' : ∀ i j, i < j → j < r → RR lt i j := fun i j h1 h2 => by
          have := A' i j h1 h2
          rwa [gp_range (Nat.lt_trans (Nat.lt_trans h1 h2) hr), gp_range (Nat.lt_trans h2 hr)] at this
        have alike : ∀ i j, i < j → j < r → lt i j = false := fun i j h1 h2 => by
          cases q : lt i j with
          | false => rfl
          | true =>
            have h0 : lt 0 j = true := by
              by_cases ei : i = 0
              · rw [← ei]; exact q
              · rcases S.cot i 0 j q with z | z
                · rw [(R' 0 i (Nat.pos_of_ne_zero ei) (Nat.lt_trans h1 h2)).no S] at z; cases z
                · exact z
            by_cases ej : j = r - 1
            · rw [ej, e'] at h0; cases h0
            · rcases S.cot 0 (r - 1) j h0 with z | z
              · rw [e'] at z; cases z
              · rw [(R' j (r - 1) (ltpred h2 ej) (pred_lt' a)).no S] at z; cases z
        have hsz : r ≤ (List.range N).toArray.size := by rw [List.size_toArray, List.length_range]; exact b
        refine descPart_spec S (T'.rev (Nat.le_refl _) b) (fun i j hij hj => ?_) a hr ?_
        · rw [gp_rev hsz, gp_rev hsz, if_pos ⟨Nat.zero_le _, hj⟩, if_pos ⟨Nat.zero_le _, Nat.lt_trans hij hj⟩, gp_range (Nat.lt_trans (mir (Nat.zero_le _) hj).2 hr), gp_range (Nat.lt_trans (mir (Nat.zero_le _) (Nat.lt_trans hij hj)).2 hr)]
          exact R' _ _ (mir_lt hij hj) (mir (Nat.zero_le _) (Nat.lt_trans hij hj)).2
        · rw [gp_rev hsz, gp_rev hsz, if_neg fun q => Nat.lt_irrefl r q.2, if_pos ⟨Nat.zero_le _, pred_lt' a⟩, gp_range hr, gp_range (Nat.lt_trans (mir (Nat.zero_le _) (pred_lt' a)).2 hr)]
          rw [gp_range hr, gp_range (pred_lt_of hr)] at hst
          rcases S.cot _ (0 + r - 1 - (r - 1)) _ hst with z | z
          · exact z
          · rw [show 0 + r - 1 - (r - 1) = 0 from mir_end a, e'] at z; cases z
    · have h1 : r = 1 := by lia
      subst h1
      exact descPart_spec S T' (fun i j hij hj => absurd (Nat.lt_of_lt_of_le hij (Nat.le_of_lt_succ hj)) (Nat.not_lt_zero i)) (Nat.le_refl 1) hr hst
theorem place_spec (S : Swo lt) {N k : Nat} {p : Array Nat} (T : ST N p k) (A : Asc lt p k) (hk : k < N) : ∀ (f l r : Nat), r - l ≤ f → l ≤ r → r ≤ k → (∀ i, i < l → lt (gp p k) (gp p i) = false) → (∀ i, r ≤ i → i < k → lt (gp p k) (gp p i) = true) →
    KW N lt (kas_place p k f l r) (fun x => x ≤ k ∧ (∀ i, i < x → lt (gp p k) (gp p i) = false) ∧ (∀ i, x ≤ i → i < k → lt (gp p k) (gp p i) = true))
  | 0, l, r, h1, h2, h3, h4, h5 => ⟨Nat.le_trans h2 h3, h4, fun i a b => h5 i (Nat.le_trans (Nat.le_of_sub_eq_zero (Nat.le_zero.mp h1)) a) b⟩
  | f + 1, l, r, h1, h2, h3, h4, h5 => by
    unfold kas_place
    split
    · rename_i hlr
      exact ⟨Nat.le_trans h2 h3, h4, fun i a b => h5 i (Nat.le_trans hlr a) b⟩
    · rename_i hlr
      obtain ⟨g1, g2⟩ := mid hlr
      have g3 : (l + r) / 2 < k := Nat.lt_of_lt_of_le g2 h3
      refine ⟨T.bnd (Nat.le_of_lt hk) hk, T.bnd (Nat.le_of_lt hk) (Nat.lt_trans g3 hk), ?_⟩
      generalize (l + r) / 2 = md at g1 g2 g3 ⊢
      cases e : lt (p.getD k 0) (p.getD md 0) with
      | true =>
        simp only [if_true]
        refine place_spec S T A hk f _ _ (by lia) g1 (Nat.le_of_lt g3) h4 fun i a b => ?_
        by_cases ei : i = md
        · rw [ei]; exact e
        · rcases S.cot _ (gp p i) _ e with z | z
          · exact z
          · rw [(A _ i (Nat.lt_of_le_of_ne a (Ne.symm ei)) b).no S] at z; cases z
      | false =>
        simp only [Bool.false_eq_true, if_false]
        refine place_spec S T A hk f _ _ (by lia) g2 h3 (fun i a => ?_) h5
        by_cases ei : i = md
        · rw [ei]; exact e
        · cases q : lt (gp p k) (gp p i) with
          | false => rfl
          | true =>
            rcases S.cot _ (gp p md) _ q with z | z
            · rw [show lt (gp p k) (gp p md) = false from e] at z; cases z
            · rw [(A i md (Nat.lt_of_le_of_ne (Nat.le_of_lt_succ a) ei) g3).no S] at z; cases z
theorem gp_bubble {p : Array Nat} {k l : Nat} (hk : k < p.size) (hl : l ≤ k) (i : Nat) : gp (bubble p k (k - l)) i = if i = l then gp p k else if l < i ∧ i ≤ k then gp p (i - 1) else gp p i := by
  rw [gp_eq, getElem?_bubble hk _ (by lia), show k - (k - l) = l by lia]
  by_cases h1 : i = l
  · rw [if_pos h1, if_pos h1, gp_eq]
  · rw [if_neg h1, if_neg h1]
    by_cases h2 : l < i ∧ i ≤ k
    · rw [if_pos h2, if_pos h2, gp_eq]
    · rw [if_neg h2, if_neg h2, gp_eq]
theorem bin_spec (S : Swo lt) {N : Nat} : ∀ (f : Nat) (p : Array Nat) (k : Nat), ST N p k → Asc lt p k → 1 ≤ k → k + f = N → KW N lt (kas_bin f p k) (fun p' => ST N p' N ∧ Asc lt p' N)
  | 0, p, k, T, A, _, h => by
    obtain rfl : k = N := h
    exact ⟨T, A⟩
  | f + 1, p, k, T, A, h1, h => by
    unfold kas_bin
    refine KW.bind (KW.mono (fun l hl => ?_) (place_spec S T A (fuel_lt h) k 0 k (Nat.sub_le k 0) (Nat.zero_le k) (Nat.le_refl _) (fun i a => absurd a (Nat.not_lt_zero i)) (fun i a b => no_ a b)))
    obtain ⟨q1, q2, q3⟩ := hl
    have hkN := fuel_lt h
    have hs : k < p.size := by rw [T.sz]; exact hkN
    have hpk := T.hi k (Nat.le_refl _) hkN
    refine bin_spec S f _ _ ⟨by rw [bubble_size]; exact T.sz, (bubble_perm _ _ _).trans T.pm, fun i hi => ?_, fun i hi hn => ?_⟩ (fun i j hij hj => ?_) (Nat.le_succ_of_le h1) (fuel h)
    · rw [gp_bubble hs q1]
      by_cases h1 : i = l
      · rw [if_pos h1, hpk]; exact Nat.lt_succ_self k
      · rw [if_neg h1]
        by_cases h2 : l < i ∧ i ≤ k
        · rw [if_pos h2]; exact Nat.lt_succ_of_lt (T.lo (i - 1) (Nat.lt_of_lt_of_le (pred_lt' (pos_lt h2.1)) h2.2))
        · rw [if_neg h2]; exact Nat.lt_succ_of_lt (T.lo i (by lia))
    · rw [gp_bubble hs q1, if_neg (Nat.ne_of_gt (Nat.lt_of_le_of_lt q1 hi)), if_neg fun q => no_ q.2 hi]
      exact T.hi i (Nat.le_of_succ_le hi) hn
    · rw [gp_bubble hs q1, gp_bubble hs q1]
      by_cases ei : i = l
      · have lj : l < j := ei ▸ hij
        rw [if_pos ei, if_neg (Nat.ne_of_gt lj), if_pos ⟨lj, Nat.le_of_lt_succ hj⟩]
        exact .inl (q3 (j - 1) (le_pred lj) (Nat.lt_of_lt_of_le (pred_lt' (pos_lt lj)) (Nat.le_of_lt_succ hj)))
      · rw [if_neg ei]
        by_cases ej : j = l
        · have il : i < l := ej ▸ hij
          rw [if_pos ej, if_neg fun q => Nat.lt_asymm il q.1]
          refine .inr ⟨q2 i il, ?_⟩
          rw [hpk]; exact T.lo i (Nat.lt_of_lt_of_le il q1)
        · rw [if_neg ej]
          by_cases e1 : l < i
          · have jk := Nat.le_of_lt_succ hj
            have lj := Nat.lt_trans e1 hij
            rw [if_pos ⟨e1, Nat.le_of_lt (Nat.lt_of_lt_of_le hij jk)⟩, if_pos ⟨lj, jk⟩]
            exact A _ _ (Nat.sub_lt_sub_right (pos_lt e1) hij) (Nat.lt_of_lt_of_le (pred_lt' (pos_lt lj)) jk)
          · rw [if_neg fun q => e1 q.1]
            by_cases e2 : l < j
            · have jk := Nat.le_of_lt_succ hj
              rw [if_pos ⟨e2, jk⟩]
              exact A _ _ (Nat.lt_of_lt_of_le (Nat.lt_of_le_of_ne (Nat.not_lt.mp e1) ei) (le_pred e2)) (Nat.lt_of_lt_of_le (pred_lt' (pos_lt e2)) jk)
            · rw [if_neg fun q => e2 q.1]
              exact A _ _ hij (Nat.lt_of_le_of_ne (Nat.le_of_lt_succ hj) (by lia))
structure Srt (lt : Nat → Nat → Bool) (n : Nat) (p : Array Nat) : Prop where
  perm : p.toList.Perm (List.range n)
  sorted : p.toList.Pairwise (RR lt)
theorem sort_spec (S : Swo lt) {n : Nat} (hn : 1 ≤ n) : KW n lt (kas_sort n) (Srt lt n) := by
  have fin : ∀ p, ST n p n → Asc lt p n → Srt lt n p := fun p T A => by
    refine ⟨by simpa using T.pm.toList, ?_⟩
    rw [List.pairwise_iff_getElem]
    intro i j hi hj hij
    have hi' : i < p.size := by simpa using hi
    have hj' : j < p.size := by simpa using hj
    have := A i j hij (by rw [← T.sz]; exact hj')
    rw [gp_eq, gp_eq] at this
    simpa [hi', hj'] using this
  unfold kas_sort
  refine KW.bind (KW.mono (fun r hr => ?_) (count_spec S hn))
  obtain ⟨m, p⟩ := r
  have h1 := hr.pos
  have h2 := hr.le
  dsimp only at hr h1 h2 ⊢
  split
  · rw [Nat.max_eq_left h1]
    exact KW.mono (fun p' h => fin p' h.1 h.2) (bin_spec S _ _ _ hr.st hr.asc h1 (by lia))
  · have : m = n := by lia
    subst this
    exact fin p hr.st hr.asc
theorem srt_uniq {lt lt' : Nat → Nat → Bool} (S : Swo lt) {n : Nat} (hr : ∀ i j, i < n → j < n → RR lt' i j → RR lt i j) {p p' : Array Nat} (h : Srt lt n p) (h' : Srt lt' n p') : p.toList = p'.toList := by
  have hp : p'.toList.Pairwise (RR lt) := by
    refine List.Pairwise.imp_of_mem (fun {a b} ha hb q => hr a b ?_ ?_ q) h'.sorted
    · have := h'.perm.mem_iff.mp ha; simpa using this
    · have := h'.perm.mem_iff.mp hb; simpa using this
  exact List.Perm.eq_of_pairwise (le := RR lt) (fun a b _ _ x y => (RR.irr S (x.trans S y)).elim) h.sorted hp (h.perm.trans h'.perm.symm)
end Mine
end
section
open PySem PySem.W PyProof.Rows
set_option maxRecDepth 100000
set_option maxHeartbeats 1000000
namespace Mine
variable {prog : Program} {w : World} {A : Around} {E : Value → Shared → Prop} {s : Shared}
noncomputable def ledger (h : Heap) (Z : List Addr) : List (Addr × Obj) := (List.range h.objs.size).filterMap fun a => if a ∈ Z then none else (h.get? a).map fun o => (a, o)
theorem mem_ledger {h : Heap} {Z : List Addr} {a : Addr} {o : Obj} : (a, o) ∈ ledger h Z ↔ a ∉ Z ∧ h.get? a = some o := by
  unfold ledger
  rw [List.mem_filterMap]
  constructor
  · rintro ⟨b, hb, e⟩
    split at e
    · cases e
    · rename_i hz
      refine bc fun nG => ?_
      obtain ⟨o', ho', e'⟩ := Option.map_eq_some_iff.mp e
      refine nG ?_
      cases e'
      exact ⟨hz, ho'⟩
  · rintro ⟨hz, ho⟩
    exact ⟨a, List.mem_range.mpr (Heap.lt_size ho), by rw [if_neg hz, ho]; rfl⟩
noncomputable def hE : Heap := {}
theorem hE_none (a : Addr) : hE.get? a = none := by unfold hE Heap.get?; simp
theorem fr_of {h : Heap} {L : Addr} {m : Str → Option Value} (hn : h.Ns L m) : Fr hE L h m := ⟨hn, fun b o e => (by rw [hE_none] at e; cases e), Nat.zero_le _⟩
theorem news_of {h : Heap} {L : Addr} {Z : List Addr} (hL : L ∈ Z) : News hE L h (ledger h Z) := fun p hp => by
  obtain ⟨a, b⟩ := mem_ledger.mp hp
  exact ⟨b, fun e => a (by rw [e]; exact hL), hE_none _⟩
theorem news_ext {h h' : Heap} {L : Addr} {Z : List Addr} {fs : List (Addr × Obj)} (N : News hE L h' fs) (hs : ∀ p ∈ ledger h Z, p ∈ fs) {b : Addr} {o : Obj} (hb : b ∉ Z) (e : h.get? b = some o) : h'.get? b = some o :=
  (N (b, o) (hs _ (mem_ledger.mpr ⟨hb, e⟩))).1
theorem collect_range {r : Addr} {t u t3 : Tok} {n : Nat} {Q : List Value → Shared → Prop} (hh : A.handled = none) (hr : IsRange s.heap r 0 n 1 t u t3) (hn : n ≤ 1000)
    (h : ∀ (h' : Heap) (tk : Nat) (acc : List Value), Ext s.heap h' → acc.length = n → (∀ (i : Nat) (v : Value), acc[i]? = some v → ∃ t, v = .int (i : Int) t) → Q acc { s with heap := h', toks := tk }) :
    wpAny (model prog w) A (collect (.ref r)) Q E s := by
  have hsmall : Builtin.Range.small 0 n 1 = true := by
    unfold Builtin.Range.small Builtin.Range.rangeFitsLong Builtin.Range.rangeSize
    simp
    lia
  have hsz : Builtin.Range.rangeSize 0 n 1 = (n : Int) := by
    unfold Builtin.Range.rangeSize
    simp <;> lia
  have hrlt : r < s.heap.objs.size := Heap.lt_size hr
  unfold collect
  refine wpAny_bind (wpAny_runValue (codeAny_builtin entry_proto_collect' ?_))
  rw [Around.under_plainId PySem.F.plain_proto_collect _]
  show wpAny _ A.in1 (newList [] >>= fun l => again (.builtin "list.__iadd__" ⟨[l, .ref r], []⟩)) _ _ s
  refine wpAny_bind (wpAny_newObj_type ?_)
  refine wpAny_pure ⟨plainId_quiet PySem.F.plain_list_iadd _, codeAny_builtin entry_list_iadd' ?_⟩
  rw [Around.under_plainId PySem.F.plain_list_iadd _]
  have hS₁ : (s.heap.push { cls := .type "list", data := .seq ([] : List Value).toArray }).get? s.heap.objs.size = some { cls := .type "list", data := .seq #[] } := Heap.get?_push_size _ rfl
  show wpAny _ A.in1 (Builtin.List.listExtendWith (.ref s.heap.objs.size) (.ref r) (.ref s.heap.objs.size)) _ _ _
  have key := wpAny_extend_range (prog := prog) (w := w) (A := A) (s := { s with heap := s.heap.push { cls := .type "list", data := .seq ([] : List Value).toArray } }) (n := n) (a := 0) (b := n) (c := 1) (t := t) (u := u) (v := t3) (r := r)
    (R := fun (q : Result) (s' : Shared) => ∃ (h' : Heap) (tk : Nat) (acc' : Array Value) (c' : Nat), q = .ok (.ret (.ref s.heap.objs.size)) ∧ s' = { s with heap := h', toks := tk } ∧
      Ext s.heap h' ∧ h'.get? s.heap.objs.size = some { cls := .type "list", dict := none, data := .seq acc' c', slots := #[] } ∧ ItemsOf (fun i v => ∃ t, v = .int (0 + i * 1) t) acc' n)
    hh (Heap.get?_push_of_some _ hr) hsmall hsz (by lia) s.heap.objs.size (.ref s.heap.objs.size) 0 hS₁
    (fun h' tk acc' c' hk hS' hacc => ⟨h', tk, acc', c', rfl, rfl, fun b o e => hk b o (Nat.ne_of_lt (Heap.lt_size e)) (Heap.get?_push_of_some _ e), hS', hacc⟩)
  have fin : ∀ (h' : Heap) (tk : Nat) (acc' : Array Value), Ext s.heap h' → ItemsOf (fun i v => ∃ t, v = .int (0 + i * 1) t) acc' n → Q acc'.toList { s with heap := h', toks := tk } := fun h' tk acc' hk hacc =>
    h h' tk _ hk (by rw [Array.length_toList]; exact hacc.1) fun i v hv => by
      obtain ⟨t', e⟩ := hacc.2 i v (by simpa using hv)
      exact ⟨t', by rw [e, show (0 : Int) + (i : Int) * 1 = i by lia]⟩
  refine wpAny_mono key (fun fin' s' x => ?_) fun e s' x => ?_
  · cases fin' with
    | done f =>
      obtain ⟨h', tk, acc', c', e, rfl, hk, hS', hacc⟩ := x
      cases e
      show wpAny _ A (load s.heap.objs.size >>= _) _ _ _
      refine wpAny_bind (wpAny_load hS' ?_)
      exact wpAny_pure (fin h' tk acc' hk hacc)
    | again c₁ =>
      refine ⟨x.1, codeAny_mono x.2 fun q s₂ y => ?_⟩
      obtain ⟨h', tk, acc', c', rfl, rfl, hk, hS', hacc⟩ := y
      show wpAny _ A (load s.heap.objs.size >>= _) _ _ _
      refine wpAny_bind (wpAny_load hS' ?_)
      exact wpAny_pure (fin h' tk acc' hk hacc)
  · obtain ⟨_, _, _, _, e', _⟩ := x
    cases e'
structure Sorted (lt : Nat → Nat → Bool) (s s' : Shared) (L : Addr) (m : Str → Option Value) (vs : List Value) (r : Value) : Prop where
  sh : ∃ h tk, s' = { s with heap := h, toks := tk }
  ns : s'.heap.Ns L m
  keep : ∀ b o, b ≠ L → s.heap.get? b = some o → s'.heap.get? b = some o
  out : ∃ D p, r = .ref D ∧ D ≠ L ∧ s.heap.get? D = none ∧ Srt lt vs.length p ∧ s'.heap.IsList D (List.toArray (p.toList.map fun i => vs.getD i Value.none))
theorem sort_pairs {l L : Addr} {m : Str → Option Value} {vs : List Value} {bf : Nat → List UInt8} (hu : A.units + 100 < cLine) (hn : s.heap.Ns L m) (hl : s.heap.IsList l vs.toArray) (h2 : 2 ≤ vs.length) (h64 : vs.length < 64)
    (hv : ∀ i v, vs[i]? = some v → ∃ a t u, v = .ref a ∧ a ≠ L ∧ s.heap.IsList a (pl (bf i) t i u)) (S : Swo fun i j => pairLt (bf i) i (bf j) j) :
    wpAny (model prog w) A (call (.builtin "sorted") [.ref l]) (fun r s' => Sorted (fun i j => pairLt (bf i) i (bf j) j) s s' L m vs r) E s := by
  refine kas_sorted (T := .type "list") (news := ledger s.heap [L]) (fr_of hn) (news_of (by simp)) hl h2 h64 (fun h F N v hv' => ?_) rfl fun D e1 h' F N hlow => ?_
  · refine bc fun nG => ?_
    obtain ⟨i, hi⟩ := List.getElem?_of_mem hv'
    obtain ⟨a, t, u, rfl, ha, o, ho, hc, _⟩ := hv i v hi
    refine nG ?_
    have := news_ext N (fun p hp => hp) (by simpa using ha) ho
    rw [← hc]
    exact (Looks.ld this).andThen .now
  · have hk : ∀ {h' : Heap} {oD : Obj}, News hE L h' ((D, oD) :: ledger s.heap [L]) → ∀ b o, b ≠ L → s.heap.get? b = some o → h'.get? b = some o := fun {h' oD} N' b o hb e => news_ext N' (fun p hp => .tail _ hp) (by simpa using hb) e
    have hD : s.heap.get? D = none := by
      cases e : s.heap.get? D with
      | none => rfl
      | some o =>
        have hDL := (N _ (.head _)).2.1
        exact absurd (hlow (D, o) (mem_ledger.mpr ⟨by simpa using hDL, e⟩)) (Nat.lt_irrefl _)
    refine KW.run (I := fun s' => Fr hE L s'.heap m ∧ News hE L s'.heap ((D, seqObj "list" #[] e1) :: ledger s.heap [L]) ∧ ∃ h tk, s' = { s with heap := h, toks := tk }) ?_ ?_ (sort_spec S (by lia)) ⟨F, N, _, _, rfl⟩
    · rintro i j C s' hi hj ⟨F', N', hs'⟩ hC
      unfold kas_ask
      have ei : vs[i]? = some vs[i] := List.getElem?_eq_getElem hi
      have ej : vs[j]? = some vs[j] := List.getElem?_eq_getElem hj
      refine bc fun nG => ?_
      obtain ⟨a, t, u, e1', ha, hla⟩ := hv i _ ei
      obtain ⟨b, t', u', e2', hb, hlb⟩ := hv j _ ej
      refine nG ?_
      have g1 : vs.getD i Value.none = .ref a := by rw [List.getD_eq_getElem?_getD, ei]; exact e1'
      have g2 : vs.getD j Value.none = .ref b := by rw [List.getD_eq_getElem?_getD, ej]; exact e2'
      rw [g1, g2]
      exact list_lt (by show A.units + 1 + 1 < _; lia) (hla.at fun o e => hk N' a o ha e) (hlb.at fun o e => hk N' b o hb e) (hC s' ⟨F', N', hs'⟩)
    · rintro p s' hp ⟨F', N', h1, tk, rfl⟩
      refine KasFin.intro F' N' (.head fun q hq e => ?_) fun h2 c F2 N2 => ⟨⟨h2, tk, rfl⟩, F2.ns, hk N2, D, p, rfl, (N2 _ (.head _)).2.1, hD, hp, ⟨_, (N2 _ (.head _)).1, rfl, _, rfl⟩⟩
      have := hlow q hq
      rw [e] at this
      exact Nat.lt_irrefl _ this
end Mine
end
section
open PySem PySem.W PyProof.Rows
set_option maxRecDepth 100000
set_option maxHeartbeats 1000000
namespace Mine
variable {prog : Program} {w : World} {A : Around} {E : Value → Shared → Prop} {s : Shared}
structure SS (s s' : Shared) (L kS D : Addr) (mm : Str → Option Value) (ks : List Value) (e e1 : Nat) (C : Addr) : Prop where
  fr : s'.heap.Ns L mm
  oS : s'.heap.get? kS = some (seqObj "list" (List.toArray ks) e)
  oD : s'.heap.get? D = some (seqObj "list" #[] e1)
  ne1 : kS ≠ D
  ne2 : kS ≠ L
  ne3 : D ≠ L
  fS : s.heap.get? kS = none
  fD : s.heap.get? D = none
  keep : ∀ b o, b ≠ L → s.heap.get? b = some o → s'.heap.get? b = some o
  sh : ∃ h tk, s' = { s with heap := h, toks := tk }
  inst : ∀ (i : Nat) v, ks[i]? = some v → ∃ x t, v = .ref x ∧ Inst s'.heap C x (.int (i : Int) t)
theorem SS.news {s' : Shared} {L kS D C : Addr} {mm : Str → Option Value} {ks : List Value} {e e1 : Nat} (S : SS s s' L kS D mm ks e e1 C) : News hE L s'.heap ((kS, seqObj "list" (List.toArray ks) e) :: (D, seqObj "list" #[] e1) :: ledger s'.heap [L, kS, D]) := by
  intro p hp
  rcases List.mem_cons.mp hp with rfl | hp
  · exact ⟨S.oS, S.ne2, hE_none _⟩
  · rcases List.mem_cons.mp hp with rfl | hp
    · exact ⟨S.oD, S.ne3, hE_none _⟩
    · exact news_of (by simp) p hp
theorem SS.ext {s' s'' : Shared} {L kS D C : Addr} {mm : Str → Option Value} {ks : List Value} {e e1 : Nat} (S : SS s s' L kS D mm ks e e1 C) (k : Keeps s' s'') : SS s s'' L kS D mm ks e e1 C where
  fr := S.fr.keeps (Keeps.ext k)
  oS := Keeps.ext k _ _ S.oS
  oD := Keeps.ext k _ _ S.oD
  ne1 := S.ne1
  ne2 := S.ne2
  ne3 := S.ne3
  fS := S.fS
  fD := S.fD
  keep := fun b o hb q => Keeps.ext k _ _ (S.keep b o hb q)
  sh := by
    refine bc fun nG => ?_
    obtain ⟨h, tk, rfl⟩ := S.sh
    obtain ⟨h2, t2, rfl, _⟩ := k
    refine nG ?_
    exact ⟨h2, t2, rfl⟩
  inst := fun i v q => let ⟨x, t, a, b⟩ := S.inst i v q; ⟨x, t, a, b.ext (Keeps.ext k)⟩
theorem inst_notin {h : Heap} {L kS D C x : Addr} {v : Value} {mm : Str → Option Value} {ks : List Value} {e e1 : Nat} (I : Inst h C x v) (fr : h.Ns L mm) (oS : h.get? kS = some (seqObj "list" (List.toArray ks) e)) (oD : h.get? D = some (seqObj "list" #[] e1)) : x ∉ [L, kS, D] := by
  obtain ⟨dx, od, a, _⟩ := I
  intro q
  simp only [List.mem_cons, List.not_mem_nil, or_false] at q
  rcases q with rfl | rfl | rfl
  · obtain ⟨o, es, ep, h1, h2, _⟩ := fr
    rw [a] at h1
    rw [← Option.some.inj h1] at h2
    cases h2
  · rw [a] at oS
    have := congrArg Obj.cls (Option.some.inj oS)
    cases this
  · rw [a] at oD
    have := congrArg Obj.cls (Option.some.inj oD)
    cases this
theorem SS.step {s' : Shared} {L kS D C : Addr} {mm : Str → Option Value} {ks ks' : List Value} {e e1 c c1 : Nat} {h' : Heap} (S : SS s s' L kS D mm ks e e1 C) (fr : h'.Ns L mm)
    (N : News hE L h' ((kS, seqObj "list" (List.toArray ks') c) :: (D, seqObj "list" #[] c1) :: ledger s'.heap [L, kS, D])) (hi : ∀ (i : Nat) v, ks'[i]? = some v → ∃ x t, v = .ref x ∧ Inst s'.heap C x (.int (i : Int) t)) :
    SS s { s' with heap := h' } L kS D mm ks' c c1 C where
  fr := fr
  oS := (N _ (.head _)).1
  oD := (N _ (.tail _ (.head _))).1
  ne1 := S.ne1
  ne2 := S.ne2
  ne3 := S.ne3
  fS := S.fS
  fD := S.fD
  keep := fun b o hb q => news_ext N (fun p hp => .tail _ (.tail _ hp)) (by
    simp only [List.mem_cons, List.not_mem_nil, or_false]
    rintro (z | z | z)
    · exact hb z
    · rw [z, S.fS] at q; cases q
    · rw [z, S.fD] at q; cases q) (S.keep b o hb q)
  sh := by
    obtain ⟨h, tk, rfl⟩ := S.sh
    exact ⟨h', tk, rfl⟩
  inst := fun i v q => by
    obtain ⟨x, t, a, I⟩ := hi i v q
    refine ⟨x, t, a, I.out (Z := [L, kS, D]) (fun b o hb e => news_ext N (fun p hp => .tail _ (.tail _ hp)) hb e) (inst_notin I S.fr S.oS S.oD) fun b hb => ?_⟩
    simp only [List.mem_cons, List.not_mem_nil, or_false] at hb
    rcases hb with rfl | rfl | rfl
    · obtain ⟨o, es, ep, h1, _⟩ := fr; exact ⟨o, h1⟩
    · exact ⟨_, (N _ (.head _)).1⟩
    · exact ⟨_, (N _ (.tail _ (.head _))).1⟩
structure KS0 (P : Params) (prog : Program) (w : World) (s : Shared) (L : Addr) (k : KP) (m n : Nat) (Hp : Heap → Prop) (fa : Addr) (cm : Nat → Nat → Int) : Prop where
  ns : ∃ mm, s.heap.Ns L mm
  gd : Gd (Kx P) s.heap
  gw : GdW (Kx P) [L]
  kh : KH P s.heap k
  kN : k.N ≠ L
  kc : k.c ≠ L
  cell : s.heap.IsCell k.c (some (.ref fa))
  cmp : Cmp2 prog w (Kx P) m Hp fa cm n
  hp : ∀ h, (∀ b o, b ≠ L → s.heap.get? b = some o → h.get? b = some o) → Hp h
theorem SS.ground {P : Params} {s' : Shared} {L kS D : Addr} {mm : Str → Option Value} {ks : List Value} {e e1 : Nat} {k : KP} {m n : Nat} {Hp : Heap → Prop} {fa : Addr} {cm : Nat → Nat → Int} (K : KS0 P prog w s L k m n Hp fa cm) (S : SS s s' L kS D mm ks e e1 k.C) :
    Gd (Kx P) s'.heap ∧ KH P s'.heap k ∧ Hp s'.heap ∧ s'.heap.IsCell k.c (some (.ref fa)) := by
  have kw : KeepsW [L] s s' := by
    obtain ⟨h, tk, rfl⟩ := S.sh
    exact ⟨h, tk, rfl, fun b o hb q => S.keep b o (by simpa using hb) q, fun b hb _ => by
      rw [List.mem_singleton.mp hb]
      obtain ⟨o, es, ep, h1, _⟩ := S.fr; exact ⟨o, h1⟩⟩
  refine ⟨K.gd.keepsW kw K.gw, K.kh.keep (fun b o hn q => ?_) (fun o q => S.keep _ o K.kN q), K.hp _ S.keep, ?_⟩
  · by_cases hb : b = L
    · exfalso
      obtain ⟨mm, o', es, ep, h1, h2, _⟩ := K.ns
      rw [hb, h1] at q
      cases q
      unfold nk at hn
      rw [h2] at hn
      cases hn
    · exact S.keep b o hb q
  · obtain ⟨o, ho, hd⟩ := K.cell
    exact ⟨o, S.keep _ _ K.kc ho, hd⟩
theorem Rm.in1 {A : Around} {m : Nat} (R : Rm A (m + 1)) : Rm A.in1 m := ⟨R.1, by have := R.2.1; show A.depth + m < _; lia, by have := R.2.2; show A.units + 1 + 100 * m + 200 < _; lia⟩
theorem keys_go (P : Params) {L kS D : Addr} {mm : Str → Option Value} {k : KP} {m n : Nat} {Hp : Heap → Prop} {fa : Addr} {cm : Nat → Nat → Int} {acc : List Value} {Fin : List Value → Nat → Shared → Prop} {e1 : Nat} (R : Rm A (m + 2)) (K : KS0 P prog w s L k m n Hp fa cm) (hacc : ∀ (i : Nat) v, acc[i]? = some v → ∃ t, v = .int (i : Int) t)
    (fin : ∀ ks e s', SS s s' L kS D mm ks e e1 k.C → ks.length = acc.length → Fin ks e s') :
    ∀ (r ks : List Value) (e : Nat) (s' : Shared), r = acc.drop ks.length → SS s s' L kS D mm ks e e1 k.C → ks.length ≤ acc.length → KatKeys prog w A hE L mm kS (.ref k.C) Fin r ks e s' := by
  intro r
  induction r with
  | nil =>
    intro ks e s' hr S hl
    have : acc.length ≤ ks.length := by
      have := congrArg List.length hr
      rw [List.length_drop, List.length_nil] at this
      lia
    exact fin ks e s' S (by lia)
  | cons v r ih =>
    intro ks e s' hr S hl
    have hlt : ks.length < acc.length := by
      have := congrArg List.length hr
      rw [List.length_drop, List.length_cons] at this
      lia
    have hcons : acc.drop ks.length = acc[ks.length] :: acc.drop (ks.length + 1) := List.drop_eq_getElem_cons hlt
    rw [hcons] at hr
    obtain ⟨rfl, rfl⟩ := List.cons.inj hr
    obtain ⟨t, ht⟩ := hacc ks.length _ (List.getElem?_eq_getElem hlt)
    obtain ⟨gd, kh, hp, hc⟩ := S.ground K
    refine KatKeys.cons (wpAny_mono (key_new P R gd kh) (fun x s2 q => ?_) fun _ _ z => z)
    obtain ⟨x, rfl, kk, I⟩ := q
    have S2 := S.ext kk
    rw [ht] at I
    refine KatBack.intro (fr_of S2.fr) S2.news (.head fun p hp => ?_) fun h' c F' N' => ?_
    · rcases List.mem_cons.mp hp with rfl | hp
      · exact Ne.symm S2.ne1
      · intro z
        have := (mem_ledger (a := p.1) (o := p.2)).mp hp
        exact this.1 (by rw [z]; simp)
    · have hi : ∀ (i : Nat) v, (ks ++ [Value.ref x])[i]? = some v → ∃ x t, v = .ref x ∧ Inst s2.heap k.C x (.int (i : Int) t) := fun i v q => by
        by_cases hik : i < ks.length
        · rw [List.getElem?_append_left hik] at q
          exact S2.inst i v q
        · rw [List.getElem?_append_right (by lia)] at q
          have h0 : i - ks.length = 0 := by
            cases hz : i - ks.length with
            | zero => rfl
            | succ z => rw [hz] at q; simp at q
          rw [h0] at q
          have hik2 : i = ks.length := by lia
          subst hik2
          exact ⟨x, t, by simpa using q.symm, I⟩
      exact ih _ c _ (by rw [List.length_append, List.length_singleton]) (S2.step F'.ns N' hi) (by rw [List.length_append, List.length_singleton]; lia)
end Mine
end
section
open PySem PySem.W PyProof.Rows
set_option maxRecDepth 100000
set_option maxHeartbeats 1000000
namespace Mine
variable {prog : Program} {w : World} {A : Around} {E : Value → Shared → Prop} {s : Shared}
theorem sort_keys (P : Params) {r L : Addr} {mm : Str → Option Value} {k : KP} {m n : Nat} {Hp : Heap → Prop} {fa : Addr} {cm : Nat → Nat → Int} {t u t3 : Tok} (R : Rm A (m + 5)) (K : KS0 P prog w s L k m n Hp fa cm) (hn : s.heap.Ns L mm) (hr : IsRange s.heap r 0 n 1 t u t3) (h2 : 2 ≤ n) (h64 : n < 64)
    (S : Swo fun i j => decide (cm i j < 0)) :
    wpAny (model prog w) A (call (.builtin "sorted") [.ref r] [(Str.ofString "key", .ref k.C)]) (fun r' s' => (∃ h tk, s' = { s with heap := h, toks := tk }) ∧ s'.heap.Ns L mm ∧ (∀ b o, b ≠ L → s.heap.get? b = some o → s'.heap.get? b = some o) ∧
      ∃ D p, r' = .ref D ∧ D ≠ L ∧ s.heap.get? D = none ∧ Srt (fun i j => decide (cm i j < 0)) n p ∧ ∃ ws, s'.heap.IsList D (List.toArray ws) ∧ IntsAre ws (p.toList.map Int.ofNat)) E s := by
  refine call_function_entry_kw kind_sorted plain_sorted entry_sorted (ksk_s1 _ _) ?_
  unfold Builtin.«sorted»
  refine wpAny_bind (m := checkCount "sorted" 1 1 _) (wpAny_pure ?_)
  refine wpAny_bind (collect_range (by exact R.1) hr (by lia) fun h' tk acc hx hl hacc => ?_)
  refine wpAny_bind (wpAny_newList ?_ (by rw [sizeLine_eq]; lia))
  have hLlt : L < h'.objs.size := by
    refine bc fun nG => ?_
    obtain ⟨o, es, ep, h1, _⟩ := hn
    refine nG ?_
    exact Heap.lt_size (hx _ _ h1)
  have hDL : h'.objs.size ≠ L := Nat.ne_of_gt hLlt
  have hDs : s.heap.get? h'.objs.size = none := by
    cases e : s.heap.get? h'.objs.size with
    | none => rfl
    | some o => exact absurd (Heap.lt_size (hx _ _ e)) (Nat.lt_irrefl _)
  have hD : (h'.push (seqObj "list" (List.toArray acc) 0)).get? h'.objs.size = some (seqObj "list" (List.toArray acc) 0) := Heap.get?_push_size _ rfl
  have x1 : Ext s.heap (h'.push (seqObj "list" (List.toArray acc) 0)) := fun b o e => Heap.get?_push_of_some _ (hx b o e)
  generalize hDD : h'.objs.size = D at hDL hDs hD
  generalize hH : h'.push (seqObj "list" (List.toArray acc) 0) = H at hD x1
  have R2 : Rm A.in1.in1 (m + 3) := Rm.in1 (Rm.in1 R)
  refine wpAny_bind (wpAny_holding (wpAny_call_entry_kw slot_list_sort ⟨_, hD, rfl⟩ entry_list_sort ?body (ksk_l1 _ _)))
  case body =>
    have ht' := ksk_t1 k.C D
    show wpAny (model prog w) A.in1.in1 (Builtin.«list.sort» ⟨[.ref D], [(Str.ofString "key", .ref k.C)]⟩) _ _ { s with heap := H, toks := tk }
    rw [ht']
    refine kat_keyed (s := { s with heap := H, toks := tk }) (news := ledger H [L, D]) (fr_of (hn.keeps x1)) (news_of (by simp)) hD hDL (hE_none _) (fun p hp e => ?_) (by lia) (by lia) fun kS e1 h2' F' N' l0 l1 => ?_
    · have := (mem_ledger (a := p.1) (o := p.2)).mp hp
      exact this.1 (by rw [e]; simp)
    · have hkS : kS ≠ L := (N' _ (.head _)).2.1
      have hSD : kS ≠ D := Nat.ne_of_gt l0
      have hfS : H.get? kS = none := by
        cases e : H.get? kS with
        | none => rfl
        | some o => exact absurd (l1 (kS, o) (mem_ledger.mpr ⟨by simp [hkS, hSD], e⟩)) (Nat.lt_irrefl _)
      have hfS0 : s.heap.get? kS = none := by
        cases e : s.heap.get? kS with
        | none => rfl
        | some o => rw [x1 _ _ e] at hfS; cases hfS
      have S0 : SS s { s with heap := h2', toks := tk } L kS D mm [] 0 e1 k.C := {
        fr := F'.ns
        oS := (N' _ (.head _)).1
        oD := (N' _ (.tail _ (.head _))).1
        ne1 := hSD
        ne2 := hkS
        ne3 := hDL
        fS := hfS0
        fD := hDs
        keep := fun b o hb q => news_ext N' (fun p hp => .tail _ (.tail _ hp)) (by
          simp only [List.mem_cons, List.not_mem_nil, or_false]
          rintro (z | z)
          · exact hb z
          · rw [z, hDs] at q; cases q) (x1 _ _ q)
        sh := ⟨_, _, rfl⟩
        inst := fun i v q => by simp at q }
      refine keys_go P (A := A.in1.in1) (m := m) (acc := acc) (R2.mono (by lia)) K hacc (fun ks e s' S' hks => ?_) acc [] 0 _ rfl S0 (Nat.zero_le _)
      have hin : ∀ v ∈ ks, Looks (model prog w) s'.heap (typeOf v) (.ref k.C) := fun v hv => by
        refine bc fun nG => ?_
        obtain ⟨i, hi⟩ := List.getElem?_of_mem hv
        obtain ⟨x, t, rfl, dx, od, a, _⟩ := S'.inst i v hi
        refine nG ?_
        exact (Looks.ld a).andThen .now
      refine kas_kind (by lia) hin rfl (by simp) ?_
      rw [show acc.length = ks.length by lia]
      refine KW.run (I := fun s'' => SS s s'' L kS D mm ks e e1 k.C) ?_ ?_ (sort_spec S (by lia)) S'
      · intro i j C s'' hi hj hI hC
        unfold kas_ask
        have ei : ks[i]? = some ks[i] := List.getElem?_eq_getElem hi
        have ej : ks[j]? = some ks[j] := List.getElem?_eq_getElem hj
        refine bc fun nG => ?_
        obtain ⟨x, tx, ex, Ix⟩ := hI.inst i _ ei
        obtain ⟨y, ty, ey, Iy⟩ := hI.inst j _ ej
        refine nG ?_
        have g1 : (katRev false ks).getD i Value.none = .ref x := by show ks.getD i Value.none = _; rw [List.getD_eq_getElem?_getD, ei]; exact ex
        have g2 : (katRev false ks).getD j Value.none = .ref y := by show ks.getD j Value.none = _; rw [List.getD_eq_getElem?_getD, ej]; exact ey
        rw [g1, g2]
        refine bc fun nG => ?_
        obtain ⟨gd, kh, hp, hc⟩ := hI.ground K
        refine nG ?_
        refine mono2 (key_lt P K.cmp (R2.mono (by lia)) gd kh hp hc Ix Iy (by lia) (by lia)) fun c s3 q1 qq1 => ?_
        obtain rfl := qq1
        exact hC s3 (hI.ext q1)
      · intro p s'' hp hI
        refine KatFin.intro (fr_of hI.fr) hI.news (.head fun q hq z => ?_) fun h3 c F3 N3 => ?_
        · rcases List.mem_cons.mp hq with rfl | hq
          · exact hI.ne1 z.symm
          · have := (mem_ledger (a := q.1) (o := q.2)).mp hq
            exact this.1 (by rw [z]; simp)
        · have I3 := hI.step (ks' := []) F3.ns N3 (fun i v q => by simp at q)
          refine KasFin.intro (fr_of I3.fr) I3.news (.tail hI.ne1 (.head fun q hq z => ?_)) fun h4 c4 F4 N4 => ?_
          · have := (mem_ledger (a := q.1) (o := q.2)).mp hq
            exact this.1 (by rw [z]; simp)
          · refine ⟨_, rfl, wpAny_pure ⟨_, rfl, ?_⟩⟩
            refine bc fun nG => ?_
            obtain ⟨hh, tt, e5⟩ := I3.sh
            refine nG ?_
            refine ⟨⟨h4, tt, by rw [e5]⟩, F4.ns, fun b o hb q => news_ext N4 (fun p hp => .tail _ (.tail _ hp)) (by
              simp only [List.mem_cons, List.not_mem_nil, or_false]
              rintro (z | z | z)
              · exact hb z
              · rw [z, hfS0] at q; cases q
              · rw [z, hDs] at q; cases q) (I3.keep b o hb q), D, p, rfl, hDL, hDs, ?_, _, ⟨_, (N4 _ (.tail _ (.head _))).1, rfl, _, rfl⟩, ?_⟩
            · rw [show n = ks.length by lia]; exact hp
            · show IntsAre (p.toList.map fun i => acc.getD i Value.none) _
              have hlt : ∀ i ∈ p.toList, i < acc.length := fun i hi => by
                have := hp.perm.mem_iff.mp hi
                rw [List.mem_range] at this; lia
              clear hp
              generalize p.toList = pl at hlt
              induction pl with
              | nil => exact .nil
              | cons i r ih =>
                obtain ⟨t', ht'⟩ := hacc i _ (List.getElem?_eq_getElem (hlt i (.head _)))
                have g1 : acc.getD i Value.none = .int (i : Int) t' := by rw [List.getD_eq_getElem?_getD, List.getElem?_eq_getElem (hlt i (.head _))]; exact ht'
                rw [List.map_cons, List.map_cons, g1]
                exact .cons _ _ (ih fun j hj => hlt j (.tail _ hj))
end Mine
end
section
open PySem PySem.W PyProof.Rows
set_option maxRecDepth 100000
set_option maxHeartbeats 4000000
namespace Mine
noncomputable def digs : List Nat → List Nat
  | a :: b :: c :: r => a / 4 :: (a % 4 * 16 + b / 16) :: (b % 16 * 4 + c / 64) :: c % 64 :: digs r
  | [a, b] => [a / 4, a % 4 * 16 + b / 16, b % 16 * 4]
  | [a] => [a / 4, a % 4 * 16]
  | [] => []
noncomputable def rowN (r : List UInt8) : List Nat := r.map (·.toNat)
noncomputable def mmR (r : List UInt8) : Nat := (8 * r.length + 5) / 6
noncomputable def pwR (r : List UInt8) : Nat := (6 - 8 * r.length % 6) % 6
noncomputable def ddR (r : List UInt8) : Int := numD r * 2 ^ pwR r
noncomputable def codes (r : List UInt8) : List Nat := (digs (rowN r)).map (fun (v : Nat) => sg (v : Int)) ++ padS (mmR r)
theorem sg_lt : ∀ v : Nat, v < 64 → sg (v : Int) < 128 ∧ sg (v : Int) ≠ 61 ∧ valD (sg (v : Int) : Int) = (v : Int) := by decide +kernel
theorem sgI_nat (v : Nat) : sgI (v : Int) = ((sg (v : Int) : Nat) : Int) := rfl
theorem sgN {m b d e f g : Nat} (hd : 0 < d) (hb : b < d * e) : (m * (d * e) + b) % (d * (e * f * g)) / d % (e * f) = m % f * e + b / d := by
  rw [Nat.mod_mul_right_div_self, Nat.mod_mul_right_mod, Nat.mul_comm m, Nat.mul_assoc, Nat.mul_add_div hd, Nat.mod_mul, Nat.mul_add_mod, Nat.mod_eq_of_lt (Nat.div_lt_of_lt_mul hb), Nat.mul_add_div (Nat.pos_of_lt_mul_left hb), Nat.div_eq_of_lt (Nat.div_lt_of_lt_mul hb), Nat.add_comm, Nat.mul_comm e]
  rfl
theorem loN (m b d e k : Nat) : (m * (d * e) + b) % (d * k) % d = b % d := by
  rw [Nat.mod_mul_right_mod, Nat.mul_left_comm, Nat.mul_add_mod]
theorem s1 (l : Nat) {a : Nat} (h : a < 256) : (l * 256 + a) % 65536 / 4 % 64 = a / 4 :=
  (sgN (m := l) (d := 4) (e := 64) (f := 1) (g := 256) (Nat.succ_pos 3) h).trans (by rw [Nat.mod_one, Nat.zero_mul, Nat.zero_add])
theorem s2 (l a : Nat) {b : Nat} (h : b < 256) : ((l * 256 + a) % 65536 * 256 + b) % 65536 / 16 % 64 = a % 4 * 16 + b / 16 :=
  (sgN (d := 16) (e := 16) (f := 4) (g := 64) (Nat.succ_pos 15) h).trans (congrArg (fun z => z * 16 + b / 16) (loN l a 4 64 16384))
theorem s3 (l b : Nat) {c : Nat} (h : c < 256) : ((l * 256 + b) % 65536 * 256 + c) % 65536 / 64 % 64 = b % 16 * 4 + c / 64 :=
  (sgN (d := 64) (e := 4) (f := 16) (g := 16) (Nat.succ_pos 63) h).trans (congrArg (fun z => z * 4 + c / 64) (loN l b 16 16 4096))
noncomputable def sgsI (l : List Nat) : List Int := l.map fun (v : Nat) => ((sg (v : Int) : Nat) : Int)
noncomputable def padN (n : Nat) : List Int := (padS ((8 * n + 5) / 6)).map fun (n : Nat) => (n : Int)
theorem div24 (n : Nat) : (8 * (n + 3) + 5) / 6 = (8 * n + 5) / 6 + 4 := Nat.add_mul_div_left (8 * n + 5) 4 (Nat.succ_pos 5)
theorem pad3 (n : Nat) : padS ((8 * (n + 3) + 5) / 6) = padS ((8 * n + 5) / 6) := by
  rw [div24]
  unfold padS
  rw [Nat.add_mod_right]
theorem enc_gen : ∀ (r : List UInt8) (l : Nat) (out : List Int), encEnd (r.foldl encStep (0, (l : Int), out)) = out ++ (sgsI (digs (rowN r)) ++ padN r.length)
  | [], _, _ => (List.append_nil _).symm
  | [a], l, out => by
    refine Eq.trans (b := out ++ [sgI (((l * 256 + a.toNat) % 65536 / 4 % 64 : Nat) : Int)] ++ [sgI (((l * 256 + a.toNat) % 65536 % 4 * 16 : Nat) : Int), 61, 61]) (by kernel_rfl) ?_
    rw [s1 l a.toNat_lt, show (l * 256 + a.toNat) % 65536 % 4 = _ from loN l a.toNat 4 64 16384, List.append_assoc]
    kernel_rfl
  | [a, b], l, out => by
    refine Eq.trans (b := out ++ [sgI (((l * 256 + a.toNat) % 65536 / 4 % 64 : Nat) : Int)] ++ [sgI ((((l * 256 + a.toNat) % 65536 * 256 + b.toNat) % 65536 / 16 % 64 : Nat) : Int)] ++ [sgI ((((l * 256 + a.toNat) % 65536 * 256 + b.toNat) % 65536 % 16 * 4 : Nat) : Int), 61]) (by kernel_rfl) ?_
    rw [s1 l a.toNat_lt, s2 l a.toNat b.toNat_lt, show ((l * 256 + a.toNat) % 65536 * 256 + b.toNat) % 65536 % 16 = _ from loN _ b.toNat 16 16 4096, List.append_assoc, List.append_assoc]
    kernel_rfl
  | a :: b :: c :: r, l, out => by
    refine Eq.trans (b := encEnd (r.foldl encStep (0, (((((l * 256 + a.toNat) % 65536 * 256 + b.toNat) % 65536 * 256 + c.toNat) % 65536 : Nat) : Int), out ++ [sgI (((l * 256 + a.toNat) % 65536 / 4 % 64 : Nat) : Int)] ++ [sgI ((((l * 256 + a.toNat) % 65536 * 256 + b.toNat) % 65536 / 16 % 64 : Nat) : Int)] ++ [sgI (((((l * 256 + a.toNat) % 65536 * 256 + b.toNat) % 65536 * 256 + c.toNat) % 65536 / 64 % 64 : Nat) : Int), sgI (((((l * 256 + a.toNat) % 65536 * 256 + b.toNat) % 65536 * 256 + c.toNat) % 65536 % 64 : Nat) : Int)]))) (by kernel_rfl) ?_
    rw [enc_gen r, s1 l a.toNat_lt, s2 l a.toNat b.toNat_lt, s3 _ b.toNat c.toNat_lt, show (((l * 256 + a.toNat) % 65536 * 256 + b.toNat) % 65536 * 256 + c.toNat) % 65536 % 64 = _ from loN _ c.toNat 64 4 1024, List.append_assoc, List.append_assoc, List.append_assoc]
    show _ = out ++ (_ ++ (padS ((8 * (r.length + 3) + 5) / 6)).map _)
    rw [pad3]
    rfl
theorem enc_codes {r : List UInt8} (h1 : 1 ≤ r.length) (h5 : r.length ≤ 5) : encD r = (codes r).map fun (n : Nat) => (n : Int) := by
  unfold codes
  rw [List.map_append, List.map_map]
  exact enc_gen r 0 []
theorem q1 (a : UInt8) : a.toNat / 4 < 64 := Nat.div_lt_of_lt_mul a.toNat_lt
theorem mulAdd {x y e f : Nat} (hx : x < f) (hy : y < e) : x * e + y < f * e := Nat.lt_of_lt_of_le (Nat.add_lt_add_left hy _) (Nat.succ_mul x e ▸ Nat.mul_le_mul_right e hx)
theorem q2 (a : Nat) (b : UInt8) : a % 4 * 16 + b.toNat / 16 < 64 := mulAdd (Nat.mod_lt a (Nat.succ_pos 3)) (Nat.div_lt_of_lt_mul (n := 16) b.toNat_lt)
theorem q3 (a : Nat) (b : UInt8) : a % 16 * 4 + b.toNat / 64 < 64 := mulAdd (Nat.mod_lt a (Nat.succ_pos 15)) (Nat.div_lt_of_lt_mul (n := 64) b.toNat_lt)
theorem digs_lt' : ∀ r : List UInt8, ∀ v ∈ digs (rowN r), v < 64
  | [] => List.forall_mem_nil _
  | [a] => List.forall_mem_cons.mpr ⟨q1 a, List.forall_mem_cons.mpr ⟨q2 a.toNat 0, List.forall_mem_nil _⟩⟩
  | [a, b] => List.forall_mem_cons.mpr ⟨q1 a, List.forall_mem_cons.mpr ⟨q2 a.toNat b, List.forall_mem_cons.mpr ⟨q3 b.toNat 0, List.forall_mem_nil _⟩⟩⟩
  | a :: b :: c :: r => List.forall_mem_cons.mpr ⟨q1 a, List.forall_mem_cons.mpr ⟨q2 a.toNat b, List.forall_mem_cons.mpr ⟨q3 b.toNat c, List.forall_mem_cons.mpr ⟨Nat.mod_lt _ (by decide), digs_lt' r⟩⟩⟩⟩
theorem digs_lt {r : List UInt8} (h1 : 1 ≤ r.length) (h5 : r.length ≤ 5) : ∀ v ∈ digs (rowN r), v < 64 := digs_lt' r
theorem digs_len' : ∀ r : List UInt8, (digs (rowN r)).length = (8 * r.length + 5) / 6
  | [] => rfl
  | [_] => by kernel_rfl
  | [_, _] => by kernel_rfl
  | _ :: _ :: _ :: r => by
    show (digs (rowN r)).length + 4 = (8 * (r.length + 3) + 5) / 6
    rw [digs_len' r, div24]
theorem digs_len {r : List UInt8} (h1 : 1 ≤ r.length) (h5 : r.length ≤ 5) : (digs (rowN r)).length = mmR r := digs_len' r
theorem T1 (x : Int) (a d e : Nat) : (x * d + ((a / e : Nat) : Int)) * e + ((a % e : Nat) : Int) = x * ((d : Int) * e) + a := by
  rw [Int.add_mul, Int.mul_assoc, Int.add_assoc, Int.mul_comm ((a / e : Nat) : Int)]
  exact congrArg (fun z : Nat => x * ((d : Int) * e) + (z : Int)) (Nat.div_add_mod a e)
theorem T2 (x : Int) (a d e f : Nat) : (x * d + ((a / e : Nat) : Int)) * ((e : Int) * f) + ((a % e * f : Nat) : Int) = (x * ((d : Int) * e) + a) * f := by
  rw [← Int.mul_assoc, Int.natCast_mul, ← Int.add_mul, T1]
theorem T3 (x : Int) (a d e f c : Nat) : (x * d + ((a / e : Nat) : Int)) * ((e : Int) * f) + ((a % e * f + c : Nat) : Int) = (x * ((d : Int) * e) + a) * f + c := by
  rw [Int.natCast_add, ← Int.add_assoc, T2]
theorem digs_gen : ∀ (r : List UInt8) (x : Int), ((digs (rowN r)).map fun (n : Nat) => (n : Int)).foldl (fun v p => v * 64 + p) x = r.foldl (fun k c => k * 256 + (c.toNat : Int)) x * 2 ^ ((6 - 8 * r.length % 6) % 6)
  | [], x => (Int.mul_one x).symm
  | [a], x => cast (by kernel_rfl) (T2 x a.toNat 64 4 16)
  | [a, b], x => cast (by kernel_rfl) ((congrArg (fun y : Int => y * 64 + ((b.toNat % 16 * 4 : Nat) : Int)) (T3 x a.toNat 64 4 16 (b.toNat / 16))).trans (T2 (x * 256 + a.toNat) b.toNat 16 16 4))
  | a :: b :: c :: r, x => by
    refine (digs_gen r _).trans ?_
    show _ = r.foldl (fun k c => k * 256 + (c.toNat : Int)) (((x * 256 + (a.toNat : Int)) * 256 + (b.toNat : Int)) * 256 + (c.toNat : Int)) * 2 ^ ((6 - 8 * (r.length + 3) % 6) % 6)
    rw [show 8 * (r.length + 3) % 6 = 8 * r.length % 6 from Nat.add_mul_mod_self_left (8 * r.length) 6 4]
    exact congrArg (fun z : Int => r.foldl (fun k c => k * 256 + (c.toNat : Int)) z * 2 ^ ((6 - 8 * r.length % 6) % 6)) ((congrArg (fun y : Int => (y * 64 + ((b.toNat % 16 * 4 + c.toNat / 64 : Nat) : Int)) * 64 + ((c.toNat % 64 : Nat) : Int)) (T3 x a.toNat 64 4 16 (b.toNat / 16))).trans ((congrArg (fun y : Int => y * 64 + ((c.toNat % 64 : Nat) : Int)) (T3 (x * 256 + a.toNat) b.toNat 16 16 4 (c.toNat / 64))).trans (T1 _ c.toNat 4 64)))
theorem digs_val {r : List UInt8} (h1 : 1 ≤ r.length) (h5 : r.length ≤ 5) : valP ((digs (rowN r)).map fun (n : Nat) => (n : Int)) = ddR r := digs_gen r 0
theorem figs (ds : List Nat) (x : Int) (h : ∀ v ∈ ds, v < 64) : ((List.range ds.length).map fun k => sg ((((ds.map fun (n : Nat) => (n : Int)).foldl (fun v p => v * 64 + p) x).fdiv (64 ^ k)).fmod 64)).reverse = ds.map fun (v : Nat) => sg (v : Int) := by
  induction h' : ds.reverse generalizing ds with
  | nil => rw [List.reverse_eq_nil_iff] at h'; subst h'; rfl
  | cons d r ih =>
    have e : ds = r.reverse ++ [d] := by rw [← List.reverse_reverse ds, h', List.reverse_cons]
    subst e
    have ih := ih r.reverse (fun v hv => h v (List.mem_append_left _ hv)) (List.reverse_reverse r)
    have hd := h d (List.mem_append_right _ (.head _))
    rw [List.map_append, List.foldl_append, List.length_append, List.length_singleton, List.range_succ_eq_map, List.map_cons, List.reverse_cons, List.map_map, List.map_append]
    refine congr (congrArg HAppend.hAppend ?_) ?_
    · rw [← ih]
      refine congrArg List.reverse (List.map_congr_left fun k _ => congrArg (fun z : Int => sg (z.fmod 64)) ?_)
      show Int.fdiv (_ * 64 + (d : Int)) (64 ^ (k + 1)) = _
      rw [Int.fdiv_eq_ediv_of_nonneg _ (Int.pow_nonneg (by decide)), Int.fdiv_eq_ediv_of_nonneg _ (Int.pow_nonneg (by decide)), Int.pow_succ', ← Int.ediv_ediv_of_nonneg (by decide)]
      rw [Int.add_comm, Int.mul_comm, Int.add_mul_ediv_left _ _ (by decide), show (d : Int) / 64 = 0 from Int.ediv_eq_zero_of_lt (Int.natCast_nonneg d) (Int.ofNat_lt.mpr hd), Int.zero_add]
    · refine congrArg (fun z : Int => [sg z]) ?_
      show Int.fmod (Int.fdiv (_ * 64 + (d : Int)) 1) 64 = d
      rw [Int.fdiv_one, Int.fmod_eq_emod_of_nonneg _ (by decide), Int.add_comm, Int.mul_comm, Int.add_mul_emod_self_left]
      exact Int.emod_eq_of_lt (Int.natCast_nonneg d) (Int.ofNat_lt.mpr hd)
theorem signs_codes {r : List UInt8} (h1 : 1 ≤ r.length) (h5 : r.length ≤ 5) : signsD (ddR r) (mmR r) ++ padS (mmR r) = codes r := by
  unfold codes signsD
  rw [← digs_len h1 h5, ← digs_val h1 h5]
  exact congrArg (· ++ _) (figs _ 0 (digs_lt' r))
theorem num_fold : ∀ (b : List UInt8) (k : Int), b.foldl (fun k c => k * 256 + (c.toNat : Int)) k = k * 256 ^ b.length + numD b
  | [], k => (Int.mul_one k).symm.trans (Int.add_zero _).symm
  | x :: r, k => by
    unfold numD
    rw [List.foldl_cons, List.foldl_cons, num_fold r, num_fold r (0 * 256 + _), List.length_cons, Int.pow_succ, Int.zero_mul, Int.zero_add, Int.add_mul, Int.mul_assoc, Int.mul_comm 256, Int.add_assoc]
theorem red_num (r : List UInt8) : redD (fun a c => a * 256 + c) r 1 = 256 ^ r.length + numD r := (num_fold r 1).trans (by rw [Int.one_mul])
end Mine
end
section
open PySem PySem.W PyProof.Rows
set_option maxRecDepth 100000
set_option maxHeartbeats 4000000
namespace Mine
noncomputable def textR (r : List UInt8) : Str := ⟨(codes r).toArray⟩
noncomputable def encB (r : List UInt8) : List UInt8 := (codes r).map (·.toUInt8)
theorem codes_all {P : Nat → Prop} {r : List UInt8} (h61 : P 61) (hs : ∀ v : Nat, v < 64 → P (sg (v : Int))) (c : Nat) (hc : c ∈ codes r) : P c :=
  (List.mem_append.mp hc).elim (fun h => (List.mem_map.mp h).elim fun v hv => hv.2 ▸ hs v (digs_lt' r v hv.1)) (fun h => (List.mem_replicate.mp h).2 ▸ h61)
theorem codes_lt {r : List UInt8} (h1 : 1 ≤ r.length) (h5 : r.length ≤ 5) : ∀ c ∈ codes r, c < 128 := codes_all (P := fun c => c < 128) (by decide) fun v hv => (sg_lt v hv).1
theorem codes_len {r : List UInt8} (h1 : 1 ≤ r.length) (h5 : r.length ≤ 5) : (codes r).length = mmR r + (4 - mmR r % 4) % 4 := by
  unfold codes padS
  rw [List.length_append, List.length_map, List.length_replicate, digs_len h1 h5]
theorem mmR_vals {r : List UInt8} (h1 : 1 ≤ r.length) (h5 : r.length ≤ 5) : mmR r = 2 ∨ mmR r = 3 ∨ mmR r = 4 ∨ mmR r = 6 ∨ mmR r = 7 :=
  (by decide : ∀ n < 6, 1 ≤ n → (8 * n + 5) / 6 = 2 ∨ (8 * n + 5) / 6 = 3 ∨ (8 * n + 5) / 6 = 4 ∨ (8 * n + 5) / 6 = 6 ∨ (8 * n + 5) / 6 = 7) r.length (Nat.lt_succ_of_le h5) h1
theorem mm_int {m : Nat} (h : m = 2 ∨ m = 3 ∨ m = 4 ∨ m = 6 ∨ m = 7) : (m : Int) = 2 ∨ (m : Int) = 3 ∨ (m : Int) = 4 ∨ (m : Int) = 6 ∨ (m : Int) = 7 :=
  h.imp (congrArg Int.ofNat) fun h => h.imp (congrArg Int.ofNat) fun h => h.imp (congrArg Int.ofNat) fun h => h.imp (congrArg Int.ofNat) (congrArg Int.ofNat)
theorem codes_8 {r : List UInt8} (h1 : 1 ≤ r.length) (h5 : r.length ≤ 5) : (codes r).length ≤ 8 := by
  rw [codes_len h1 h5]
  exact (by decide : ∀ n < 6, (8 * n + 5) / 6 + (4 - (8 * n + 5) / 6 % 4) % 4 ≤ 8) r.length (Nat.lt_succ_of_le h5)
theorem g_enc {r : List UInt8} (h1 : 1 ≤ r.length) (h5 : r.length ≤ 5) : gEnc [.bytes r] [] = some (.bytes (encB r)) := by
  show (if r.length ≤ 100 then some (Dt.bytes ((encD r).map fun n => n.toNat.toUInt8)) else none) = _
  rw [if_pos (Nat.le_trans h5 (by decide)), enc_codes h1 h5, List.map_map]
  rfl
theorem g_signs {r : List UInt8} (h1 : 1 ≤ r.length) (h5 : r.length ≤ 5) : gSigns [.int (ddR r), .int (mmR r)] [] = some (.str (textR r)) := by
  refine (if_pos (mm_int (mmR_vals h1 h5))).trans ?_
  rw [Int.toNat_natCast, signs_codes h1 h5]
  rfl
theorem vals_text {r : List UInt8} (h1 : 1 ≤ r.length) (h5 : r.length ≤ 5) : valsD (textR r) = (digs (rowN r)).map fun (n : Nat) => (n : Int) := by
  unfold valsD textR codes
  have e1 : ((digs (rowN r)).map fun (v : Nat) => sg (v : Int)).filter (· != 61) = (digs (rowN r)).map fun (v : Nat) => sg (v : Int) :=
    List.filter_eq_self.mpr fun c hc => (List.mem_map.mp hc).elim fun v hv => hv.2 ▸ bne_iff_ne.mpr (sg_lt v (digs_lt' r v hv.1)).2.1
  have e2 : (padS (mmR r)).filter (· != 61) = [] := List.filter_eq_nil_iff.mpr fun c hc => by rw [(List.mem_replicate.mp hc).2]; decide
  show ((((digs (rowN r)).map fun (v : Nat) => sg (v : Int)) ++ padS (mmR r)).filter (· != 61)).map _ = _
  rw [List.filter_append, e1, e2, List.append_nil, List.map_map]
  exact List.map_congr_left fun v hv => (sg_lt v (digs_lt h1 h5 v hv)).2.2
theorem g_digits {r : List UInt8} (h1 : 1 ≤ r.length) (h5 : r.length ≤ 5) (k : Int) : gDigits [.str (textR r), .int k] [] = some (.list (digitsD ((digs (rowN r)).map fun (n : Nat) => (n : Int)) k)) := by
  refine (if_pos ?_).trans (by rw [vals_text h1 h5])
  refine ⟨?_, ?_, ?_⟩
  · show (codes r).toArray.size ≤ 1000
    rw [List.size_toArray]
    exact Nat.le_trans (codes_8 h1 h5) (by decide)
  · exact List.all_eq_true.mpr (codes_all (P := fun (c : Nat) => (c == 61 || decide (valD (c : Int) < 64)) = true) rfl fun v hv => Bool.or_eq_true_iff.mpr (.inr (decide_eq_true (by rw [(sg_lt v hv).2.2]; exact Int.ofNat_lt.mpr hv))))
  · rw [vals_text h1 h5, List.length_map, digs_len h1 h5]
    exact mmR_vals h1 h5
theorem u8 {c : Nat} (h : c < 128) : c.toUInt8.toNat = c := by
  exact Nat.mod_eq_of_lt (Nat.lt_trans h (by decide))
theorem asc_text (r : List UInt8) : ascB (textR r) = encB r := rfl
theorem dec_sg {st : DS} {v : Nat} (hv : v < 64) : decStep st (sg (v : Int)).toUInt8 = (match st.qp with
  | 0 => ⟨1, v, 0, st.i + 1, st.out⟩
  | 1 => ⟨2, (v : Int) % 16, 0, st.i + 1, st.out ++ [st.lc * 4 + (v : Int) / 16]⟩
  | 2 => ⟨3, (v : Int) % 4, 0, st.i + 1, st.out ++ [st.lc * 16 + (v : Int) / 4]⟩
  | _ => ⟨0, 0, 0, st.i + 1, st.out ++ [st.lc * 64 + (v : Int)]⟩) := by
  obtain ⟨a, b, c⟩ := sg_lt v hv
  unfold decStep
  rw [u8 a, if_neg b, c]
  all_goals rfl
theorem sign_ok {r : List UInt8} (h1 : 1 ≤ r.length) (h5 : r.length ≤ 5) : (encB r).all signOk = true :=
  List.all_eq_true.mpr fun c hc => (List.mem_map.mp hc).elim fun n hn => hn.2 ▸ codes_all (P := fun n => signOk n.toUInt8 = true) rfl (fun v hv => by
    unfold signOk
    rw [u8 (sg_lt v hv).1, (sg_lt v hv).2.2]
    exact Bool.or_eq_true_iff.mpr (.inr (decide_eq_true (Int.ofNat_lt.mpr hv)))) n hn.1
theorem of8 (a : UInt8) (n : Int) (h : n = a.toNat) : n.toNat.toUInt8 = a := by
  rw [h, Int.toNat_natCast]
  exact UInt8.ofNat_toNat
noncomputable def bI (r : List UInt8) : List Int := r.map fun (c : UInt8) => (c.toNat : Int)
noncomputable def DecEnd (st : DS) (out : List Int) : Prop := st.qp ≠ 1 ∧ (st.qp = 0 ∨ 4 ≤ (st.qp : Int) + st.pads) ∧ st.out = out
noncomputable def sgB (v : Nat) : UInt8 := (sg (v : Int)).toUInt8
theorem dq (a e : Nat) {q f : Nat} (hq : q < f) : a / e * e + (a % e * f + q) / f = a := by
  rw [Nat.mul_comm _ f, Nat.mul_add_div (Nat.lt_of_le_of_lt (Nat.zero_le q) hq), Nat.div_eq_of_lt hq, Nat.add_zero, Nat.mul_comm]
  exact Nat.div_add_mod a e
theorem dm (x : Nat) {q f : Nat} (hq : q < f) : (x * f + q) % f = q := (Nat.mul_add_mod' x f q).trans (Nat.mod_eq_of_lt hq)
theorem d1 (a : UInt8) (b : Nat) (hb : b < 256) : ((a.toNat / 4 : Nat) : Int) * 4 + ((a.toNat % 4 * 16 + b / 16 : Nat) : Int) / 16 = (a.toNat : Int) :=
  congrArg Int.ofNat (dq a.toNat 4 (f := 16) (Nat.div_lt_of_lt_mul hb))
theorem d2 (a : Nat) (b : UInt8) (c : Nat) (hc : c < 256) : ((a % 4 * 16 + b.toNat / 16 : Nat) : Int) % 16 * 16 + ((b.toNat % 16 * 4 + c / 64 : Nat) : Int) / 4 = (b.toNat : Int) :=
  congrArg Int.ofNat ((congrArg (fun z => z * 16 + (b.toNat % 16 * 4 + c / 64) / 4) (dm _ (f := 16) (Nat.div_lt_of_lt_mul b.toNat_lt))).trans (dq b.toNat 16 (f := 4) (Nat.div_lt_of_lt_mul hc)))
theorem d3 (b : Nat) (c : UInt8) : ((b % 16 * 4 + c.toNat / 64 : Nat) : Int) % 4 * 64 + ((c.toNat % 64 : Nat) : Int) = (c.toNat : Int) :=
  congrArg Int.ofNat ((congrArg (fun z => z * 64 + c.toNat % 64) (dm _ (f := 4) (Nat.div_lt_of_lt_mul c.toNat_lt))).trans ((congrArg (· + c.toNat % 64) (Nat.mul_comm _ 64)).trans (Nat.div_add_mod c.toNat 64)))
theorem t0 {v : Nat} (hv : v < 64) (l p i : Int) (out : List Int) : decStep ⟨0, l, p, i, out⟩ (sgB v) = ⟨1, v, 0, i + 1, out⟩ := dec_sg hv
theorem t1 {v : Nat} (hv : v < 64) (l p i : Int) (out : List Int) : decStep ⟨1, l, p, i, out⟩ (sgB v) = ⟨2, (v : Int) % 16, 0, i + 1, out ++ [l * 4 + (v : Int) / 16]⟩ := dec_sg hv
theorem t2 {v : Nat} (hv : v < 64) (l p i : Int) (out : List Int) : decStep ⟨2, l, p, i, out⟩ (sgB v) = ⟨3, (v : Int) % 4, 0, i + 1, out ++ [l * 16 + (v : Int) / 4]⟩ := dec_sg hv
theorem t3 {v : Nat} (hv : v < 64) (l p i : Int) (out : List Int) : decStep ⟨3, l, p, i, out⟩ (sgB v) = ⟨0, 0, 0, i + 1, out ++ [l * 64 + (v : Int)]⟩ := dec_sg hv
noncomputable def decG (r : List UInt8) (st : DS) : DS := ((padS ((8 * r.length + 5) / 6)).map (·.toUInt8)).foldl decStep (((digs (rowN r)).map sgB).foldl decStep st)
theorem dec_gen : ∀ (r : List UInt8) (i : Int) (out : List Int), DecEnd (decG r ⟨0, 0, 0, i, out⟩) (out ++ bI r)
  | [], _, _ => ⟨Nat.zero_ne_one, .inl rfl, (List.append_nil _).symm⟩
  | [a], i, out => by
    have e : decG [a] ⟨0, 0, 0, i, out⟩ = decStep (decStep (decStep (decStep ⟨0, 0, 0, i, out⟩ (sgB (a.toNat / 4))) (sgB (a.toNat % 4 * 16 + UInt8.toNat 0 / 16))) 61) 61 := by kernel_rfl
    rw [e, t0 (q1 a), t1 (q2 a.toNat 0), d1 a (UInt8.toNat 0) (by decide)]
    exact ⟨(by decide : (2 : Nat) ≠ 1), .inr (by decide : (4 : Int) ≤ 2 + (0 + 1 + 1)), rfl⟩
  | [a, b], i, out => by
    have e : decG [a, b] ⟨0, 0, 0, i, out⟩ = decStep (decStep (decStep (decStep ⟨0, 0, 0, i, out⟩ (sgB (a.toNat / 4))) (sgB (a.toNat % 4 * 16 + b.toNat / 16))) (sgB (b.toNat % 16 * 4 + UInt8.toNat 0 / 64))) 61 := by kernel_rfl
    rw [e, t0 (q1 a), t1 (q2 a.toNat b), t2 (q3 b.toNat 0), d1 a b.toNat b.toNat_lt, d2 a.toNat b (UInt8.toNat 0) (by decide), List.append_assoc]
    exact ⟨(by decide : (3 : Nat) ≠ 1), .inr (by decide : (4 : Int) ≤ 3 + (0 + 1)), rfl⟩
  | a :: b :: c :: r, i, out => by
    have e : decG (a :: b :: c :: r) ⟨0, 0, 0, i, out⟩ = decG r (decStep (decStep (decStep (decStep ⟨0, 0, 0, i, out⟩ (sgB (a.toNat / 4))) (sgB (a.toNat % 4 * 16 + b.toNat / 16))) (sgB (b.toNat % 16 * 4 + c.toNat / 64))) (sgB (c.toNat % 64))) := by
      unfold decG
      rw [show padS ((8 * (a :: b :: c :: r).length + 5) / 6) = padS ((8 * r.length + 5) / 6) from pad3 r.length]
      rfl
    rw [e, t0 (q1 a), t1 (q2 a.toNat b), t2 (q3 b.toNat c), t3 (Nat.mod_lt c.toNat (by decide)), d1 a b.toNat b.toNat_lt, d2 a.toNat b c.toNat c.toNat_lt, d3]
    refine cast (congrArg (DecEnd _) ?_) (dec_gen r _ _)
    rw [List.append_assoc, List.append_assoc, List.append_assoc]
    rfl
theorem u8_bI : ∀ r : List UInt8, (bI r).map (fun n => n.toNat.toUInt8) = r
  | [] => rfl
  | a :: r => congr (congrArg List.cons (of8 a _ rfl)) (u8_bI r)
theorem dec_text {r : List UInt8} (h1 : 1 ≤ r.length) (h5 : r.length ≤ 5) : (decD (encB r)).qp ≠ 1 ∧ ((decD (encB r)).qp = 0 ∨ 4 ≤ ((decD (encB r)).qp : Int) + (decD (encB r)).pads) ∧ ((decD (encB r)).out.map fun n => n.toNat.toUInt8) = r := by
  obtain ⟨x, y, z⟩ := dec_gen r 0 []
  have e : decD (encB r) = decG r ⟨0, 0, 0, 0, []⟩ := by
    unfold decD encB codes decG
    rw [List.map_append, List.foldl_append, List.map_map]
    rfl
  rw [e]
  exact ⟨x, y, by rw [z]; exact u8_bI r⟩
end Mine
end
section
open PySem PySem.W PyProof.Rows
set_option maxRecDepth 100000
set_option maxHeartbeats 4000000
namespace Mine
theorem num_cons (x : UInt8) (r : List UInt8) : numD (x :: r) = (x.toNat : Int) * 256 ^ r.length + numD r := by
  show (x :: r).foldl _ 0 = _
  rw [List.foldl_cons, num_fold]
  simp
theorem num_app (a b : List UInt8) : numD (a ++ b) = numD a * 256 ^ b.length + numD b := by
  show (a ++ b).foldl _ 0 = _
  rw [List.foldl_append]
  exact num_fold b _
theorem pow256 (n : Nat) : (0 : Int) < 256 ^ n := Int.pow_pos (by decide)
theorem lex {x y : Nat} {p X Y : Int} (h : x < y) (hp : 0 < p) (hX : X < p) (hY : 0 ≤ Y) : (x : Int) * p + X < (y : Int) * p + Y :=
  Int.lt_of_lt_of_le (Int.add_lt_add_left hX _) (Int.le_trans (show (x : Int) * p + p ≤ (y : Int) * p from by
    have := Int.mul_le_mul_of_nonneg_right (Int.ofNat_le.mpr h) (Int.le_of_lt hp)
    rw [Int.natCast_succ, Int.add_mul, Int.one_mul] at this
    exact this) (Int.le_add_of_nonneg_right hY))
theorem num_range : ∀ b : List UInt8, 0 ≤ numD b ∧ numD b < 256 ^ b.length
  | [] => ⟨by decide, by decide⟩
  | x :: r => by
    obtain ⟨h0, h1⟩ := num_range r
    have hp := pow256 r.length
    rw [num_cons]
    refine ⟨Int.add_nonneg (Int.mul_nonneg (Int.natCast_nonneg _) (Int.le_of_lt hp)) h0, ?_⟩
    have := lex (y := 256) x.toNat_lt hp h1 (Int.le_refl 0)
    rw [Int.add_zero, Int.mul_comm ((256 : Nat) : Int)] at this
    exact this
theorem lex' {x y : UInt8} {b c : List UInt8} (hl : b.length = c.length) (h : x < y) : numD (x :: b) < numD (y :: c) := by
  rw [num_cons, num_cons, ← hl]
  exact lex (UInt8.lt_iff_toNat_lt.mp h) (pow256 _) (num_range b).2 (num_range c).1
theorem order_num : ∀ (b c : List UInt8), b.length = c.length → (Builtin.Bytes.order b c = .lt ↔ numD b < numD c) ∧ (Builtin.Bytes.order b c = .gt ↔ numD c < numD b)
  | [], [], _ => ⟨iff_of_false nofun (by decide), iff_of_false nofun (by decide)⟩
  | [], _ :: _, h => nomatch h
  | _ :: _, [], h => nomatch h
  | x :: xs, y :: ys, h => by
    have hl : xs.length = ys.length := Nat.succ.inj h
    unfold Builtin.Bytes.order
    by_cases hxy : x < y
    · rw [if_pos hxy]
      have g := lex' hl hxy
      exact ⟨iff_of_true rfl g, iff_of_false nofun (Int.lt_asymm g)⟩
    · rw [if_neg hxy]
      by_cases hyx : x > y
      · rw [if_pos hyx]
        have g := lex' hl.symm hyx
        exact ⟨iff_of_false nofun (Int.lt_asymm g), iff_of_true rfl g⟩
      · rw [if_neg hyx]
        obtain rfl : x = y := UInt8.le_antisymm (UInt8.not_lt.mp hyx) (UInt8.not_lt.mp hxy)
        rw [num_cons, num_cons, ← hl, Int.add_lt_add_iff_left, Int.add_lt_add_iff_left]
        exact order_num xs ys hl
theorem num_inj : ∀ {b c : List UInt8}, b.length = c.length → numD b = numD c → b = c
  | [], [], _, _ => rfl
  | [], _ :: _, h, _ => nomatch h
  | _ :: _, [], h, _ => nomatch h
  | x :: xs, y :: ys, h, e => by
    have hl : xs.length = ys.length := Nat.succ.inj h
    obtain rfl : x = y := UInt8.le_antisymm (UInt8.not_lt.mp fun q => Int.ne_of_gt (lex' hl.symm q) e) (UInt8.not_lt.mp fun q => Int.ne_of_lt (lex' hl q) e)
    rw [num_cons, num_cons, ← hl] at e
    rw [num_inj hl (Int.add_left_cancel e)]
noncomputable def fillR (r : List UInt8) : List UInt8 := r ++ List.replicate (5 - r.length) 0
theorem fill_len {r : List UInt8} (h5 : r.length ≤ 5) : (fillR r).length = 5 := by
  unfold fillR; rw [List.length_append, List.length_replicate]; exact Nat.add_sub_of_le h5
theorem zeros : ∀ n, numD (List.replicate n 0) = 0
  | 0 => rfl
  | n + 1 => by rw [List.replicate_succ, num_cons, zeros n, Int.add_zero]; exact Int.zero_mul _
theorem fill_num {r : List UInt8} (h5 : r.length ≤ 5) : ddR r * 1099511627776 = numD (fillR r) * 64 ^ mmR r := by
  unfold fillR ddR
  rw [num_app, List.length_replicate, zeros, Int.add_zero, Int.mul_assoc, Int.mul_assoc]
  exact congrArg (numD r * ·) ((by decide : ∀ n < 6, (2 : Int) ^ ((6 - 8 * n % 6) % 6) * 1099511627776 = 256 ^ (5 - n) * 64 ^ ((8 * n + 5) / 6)) r.length (Nat.lt_succ_of_le h5))
noncomputable def pairLtR (b : List UInt8) (i : Int) (c : List UInt8) (j : Int) : Bool := if b == c then decide (i < j) else (Builtin.Bytes.order b c == .lt)
noncomputable def cmR (a b : List UInt8) : Int := ddR a * 64 ^ mmR b - ddR b * 64 ^ mmR a
theorem cm_lt {a b : List UInt8} (ha5 : a.length ≤ 5) (hb5 : b.length ≤ 5) : ddR a * 64 ^ mmR b < ddR b * 64 ^ mmR a ↔ numD (fillR a) < numD (fillR b) := by
  have hp : ∀ n, (0 : Int) < 64 ^ n := fun n => Int.pow_pos (by decide)
  rw [← Int.mul_lt_mul_right (show (0 : Int) < 1099511627776 by decide), Int.mul_right_comm, fill_num ha5, Int.mul_right_comm (ddR b), fill_num hb5, Int.mul_right_comm, Int.mul_lt_mul_right (hp _), Int.mul_lt_mul_right (hp _)]
theorem cm_sign {a b : List UInt8} (ha5 : a.length ≤ 5) (hb5 : b.length ≤ 5) : (cmR a b < 0 ↔ numD (fillR a) < numD (fillR b)) ∧ (0 < cmR a b ↔ numD (fillR b) < numD (fillR a)) :=
  ⟨(Iff.intro Int.lt_of_sub_neg Int.sub_neg_of_lt).trans (cm_lt ha5 hb5), Int.sub_pos.trans (cm_lt hb5 ha5)⟩
noncomputable def lt1 (rows : List (List UInt8)) (i j : Nat) : Bool := pairLtR (fillR (rows.getD i [])) i (fillR (rows.getD j [])) j
noncomputable def lt2 (rows : List (List UInt8)) (i j : Nat) : Bool := decide (cmR (rows.getD i []) (rows.getD j []) < 0)
structure RowsOk (rows : List (List UInt8)) : Prop where
  len : ∀ r ∈ rows, 1 ≤ r.length ∧ r.length ≤ 5
  n1 : 6 ≤ rows.length
  n2 : rows.length ≤ 10
theorem RowsOk.at {rows : List (List UInt8)} (h : RowsOk rows) {i : Nat} (hi : i < rows.length) : 1 ≤ (rows.getD i []).length ∧ (rows.getD i []).length ≤ 5 := by
  rw [List.getD_eq_getElem?_getD, List.getElem?_eq_getElem hi]
  exact h.len _ (List.getElem_mem hi)
theorem RowsOk.le {rows : List (List UInt8)} (h : RowsOk rows) (i : Nat) : (rows.getD i []).length ≤ 5 := by
  by_cases hi : i < rows.length
  · exact (h.at hi).2
  · rw [List.getD_eq_getElem?_getD, List.getElem?_eq_none (Nat.not_lt.mp hi)]; exact Nat.zero_le 5
theorem pair_num {a b : List UInt8} (ha : a.length ≤ 5) (hb : b.length ≤ 5) (i j : Int) : pairLtR (fillR a) i (fillR b) j = true ↔ numD (fillR a) < numD (fillR b) ∨ (numD (fillR a) = numD (fillR b) ∧ i < j) := by
  have hl : (fillR a).length = (fillR b).length := by rw [fill_len ha, fill_len hb]
  unfold pairLtR
  by_cases e : fillR a = fillR b
  · rw [e, if_pos (beq_self_eq_true _), decide_eq_true_iff]
    exact ⟨fun h => .inr ⟨rfl, h⟩, fun h => h.elim (fun h => absurd h (Int.lt_irrefl _)) (·.2)⟩
  · rw [if_neg fun q => e (beq_iff_eq.mp q), beq_iff_eq, (order_num _ _ hl).1]
    exact ⟨.inl, fun h => h.elim id fun h => absurd (num_inj hl h.1) e⟩
theorem lt2_num {rows : List (List UInt8)} (h : RowsOk rows) (i j : Nat) : lt2 rows i j = decide (numD (fillR (rows.getD i [])) < numD (fillR (rows.getD j []))) :=
  decide_eq_decide.mpr (cm_sign (h.le i) (h.le j)).1
theorem swo2 {rows : List (List UInt8)} (h : RowsOk rows) : Swo (lt2 rows) where
  asym := fun i j q => by
    rw [lt2_num h] at q ⊢
    exact decide_eq_false (Int.lt_asymm (of_decide_eq_true q))
  cot := fun i j k q => by
    rw [lt2_num h] at q ⊢
    rw [lt2_num h]
    exact (Int.lt_or_le (numD (fillR (rows.getD i []))) (numD (fillR (rows.getD j [])))).imp decide_eq_true fun g => decide_eq_true (Int.lt_of_le_of_lt g (of_decide_eq_true q))
theorem lt1_rr {rows : List (List UInt8)} (h : RowsOk rows) (i j : Nat) : lt1 rows i j = true ↔ RR (lt2 rows) i j := by
  refine (pair_num (h.le i) (h.le j) i j).trans ?_
  unfold RR
  rw [lt2_num h, lt2_num h, decide_eq_true_iff, decide_eq_false_iff_not]
  exact ⟨fun q => q.imp id fun q => ⟨fun g => Int.ne_of_lt g q.1.symm, Int.ofNat_lt.mp q.2⟩, fun q => q.elim .inl fun q => (Int.lt_or_eq_of_le (Int.not_lt.mp q.1)).imp id fun e => ⟨e, Int.ofNat_lt.mpr q.2⟩⟩
theorem swo1 {rows : List (List UInt8)} (h : RowsOk rows) : Swo (lt1 rows) where
  asym := fun i j q => Bool.eq_false_iff.mpr fun g => (((lt1_rr h i j).mp q).trans (swo2 h) ((lt1_rr h j i).mp g)).irr (swo2 h)
  cot := fun i j k q => by
    rw [lt1_rr h] at q ⊢
    rw [lt1_rr h]
    by_cases e : lt2 rows j i = true
    · exact .inr (RR.trans (swo2 h) (.inl e) q)
    · rcases Nat.lt_or_ge i j with g | g
      · exact .inl (.inr ⟨Bool.eq_false_iff.mpr e, g⟩)
      · by_cases e2 : lt2 rows i j = true
        · exact .inl (.inl e2)
        · rcases Nat.lt_or_eq_of_le g with g | g
          · exact .inr (RR.trans (swo2 h) (.inr ⟨Bool.eq_false_iff.mpr e2, g⟩) q)
          · exact .inr (g ▸ q)
theorem rr_same {rows : List (List UInt8)} (h : RowsOk rows) (i j : Nat) (q : RR (lt2 rows) i j) : RR (lt1 rows) i j := .inl ((lt1_rr h i j).mpr q)
theorem told_same {a b : List UInt8} (ha : a.length ≤ 5) (hb : b.length ≤ 5) : gAsked [.bytes (fillR a), .bytes (fillR b)] [] = some (.list [.bool (decide (cmR a b < 0)), .bool (decide (0 < cmR a b)), .bool (decide (cmR a b ≤ 0)), .bool (decide (0 ≤ cmR a b)), .bool (cmR a b == 0), .bool (!(cmR a b == 0))]) := by
  have hl : (fillR a).length = (fillR b).length := by rw [fill_len ha, fill_len hb]
  obtain ⟨o1, o2⟩ := order_num _ _ hl
  obtain ⟨c1, c2⟩ := cm_sign ha hb
  have b1 : (Builtin.Bytes.order (fillR a) (fillR b) == .lt) = decide (cmR a b < 0) := Bool.eq_iff_iff.mpr (beq_iff_eq.trans (o1.trans (c1.symm.trans decide_eq_true_iff.symm)))
  have b2 : (Builtin.Bytes.order (fillR a) (fillR b) == .gt) = decide (0 < cmR a b) := Bool.eq_iff_iff.mpr (beq_iff_eq.trans (o2.trans (c2.symm.trans decide_eq_true_iff.symm)))
  have b3 : (Builtin.Bytes.order (fillR a) (fillR b) != .gt) = decide (cmR a b ≤ 0) := (congrArg not b2).trans ((decide_not).symm.trans (decide_eq_decide.mpr Int.not_lt))
  have b4 : (Builtin.Bytes.order (fillR a) (fillR b) != .lt) = decide (0 ≤ cmR a b) := (congrArg not b1).trans ((decide_not).symm.trans (decide_eq_decide.mpr Int.not_lt))
  have b5 : (fillR a == fillR b) = (cmR a b == 0) := Bool.eq_iff_iff.mpr (beq_iff_eq.trans (Iff.trans ⟨fun e => Int.le_antisymm (Int.not_lt.mp fun q => Int.lt_irrefl _ (e ▸ c2.mp q)) (Int.not_lt.mp fun q => Int.lt_irrefl _ (e ▸ c1.mp q)), fun e => num_inj hl (Int.le_antisymm (Int.not_lt.mp fun q => Int.ne_of_gt (c2.mpr q) e) (Int.not_lt.mp fun q => Int.ne_of_lt (c1.mpr q) e))⟩ beq_iff_eq.symm))
  rw [← b1, ← b2, ← b3, ← b4, ← b5]
  rfl
end Mine
end
section
open PySem PySem.W PyProof.Rows
set_option maxRecDepth 100000
set_option maxHeartbeats 4000000
namespace Mine
variable {prog : Program} {w : World} {A : Around} {E : Value → Shared → Prop} {s s₀ : Shared} {env : Env}
noncomputable def scL : List (Str × NameKind) := [(Str.ofString "script", .cell), (Str.ofString "rows", .cell), (Str.ofString "places", .local), (Str.ofString "written", .local), (Str.ofString "texts", .cell), (Str.ofString "rest", .cell), (Str.ofString "read", .cell),
  (Str.ofString "back", .local), (Str.ofString "key", .cell), (Str.ofString "filled", .cell), (Str.ofString "laid", .cell), (Str.ofString "told", .local), (Str.ofString "due", .cell), (Str.ofString "many", .cell),
  (Str.ofString "range", .globalImplicit), (Str.ofString "len", .globalImplicit), (Str.ofString "iter", .globalImplicit), (Str.ofString "cmp_to_key", .globalImplicit), (Str.ofString "sorted", .globalImplicit)]
theorem scL_eq (P : Params) : (fdAt (Kx P) 166).scope.names = scL := by kernel_rfl
theorem codeL (P : Params) : (fdAt (Kx P) 166).code = .ref 165 := by kernel_rfl
noncomputable def stL (P : Params) (i : Nat) : Stmt := (bodyAt (Kx P) 166).getD i (.Pass default)
theorem bodyL (P : Params) : bodyAt (Kx P) 166 = [stL P 0, stL P 1, stL P 2, stL P 3, stL P 4, stL P 5, stL P 6, stL P 7, stL P 8, stL P 9, stL P 10, stL P 11, stL P 12, stL P 13, stL P 14, stL P 15, stL P 16] := by kernel_rfl
noncomputable def cfL : Orc := ((((((cf0.or (Str.ofString "_law_row") gRow).or (Str.ofString "_law_number") gNum).or (Str.ofString "_law_asked") gAsked).or (Str.ofString "_law_signs") gSigns).or (Str.ofString "_law_digits") gDigits).or (Str.ofString "b64encode") gEnc).or (Str.ofString "b64decode") gDec
theorem cfL_f (P : Params) : CF (Kx P) prog w 3 cfL := CF.or (Nat.le_refl _) (CF.or (by lia : 2 ≤ 3) (CF.or (Nat.le_refl _) (CF.or (by lia : 1 ≤ 2) (CF.or (Nat.le_refl _) (CF.or (Nat.le_refl _) (CF.or (Nat.zero_le _) (cf0_f (m := 0)) (c_row P)) (c_num P)) (c_asked P)) (c_signs P)) (c_digits P)) (c_enc P)) (c_dec P)
theorem cfL_g (P : Params) : CG (Kx P) cfL := cf0_g P
structure LE (P : Params) (s₀ : Shared) (env : Env) (A : Around) : Prop where
  sc : ScOk scL env
  sep : Sep (Wr env none ++ [111, 163]) env none
  gw : GdW (Kx P) (Wr env none)
  code : env.code = .ref 165
  rm : Rm A 20
  fresh : ∀ b ∈ Wr env none, s₀.heap.get? b = none
  t11 : ∃ o, s₀.heap.get? 111 = some o
  t63 : ∃ o, s₀.heap.get? 163 = some o
  gd0 : Gd (Kx P) s₀.heap
  cel : ∀ p ∈ env.cells, env.cells.lookup p.1 = some p.2 ∧ env.kindOf p.1 = some .cell
structure LS (P : Params) (s₀ s : Shared) (env : Env) (Z : List Addr) (ρ : List (Str × Dt)) (o11 o63 : Obj) : Prop where
  kp : KeepsW [111, 163] s₀ s
  st : StOk s.heap (Z ++ (Wr env none ++ [111, 163])) env none (ρ, [])
  gd : Gd (Kx P) s.heap
  t11 : s.heap.get? 111 = some o11
  t63 : s.heap.get? 163 = some o63
theorem LE.nT {P : Params} (L : LE P s₀ env A) : 111 ∉ Wr env none ∧ 163 ∉ Wr env none := by
  refine ⟨fun q => ?_, fun q => ?_⟩
  · obtain ⟨o, ho⟩ := L.t11; rw [L.fresh _ q] at ho; cases ho
  · obtain ⟨o, ho⟩ := L.t63; rw [L.fresh _ q] at ho; cases ho
theorem LS.step {P : Params} {s' : Shared} {Z Z' : List Addr} {ρ ρ' : List (Str × Dt)} {o11 o63 : Obj} {W : List Addr} (L : LE P s₀ env A) (S : LS P s₀ s env Z ρ o11 o63) (hW : ∀ b ∈ W, s₀.heap.get? b = none) (gw : GdW (Kx P) W) (k : KeepsW W s s') (N : StOk s'.heap (Z' ++ (Wr env none ++ [111, 163])) env none (ρ', [])) : LS P s₀ s' env Z' ρ' o11 o63 := by
  have n11 : 111 ∉ W := fun q => by obtain ⟨o, ho⟩ := L.t11; rw [hW _ q] at ho; cases ho
  have n63 : 163 ∉ W := fun q => by obtain ⟨o, ho⟩ := L.t63; rw [hW _ q] at ho; cases ho
  have h1 := k.out 111 _ n11 S.t11
  have h2 := k.out 163 _ n63 S.t63
  have gd := Gd.keepsW k gw S.gd
  refine ⟨?_, N, gd, h1, h2⟩
  obtain ⟨hh, tt, e, a, b⟩ := S.kp
  obtain ⟨h', tk', rfl, c, d⟩ := k
  refine ⟨h', tk', by rw [e], fun x o hx ex => ?_, fun x hx _ => ?_⟩
  · have hs := S.kp.out x o hx ex
    exact c x o (fun q => by rw [hW x q] at ex; cases ex) hs
  · simp only [List.mem_cons, List.not_mem_nil, or_false] at hx
    rcases hx with rfl | rfl
    · exact ⟨_, h1⟩
    · exact ⟨_, h2⟩
theorem LE.sepZ {P : Params} (L : LE P s₀ env A) (Z : List Addr) : Sep (Z ++ (Wr env none ++ [111, 163])) env none := L.sep.grow fun b hb => List.mem_append_right _ hb
theorem pure_stmt {P : Params} {st : Stmt} {n : Nat} {Z : List Addr} {ρ ρ' : List (Str × Dt)} {o11 o63 : Obj} (L : LE P s₀ env A) (S : LS P s₀ s env Z ρ o11 o63) (h : ex1 cfL none n scL (ρ, []) st = some (.next, (ρ', []))) :
    wpAny (model prog w) A (exec st env) (fun f s' => f = .next ∧ LS P s₀ s' env Z ρ' o11 o63 ∧ KeepsW (Wr env none) s s') E s := by
  refine monoP ((ex_sound (oa := none) (m := 3) (Bn_x P) (cfL_g P) (cfL_f P) n).1 scL (ρ, []) st .next (ρ', []) env A E s _ h L.sc (L.sepZ Z) S.st S.gd L.gw (L.rm.mono (by decide))) fun f s' k N hf => ?_
  exact ⟨hf, S.step L L.fresh L.gw k N, k⟩
theorem LS.nkW {P : Params} {Z : List Addr} {ρ : List (Str × Dt)} {o11 o63 : Obj} (L : LE P s₀ env A) (S : LS P s₀ s env Z ρ o11 o63) : ∀ b ∈ Wr env none, ∃ o, s.heap.get? b = some o ∧ nk o = false := by
  intro b hb
  unfold Wr at hb
  simp only [Option.toList_none, List.append_nil] at hb
  rcases List.mem_cons.mp hb with rfl | hb
  · obtain ⟨m, ⟨o, es, ep, ho, hd, _⟩, _⟩ := S.st.env.loc
    exact ⟨o, ho, by unfold nk; rw [hd]⟩
  · obtain ⟨p, hp, rfl⟩ := List.mem_map.mp hb
    obtain ⟨h1, h2⟩ := L.cel p hp
    obtain ⟨c, ov, hc, ⟨o, ho, hd⟩, _⟩ := S.st.env.cel p.1 (.inl h2)
    rw [h1] at hc
    cases hc
    exact ⟨o, ho, by unfold nk; rw [hd]⟩
theorem LS.nkKeep {P : Params} {s' : Shared} {Z : List Addr} {ρ : List (Str × Dt)} {o11 o63 : Obj} (L : LE P s₀ env A) (S : LS P s₀ s env Z ρ o11 o63) (k : KeepsW (Wr env none) s s') : ∀ b o, nk o = true → s.heap.get? b = some o → s'.heap.get? b = some o := fun b o hn e => k.out b o (fun q => by
  obtain ⟨o', ho', hf⟩ := S.nkW L b q
  rw [e] at ho'; cases ho'
  rw [hn] at hf; cases hf) e
end Mine
end
section
open PySem PySem.W PyProof.Rows
set_option maxRecDepth 100000
set_option maxHeartbeats 4000000
namespace Mine
noncomputable def bsD (rows : List (List UInt8)) : Dt := .list (rows.map .bytes)
noncomputable def intsD' (l : List Int) : Dt := .list (l.map .int)
noncomputable def eS (ns : List Int) : Str × Dt := (Str.ofString "script", intsD' ns)
noncomputable def eR (rows : List (List UInt8)) : Str × Dt := (Str.ofString "rows", bsD rows)
noncomputable def eP (rows : List (List UInt8)) : Str × Dt := (Str.ofString "places", .range rows.length)
noncomputable def eW (rows : List (List UInt8)) : Str × Dt := (Str.ofString "written", bsD (rows.map encB))
noncomputable def eM (rows : List (List UInt8)) : Str × Dt := (Str.ofString "many", intsD' (rows.map fun r => (mmR r : Int)))
noncomputable def eD (rows : List (List UInt8)) : Str × Dt := (Str.ofString "due", intsD' (rows.map ddR))
noncomputable def eT (rows : List (List UInt8)) : Str × Dt := (Str.ofString "texts", .list (rows.map fun r => .str (textR r)))
theorem st2_ev (P : Params) {rows : List (List UInt8)} (h : RowsOk rows) (ns : List Int) : ex1 cfL none 20 scL ([eS ns, eR rows, eP rows, eW rows], []) (stL P 2) = some (.next, ([eS ns, eR rows, eP rows, eW rows, eM rows], [])) := by
  have hl : (rows.map Dt.bytes).length ≤ 1000 := by rw [List.length_map]; exact Nat.le_trans h.n2 (by decide)
  have hgo := go_map (f := cF cfL 18 [eS ns, eR rows, eP rows, eW rows] (stE (stL P 2))) (mk := Dt.bytes) (fun r => .int (mmR r)) (l := rows) (fun r hr => by
    have e1 : binD .FloorDiv (.int (8 * (r.length : Int) + 5)) (.int 6) = some (.int (mmR r)) := (bfd (8 * (r.length : Int) + 5) 6 rfl).trans (congrArg (fun z => some (Dt.int z)) (Int.fdiv_eq_ediv_of_nonneg (8 * (r.length : Int) + 5) (by decide)))
    exact cF_by [.d (.int r.length), .d (.int (8 * r.length)), .d (.int (mmR r))] (fun z => ai (len_b (l := r) (Nat.le_trans (h.len r hr).2 (by decide))) (ai (bml 8 r.length rfl) (ai e1 z))) (by kernel_rfl))
  have hgo : _ = some ((rows.map fun r => (mmR r : Int)).map Dt.int) := hgo.trans (by rw [List.map_map]; rfl)
  exact ex_by [.l ((rows.map fun r => (mmR r : Int)).map Dt.int)] (fun z => ai hl (ai hgo z)) (by kernel_rfl)
theorem st3_ev (P : Params) {rows : List (List UInt8)} (h : RowsOk rows) (ns : List Int) : ex1 cfL none 20 scL ([eS ns, eR rows, eP rows, eW rows, eM rows], []) (stL P 3) = some (.next, ([eS ns, eR rows, eP rows, eW rows, eM rows, eD rows], [])) := by
  have hl : (rows.map Dt.bytes).length ≤ 1000 := by rw [List.length_map]; exact Nat.le_trans h.n2 (by decide)
  have hgo := go_map (f := cF cfL 18 [eS ns, eR rows, eP rows, eW rows, eM rows] (stE (stL P 3))) (mk := Dt.bytes) (fun r => .int (ddR r)) (l := rows) (fun r hr => by
    have e1 : binD .Mod (.int (-8 * (r.length : Int))) (.int 6) = some (.int (pwR r)) := (bmd (-8 * (r.length : Int)) 6 rfl).trans (congrArg (fun z => some (Dt.int z)) (by
      unfold pwR
      rw [Int.fmod_eq_emod_of_nonneg _ (by decide)]
      lia))
    have hp : pwR r ≤ 5 := Nat.le_of_lt_succ (Nat.mod_lt _ (by decide))
    exact cF_by [.d (.int (numD r)), .d (.int r.length), .d (.int (-8 * r.length)), .d (.int (pwR r)), .d (.int (2 ^ pwR r)), .d (.int (ddR r))]
      (fun z => ai (dd (.int (numD r))) (ai (len_b (l := r) (Nat.le_trans (h.len r hr).2 (by decide))) (ai (bml (-8) r.length rfl) (ai e1 (ai (bpw 2 (pwR r) (Nat.le_trans hp (by decide)) rfl) (ai (bmp (numD r) 2 (pwR r) 5 hp rfl) z)))))) (by kernel_rfl))
  have hgo : _ = some ((rows.map ddR).map Dt.int) := hgo.trans (by rw [List.map_map]; rfl)
  exact ex_by [.l ((rows.map ddR).map Dt.int)] (fun z => ai hl (ai hgo z)) (by kernel_rfl)
theorem encB_nat {r : List UInt8} (h1 : 1 ≤ r.length) (h5 : r.length ≤ 5) : (encB r).map (fun c => c.toNat) = codes r := by
  unfold encB
  rw [List.map_map]
  conv => rhs; rw [← List.map_id (codes r)]
  exact List.map_congr_left fun c hc => u8 (codes_lt h1 h5 c hc)
theorem st4_ev (P : Params) {rows : List (List UInt8)} (h : RowsOk rows) (ns : List Int) : ex1 cfL none 20 scL ([eS ns, eR rows, eP rows, eW rows, eM rows, eD rows], []) (stL P 4) = some (.next, ([eS ns, eR rows, eP rows, eW rows, eM rows, eD rows, eT rows], [])) := by
  have hl : ((rows.map encB).map Dt.bytes).length ≤ 1000 := by rw [List.length_map, List.length_map]; exact Nat.le_trans h.n2 (by decide)
  have hgo := go_map (f := cF cfL 18 [eS ns, eR rows, eP rows, eW rows, eM rows, eD rows] (stE (stL P 4))) (mk := fun r => Dt.bytes (encB r)) (fun r => .str (textR r)) (l := rows) (fun r hr => by
    obtain ⟨h1, h5⟩ := h.len r hr
    have hm : (codes r).length ≤ 1000 := by rw [codes_len h1 h5]; unfold mmR; lia
    have hlen : ((encB r).map fun c : UInt8 => Dt.int (c.toNat : Int)).length ≤ 1000 := by unfold encB; rw [List.length_map, List.length_map]; exact hm
    have hin := go_map (f := cF cfL 16 ((Str.ofString "text", .bytes (encB r)) :: [eS ns, eR rows, eP rows, eW rows, eM rows, eD rows]) (kids (stE (stL P 4)) [0, 1])) (mk := fun c : UInt8 => Dt.int (c.toNat : Int)) (fun c => .str ⟨#[c.toNat]⟩) (l := encB r) (fun c hc =>
      cF_by [.d (.str ⟨#[c.toNat]⟩)] (fun z => ai (blt_chr c.toNat (codes_lt h1 h5 _ (by rw [← encB_nat h1 h5]; exact List.mem_map_of_mem hc))) z) (by kernel_rfl))
    have hin : _ = some (charsD (codes r)) := hin.trans (by rw [← encB_nat h1 h5]; unfold charsD; rw [List.map_map]; rfl)
    exact cF_by [.l (charsD (codes r)), .d (.str (textR r))] (fun z => ai hlen (ai hin (ai (meth_join (codes r) hm) z))) (by kernel_rfl))
  have hgo : compGo (cF cfL 18 [eS ns, eR rows, eP rows, eW rows, eM rows, eD rows] (stE (stL P 4))) ((rows.map encB).map Dt.bytes) = some (rows.map fun r => Dt.str (textR r)) := by rw [List.map_map]; exact hgo
  exact ex_by [.l (rows.map fun r => .str (textR r))] (fun z => ai hl (ai hgo z)) (by kernel_rfl)
end Mine
end
section
open PySem PySem.W PyProof.Rows
set_option maxRecDepth 100000
set_option maxHeartbeats 4000000
namespace Mine
theorem eqL_self : ∀ {l : List Dt}, (∀ d ∈ l, sameD d d = true) → sameL l l = true
  | [], _ => rfl
  | d :: r, h => by
    show (sameD d d && sameL r r) = true
    rw [h d (.head _), eqL_self fun d hd => h d (.tail _ hd)]; rfl
theorem eqD_self {l : List Dt} (h : ∀ d ∈ l, sameD d d = true) : sameD (.list l) (.list l) = true := eqL_self h
theorem ne_self {l : List Dt} (h : ∀ d ∈ l, sameD d d = true) (hd : depL l ≤ 49) : cmpD .NotEq (.list l) (.list l) = some false := if_pos ⟨Nat.succ_le_succ hd, eqD_self h⟩
theorem eq_self {l : List Dt} (h : ∀ d ∈ l, sameD d d = true) (hd : depL l ≤ 49) : cmpD .Eq (.list l) (.list l) = some true := if_pos ⟨Nat.succ_le_succ hd, eqD_self h⟩
theorem depL_le {l : List Dt} {k : Nat} (h : ∀ d ∈ l, dep d ≤ k) : depL l ≤ k := by
  induction l with
  | nil => unfold depL; lia
  | cons d r ih =>
    unfold depL
    exact Nat.max_le.mpr ⟨h d (.head _), ih fun d hd => h d (.tail _ hd)⟩
theorem eqD_int (i : Int) : sameD (.int i) (.int i) = true := beq_self_eq_true i
theorem eqD_str (i : Str) : sameD (.str i) (.str i) = true := beq_self_eq_true i
theorem eqD_bytes (i : List UInt8) : sameD (.bytes i) (.bytes i) = true := beq_self_eq_true i
theorem eqD_bool (i : Bool) : sameD (.bool i) (.bool i) = true := beq_self_eq_true i
theorem dep_int (i : Int) : dep (.int i) = 0 := by unfold dep; rfl
theorem dep_str (i : Str) : dep (.str i) = 0 := by unfold dep; rfl
theorem dep_bytes (i : List UInt8) : dep (.bytes i) = 0 := by unfold dep; rfl
theorem dep_bool (i : Bool) : dep (.bool i) = 0 := by unfold dep; rfl
theorem ne_nil : cmpD .NotEq (.list []) (.list []) = some false := ne_self (fun d hd => by cases hd) (by unfold depL; lia)
theorem item_at {l : List Dt} {i : Nat} (hi : i < l.length) (hl : l.length ≤ 1000) : itemD (.list l) (.int (i : Int)) = l[i]? := by
  show (if l.length ≤ 1000 then (placeD (i : Int) l.length).bind fun k => l[k]? else none) = _
  rw [if_pos hl]
  unfold placeD
  rw [if_pos ⟨by lia, by lia⟩]
  simp
theorem map_range {α β : Type} (l : List α) (d : α) (g : α → β) : (List.range l.length).map (fun i => g (l.getD i d)) = l.map g := by
  apply List.ext_getElem?
  intro i
  rw [List.getElem?_map, List.getElem?_map]
  by_cases hi : i < l.length
  · rw [List.getElem?_eq_getElem hi]
    simp [hi, List.getD_eq_getElem?_getD]
  · rw [List.getElem?_eq_none (by simpa using hi), List.getElem?_eq_none (by lia)]
    rfl
theorem items_range {n : Nat} (h : n ≤ 1000) : itemsD (.range n) = some ((List.range n).map fun (i : Nat) => Dt.int (i : Int)) := by
  show (if n ≤ 1000 then some ((List.range n).map fun (i : Nat) => Dt.int (i : Int)) else none) = _
  rw [if_pos h]
theorem at_map {α : Type} (l : List α) (d : α) (g : α → Dt) {i : Nat} (hi : i < l.length) (hl : l.length ≤ 1000) : itemD (.list (l.map g)) (.int i) = some (g (l.getD i d)) :=
  item_k _ i _ (by rw [List.length_map]; exact hl) (by rw [List.getElem?_map, List.getD_eq_getElem?_getD, List.getElem?_eq_getElem hi]; rfl)
theorem at_map2 {α : Type} (l : List α) (d : α) (f : α → Int) {i : Nat} (hi : i < l.length) (hl : l.length ≤ 1000) : itemD (intsD' (l.map f)) (.int i) = some (.int (f (l.getD i d))) := by
  unfold intsD'
  rw [List.map_map]
  exact at_map l d (Dt.int ∘ f) hi hl
theorem row_in {rows : List (List UInt8)} (h : RowsOk rows) {i : Nat} (hi : i < rows.length) : 1 ≤ (rows.getD i []).length ∧ (rows.getD i []).length ≤ 5 := by
  rw [List.getD_eq_getElem?_getD, List.getElem?_eq_getElem hi]
  exact h.len _ (List.getElem_mem hi)
theorem ne_plain {α : Type} (l : List α) (g : α → Dt) (h : ∀ a, sameD (g a) (g a) = true) (h0 : ∀ a, dep (g a) = 0) : cmpD .NotEq (.list (l.map g)) (.list (l.map g)) = some false := ne_self (fun d hd => by
    obtain ⟨r, _, rfl⟩ := List.mem_map.mp hd
    exact h _) (Nat.le_trans (depL_le (k := 0) fun d hd => by
    obtain ⟨r, _, rfl⟩ := List.mem_map.mp hd
    rw [h0]; exact Nat.le_refl _) (by decide))
theorem places_len {rows : List (List UInt8)} (h : RowsOk rows) (f : Nat → Dt) : ((List.range rows.length).map f).length ≤ 1000 := by rw [List.length_map, List.length_range]; exact Nat.le_trans h.n2 (by decide)
theorem st5_ev (P : Params) {rows : List (List UInt8)} (h : RowsOk rows) (ns : List Int) : ex1 cfL none 20 scL ([eS ns, eR rows, eP rows, eW rows, eM rows, eD rows, eT rows], []) (stL P 5) = some (.next, ([eS ns, eR rows, eP rows, eW rows, eM rows, eD rows, eT rows], [])) := by
  have n2' : rows.length ≤ 1000 := Nat.le_trans h.n2 (by decide)
  have hgo := go_map (f := cF cfL 15 [eS ns, eR rows, eP rows, eW rows, eM rows, eD rows, eT rows] (kids (stE (stL P 5)) [0, 1])) (mk := fun (i : Nat) => Dt.int (i : Int)) (fun i => .str (textR (rows.getD i []))) (l := List.range rows.length) (fun i hi => by
    have hi := List.mem_range.mp hi
    obtain ⟨h1, h5⟩ := row_in h hi
    exact cF_by [.d (.int (ddR (rows.getD i []))), .d (.int (mmR (rows.getD i []))), .d (.str (textR (rows.getD i [])))] (fun z => ai (at_map2 rows [] ddR hi n2') (ai (at_map2 rows [] (fun r => (mmR r : Int)) hi n2') (ai (g_signs h1 h5) z))) (by kernel_rfl))
  have hgo : _ = some (rows.map fun r => Dt.str (textR r)) := hgo.trans (by rw [map_range rows [] fun r => Dt.str (textR r)])
  have hdr := go_drop (f := cF cfL 14 [eS ns, eR rows, eP rows, eW rows, eM rows, eD rows, eT rows] (kids (stE (stL P 5)) [1, 0])) (mk := Dt.bytes) (l := rows.map encB) (fun b _ => cF_by [.d (.ty "bytes"), .b false] (fun z => ai (dd (.ty "bytes")) (ai (bb false) z)) (by kernel_rfl))
  have hl : ((rows.map encB).map Dt.bytes).length ≤ 1000 := by rw [List.length_map, List.length_map]; exact n2'
  exact ex_by [.l ((List.range rows.length).map fun (i : Nat) => .int (i : Int)), .l (rows.map fun r => Dt.str (textR r)), .b false, .l [], .b false]
    (fun z => ai (rng rows.length n2') (ai (places_len h fun (i : Nat) => .int (i : Int)) (ai hgo (ai (ne_plain rows (fun r => Dt.str (textR r)) (fun _ => eqD_str _) (fun _ => dep_str _)) (ai hl (ai hdr (ai ne_nil z))))))) (by kernel_rfl)
end Mine
end
section
open PySem PySem.W PyProof.Rows
set_option maxRecDepth 100000
set_option maxHeartbeats 4000000
namespace Mine
noncomputable def rdD (rows : List (List UInt8)) : Dt := .list ((List.range rows.length).map fun i => .list [.int (ddR (rows.getD i [])), .int ((i : Int) * 7)])
noncomputable def eI (I : Addr) : Str × Dt := (Str.ofString "rest", .opq (.ref I))
noncomputable def eRd (rows : List (List UInt8)) : Str × Dt := (Str.ofString "read", rdD rows)
noncomputable def eB (rows : List (List UInt8)) : Str × Dt := (Str.ofString "back", bsD rows)
theorem g_dec {r : List UInt8} (h1 : 1 ≤ r.length) (h5 : r.length ≤ 5) : gDec [.str (textR r)] [] = some (.bytes r) := by
  show (if isAsc (textR r) = true ∧ (ascB (textR r)).length ≤ 100 ∧ (ascB (textR r)).all signOk = true ∧ (decD (ascB (textR r))).qp ≠ 1 ∧ ((decD (ascB (textR r))).qp = 0 ∨ 4 ≤ ((decD (ascB (textR r))).qp : Int) + (decD (ascB (textR r))).pads) then some (Dt.bytes ((decD (ascB (textR r))).out.map fun n => n.toNat.toUInt8)) else none) = _
  rw [asc_text]
  obtain ⟨a, b, c⟩ := dec_text h1 h5
  rw [if_pos, c]
  have hl := codes_len h1 h5
  have hm := mmR_vals h1 h5
  refine ⟨?_, ?_, sign_ok h1 h5, a, b⟩
  · unfold isAsc
    rw [Bool.and_eq_true, List.all_eq_true]
    refine ⟨fun c hc => ?_, ?_⟩
    · have := codes_lt h1 h5 c hc
      simpa using this
    · have : (textR r).length = (codes r).length := by show (codes r).toArray.size = _; simp
      rw [this, hl]; simp; lia
  · unfold encB
    rw [List.length_map, hl]; lia
theorem st10_ev (P : Params) {rows : List (List UInt8)} {I : Addr} (h : RowsOk rows) (ns : List Int) : ex1 cfL none 20 scL ([eS ns, eR rows, eP rows, eW rows, eM rows, eD rows, eT rows, eI I, eRd rows], []) (stL P 10) = some (.next, ([eS ns, eR rows, eP rows, eW rows, eM rows, eD rows, eT rows, eI I, eRd rows, eB rows], [])) := by
  have n2' : rows.length ≤ 1000 := Nat.le_trans h.n2 (by decide)
  have hgo := go_map (f := cF cfL 18 [eS ns, eR rows, eP rows, eW rows, eM rows, eD rows, eT rows, eI I, eRd rows] (stE (stL P 10))) (mk := fun (i : Nat) => Dt.int (i : Int)) (fun i => .bytes (rows.getD i [])) (l := List.range rows.length) (fun i hi => by
    have hi' := List.mem_range.mp hi
    obtain ⟨h1, h5⟩ := row_in h hi'
    have e1 : itemD (rdD rows) (.int (i : Int)) = some (.list [.int (ddR (rows.getD i [])), .int ((i : Int) * 7)]) := item_k _ i _ (places_len h _) (by rw [List.getElem?_map, List.getElem?_range hi']; rfl)
    exact cF_by [.d (.list [.int (ddR (rows.getD i [])), .int ((i : Int) * 7)]), .d (.int (ddR (rows.getD i []))), .d (.int (mmR (rows.getD i []))), .d (.str (textR (rows.getD i []))), .d (.bytes (rows.getD i []))]
      (fun z => ai e1 (ai (dd (.int (ddR (rows.getD i [])))) (ai (at_map2 rows [] (fun r => (mmR r : Int)) hi' n2') (ai (g_signs h1 h5) (ai (g_dec h1 h5) z))))) (by kernel_rfl))
  have hgo : _ = some (rows.map Dt.bytes) := hgo.trans (by rw [map_range rows [] Dt.bytes])
  exact ex_by [.l ((List.range rows.length).map fun (i : Nat) => .int (i : Int)), .l (rows.map Dt.bytes)] (fun z => ai (rng rows.length n2') (ai (places_len h fun (i : Nat) => .int (i : Int)) (ai hgo z))) (by kernel_rfl)
theorem st11_ev (P : Params) {rows : List (List UInt8)} {I : Addr} (h : RowsOk rows) (ns : List Int) : ex1 cfL none 20 scL ([eS ns, eR rows, eP rows, eW rows, eM rows, eD rows, eT rows, eI I, eRd rows, eB rows], []) (stL P 11) = some (.next, ([eS ns, eR rows, eP rows, eW rows, eM rows, eD rows, eT rows, eI I, eRd rows, eB rows], [])) := by
  have n2' : rows.length ≤ 1000 := Nat.le_trans h.n2 (by decide)
  have hdr := go_drop (f := cF cfL 14 [eS ns, eR rows, eP rows, eW rows, eM rows, eD rows, eT rows, eI I, eRd rows, eB rows] (kids (stE (stL P 11)) [1, 0])) (mk := Dt.bytes) (l := rows) (fun b _ => cF_by [.d (.ty "bytes"), .b false] (fun z => ai (dd (.ty "bytes")) (ai (bb false) z)) (by kernel_rfl))
  have hl : (rows.map Dt.bytes).length ≤ 1000 := by rw [List.length_map]; exact n2'
  exact ex_by [.b false, .l [], .b false] (fun z => ai (ne_plain rows Dt.bytes (fun _ => eqD_bytes _) (fun _ => dep_bytes _)) (ai hl (ai hdr (ai ne_nil z)))) (by kernel_rfl)
end Mine
end
section
open PySem PySem.W PyProof.Rows
set_option maxRecDepth 100000
set_option maxHeartbeats 4000000
namespace Mine
noncomputable def slN (ns : List Int) (lo hi st : Option Int) : List Int :=
  let b := sliceBounds lo hi st ns.length
  (sliceRange b.1 b.2.1 b.2.2).filterMap fun i => ns[i]?
theorem slice_ints (ns : List Int) (lo hi st : Option Int) : sliceD (ns.map .int) lo hi st = (slN ns lo hi st).map Dt.int := by
  unfold sliceD slN
  simp [List.map_filterMap]
theorem slc_ints (ns : List Int) (lo hi st : Option Int) (h : st ≠ some 0) (hl : ns.length ≤ 1000) : slc (ns.map .int) lo hi st = some (.list ((slN ns lo hi st).map .int)) := by
  unfold slc
  rw [if_pos ⟨h, by rw [List.length_map]; exact hl⟩, slice_ints]
theorem slN_four (ns : List Int) : (slN ns none (some 4) none).length ≤ 4 := by
  unfold slN
  refine Nat.le_trans (List.length_filterMap_le _ _) ?_
  unfold sliceRange sliceBounds
  simp
  split <;> omega
theorem slN_len (ns : List Int) (k : Int) (h : ns.length ≤ 63) : (slN ns (some k) none (some 4)).length ≤ 1000 := by
  unfold slN
  refine Nat.le_trans (List.length_filterMap_le _ _) ?_
  unfold sliceRange sliceBounds
  simp
  split <;> lia
noncomputable def six : List (List UInt8) := [[77, 0], [255, 254, 253], [77], [0, 1], [76, 255, 81, 7], [77, 0, 0, 0, 1]]
noncomputable def rowsOf (ns : List Int) : List (List UInt8) := ((List.range (slN ns none (some 4) none).length).map fun (k : Nat) => rowD (slN ns (some (k : Int)) none (some 4)).sum) ++ six
theorem rows_ok (ns : List Int) : RowsOk (rowsOf ns) where
  len := fun r hr => by
    unfold rowsOf at hr
    rcases List.mem_append.mp hr with h | h
    · obtain ⟨k, _, rfl⟩ := List.mem_map.mp h
      exact rowD_len _
    · unfold six at h
      simp only [List.mem_cons, List.not_mem_nil, or_false] at h
      rcases h with rfl | rfl | rfl | rfl | rfl | rfl <;> decide
  n1 := by unfold rowsOf six; simp
  n2 := by
    have := slN_four ns
    unfold rowsOf six; simp; omega
theorem st0_ev (P : Params) (ns : List Int) (h : ns.length ≤ 63) : ex1 cfL none 20 scL ([eS ns], []) (stL P 0) = some (.next, ([eS ns, eR (rowsOf ns)], [])) := by
  have hl : ns.length ≤ 1000 := Nat.le_trans h (by decide)
  have h4 := slN_four ns
  have hm : (slN ns none (some 4) none).length ≤ 1000 := Nat.le_trans h4 (by decide)
  have hr : ∀ f : Nat → Dt, ((List.range (slN ns none (some 4) none).length).map f).length ≤ 1000 := fun f => by rw [List.length_map, List.length_range]; exact hm
  have hgo := go_map (f := cF cfL 17 [eS ns] (kids (stE (stL P 0)) [0])) (mk := fun (i : Nat) => Dt.int (i : Int)) (fun i => .bytes (rowD (slN ns (some (i : Int)) none (some 4)).sum)) (l := List.range (slN ns none (some 4) none).length) (fun i _ =>
    cF_by [.d (.list ((slN ns (some (i : Int)) none (some 4)).map .int)), .d (.int (slN ns (some (i : Int)) none (some 4)).sum), .d (.bytes (rowD (slN ns (some (i : Int)) none (some 4)).sum))]
      (fun z => ai (slc_ints ns (some (i : Int)) none (some 4) (by decide) hl) (ai (blt_sum (slN ns (some (i : Int)) none (some 4)) (slN_len ns i h)) (ai (dd (.bytes (rowD (slN ns (some (i : Int)) none (some 4)).sum))) z))) (by kernel_rfl))
  have hln : bltD (Str.ofString "len") [.list ((slN ns none (some 4) none).map .int)] = some (.int (slN ns none (some 4) none).length) := (len_l (by rw [List.length_map]; exact hm)).trans (by rw [List.length_map])
  have hadd : binD .Add (.list ((List.range (slN ns none (some 4) none).length).map fun (i : Nat) => .bytes (rowD (slN ns (some (i : Int)) none (some 4)).sum))) (.list (six.map .bytes)) = some (bsD (rowsOf ns)) := by
    refine (if_pos (?_ : _ + 6 ≤ 1000)).trans ?_
    · rw [List.length_map, List.length_range]; exact Nat.le_trans (Nat.add_le_add_right h4 6) (by decide)
    · unfold bsD rowsOf
      rw [List.map_append, List.map_map]; rfl
  exact ex_by [.d (.list ((slN ns none (some 4) none).map .int)), .d (.int (slN ns none (some 4) none).length), .d (.range (slN ns none (some 4) none).length), .l ((List.range (slN ns none (some 4) none).length).map fun (i : Nat) => .int (i : Int)), .l ((List.range (slN ns none (some 4) none).length).map fun (i : Nat) => .bytes (rowD (slN ns (some (i : Int)) none (some 4)).sum)), .d (bsD (rowsOf ns))]
    (fun z => ai (slc_ints ns none (some 4) none (by decide) hl) (ai hln (ai (blt_range _ hm) (ai (rng _ hm) (ai (hr fun (i : Nat) => .int (i : Int)) (ai hgo (ai hadd z))))))) (by kernel_rfl)
end Mine
end
section
open PySem PySem.W PyProof.Rows
set_option maxRecDepth 100000
set_option maxHeartbeats 4000000
namespace Mine
variable {prog : Program} {w : World} {A : Around} {E : Value → Shared → Prop} {s s₀ : Shared} {env : Env}
theorem StOk.perm {h : Heap} {X : List Addr} {oa : Option Addr} {ρ ρ' : List (Str × Dt)} {l : List Int} (N : StOk h X env oa (ρ, l)) (hp : ∀ x d, ρ'.lookup x = some d → ρ.lookup x = some d) : StOk h X env oa (ρ', l) where
  env := {
    kind := N.env.kind
    glob := N.env.glob
    blt := N.env.blt
    inX := N.env.inX
    live := N.env.live
    loc := let ⟨m, a, b⟩ := N.env.loc; ⟨m, a, fun x d e k => b x d (hp x d e) k⟩
    cel := fun x hx => let ⟨c, ov, a, b, e, f⟩ := N.env.cel x hx; ⟨c, ov, a, b, e, fun d q => f d (hp x d q)⟩ }
  own := N.own
theorem KeepsW.ofExt {W : List Addr} {s : Shared} {h : Heap} {tk : Nat} (e : Ext s.heap h) : KeepsW W s { s with heap := h, toks := tk } := KeepsW.of ⟨h, tk, rfl, e⟩
theorem loc_kind {sc : List (Str × NameKind)} (S : ScOk sc env) {x : Str} (h : sc.lookup x = some .local) : env.kindOf x = some .local := by
  rcases S x .local h with q | ⟨q, _⟩
  · exact q
  · cases q
theorem swapped_two {env : Env} {x y : Str} {p1 p2 tp vp : Pos} {v1 v2 : Expr} {k k2 : Nat} (hx : env.kindOf x = some .local) (hy : env.kindOf y = some .local) (hb : env.blockKind = .function) (hp : (p2.line == p1.line) = true) (hn : (y == x) = false) (hs : ([v1, v2].any fun | .Starred .. => true | _ => false) = false) (hc : [v1, v2].all (foldedForSure 8) = false) (ha : [v1, v2].all (constantsAlone 8) = false) :
    swappedStores [.Tuple [.Name x p1, .Name y p2] k tp] (.Tuple [v1, v2] k2 vp) env = pure (some [x, y]) := by
  obtain ⟨f, hf, e⟩ : ∃ f : Expr → Option Str, ([Expr.Name x p1, .Name y p2].filterMap f = [x, y]) ∧ swappedStores [.Tuple [.Name x p1, .Name y p2] k tp] (.Tuple [v1, v2] k2 vp) env = (if (!(2 == 2 || 2 == 3) || 2 != 2 || env.blockKind != .function) = true then pure none else
      if ([v1, v2].any fun | .Starred .. => true | _ => false) = true then pure none else if (([Expr.Name x p1, .Name y p2].filterMap f).length != 2 || ([Expr.Name x p1, .Name y p2].filterMap f).eraseDups.length != ([Expr.Name x p1, .Name y p2].filterMap f).length) = true then pure none else
      if [v1, v2].all (foldedForSure 8) = true then pure none else if [v1, v2].all (constantsAlone 8) = true then (unsupported "assign.tuple-of-constant-expressions:order-of-the-stores" >>= fun _ => pure (some ([Expr.Name x p1, .Name y p2].filterMap f))) else pure (some ([Expr.Name x p1, .Name y p2].filterMap f))) := by
    refine ⟨fun | .Name id pos => if env.kindOf id == some .local && pos.line == p1.line then some id else none | _ => none, ?_, by rfl⟩
    have e1 : (if (env.kindOf x == some .local && p1.line == p1.line) = true then some x else none) = some x := if_pos (by rw [hx]; simp)
    have e2 : (if (env.kindOf y == some .local && p2.line == p1.line) = true then some y else none) = some y := if_pos (by rw [hy, hp]; rfl)
    exact (List.filterMap_cons_some (f := fun (z : Expr) => match z with | .Name id pos => if env.kindOf id == some .local && pos.line == p1.line then some id else none | _ => none) (a := Expr.Name x p1) e1).trans (congrArg _ ((List.filterMap_cons_some (a := Expr.Name y p2) e2).trans rfl))
  rw [e, hf, hb, hs, hc, ha]
  have hd : [x, y].eraseDups = [x, y] := by
    rw [List.eraseDups_cons]
    simp [hn]
    rw [List.eraseDups_cons]; rfl
  rw [hd]
  rfl
theorem swaps_one {t : Str} {p pos : Pos} {elt : Expr} {gens : List Comprehension} {csc : Scope} {line : Nat} : swapsWith (.ListComp elt gens csc pos) (some (.Name t p)) line env = pure (env.blockKind == .function && env.kindOf t == some .local && p.line == pos.line && !(csc.names.any fun x => x.1 == t && (x.2 == .local || x.2 == .cell))) := rfl
theorem S1 (P : Params) {rows : List (List UInt8)} {ns : List Int} {o11 o63 : Obj} (h : RowsOk rows) (L : LE P s₀ env A) (S : LS P s₀ s env [] [eS ns, eR rows] o11 o63) :
    wpAny (model prog w) A (exec (stL P 1) env) (fun f s' => f = .next ∧ LS P s₀ s' env [] [eS ns, eR rows, eP rows, eW rows] o11 o63 ∧ KeepsW (Wr env none) s s') E s := by
  have n2 := h.n2
  have n2' : rows.length ≤ 1000 := Nat.le_trans n2 (by decide)
  have hk1 := loc_kind L.sc (x := Str.ofString "places") (by kernel_rfl)
  have hk2 := loc_kind L.sc (x := Str.ofString "written") (by kernel_rfl)
  have hbk : env.blockKind = .function := by unfold Env.blockKind; rw [S.st.env.kind]; rfl
  conv => arg 3; arg 1; whnf
  refine Assign_Tuple_swapped (names := [Str.ofString "places", Str.ofString "written"]) (Tuple_ (wpAny_mono ((ev_sound (m := 3) (Bn_x P) (cfL_g P) (cfL_f P) 20).2.1 scL [eS ns, eR rows] _ [.range rows.length, bsD (rows.map encB)] env A E s _ _ ?_ L.sc S.st.env S.gd (L.rm.mono (by decide))).2 (fun vs s₁ q => ?_) fun _ _ x => x)) rfl (swapped_two hk1 hk2 hbk rfl (by decide +kernel) (by kernel_rfl) (by kernel_rfl) (by kernel_rfl))
  · have hl : (rows.map Dt.bytes).length = rows.length := List.length_map _
    exact evsk_by (res := (rows.map encB).map Dt.bytes) 17 1 [] [.d (.int rows.length), .d (.range rows.length), .l ((rows.map encB).map Dt.bytes)] (go_map (mk := Dt.bytes) (fun r => .bytes (encB r)) (l := rows) (fun r hr => cF_by [.d (.bytes (encB r))] (fun z => ai (g_enc (h.len r hr).1 (h.len r hr).2) z) (by kernel_rfl)) |>.trans (by rw [List.map_map]; rfl))
      (fun hgo z => ai ((len_l (l := rows.map Dt.bytes) (by rw [hl]; exact n2')).trans (by rw [hl]) : bltD (Str.ofString "len") [.list (rows.map Dt.bytes)] = some (.int rows.length)) (ai (blt_range rows.length n2') (ai (hl ▸ n2' : (rows.map Dt.bytes).length ≤ 1000) (ai hgo z)))) (by kernel_rfl)
  · obtain ⟨k₁, hv⟩ := q
    unfold VL VL at hv
    obtain ⟨v1, r1, rfl, hv1, v2, r2, rfl, hv2, hr⟩ := hv
    unfold VL at hr
    subst hr
    refine wpAny_newTuple ?_ (by rw [sizeLine_eq]; simp)
    have kt : Ext s₁.heap (s₁.heap.push { cls := .type "tuple", data := .seq [v1, v2].toArray }) := fun b o e => Heap.get?_push_of_some _ e
    refine unpackItems_tuple (s := { s₁ with heap := s₁.heap.push { cls := .type "tuple", data := .seq [v1, v2].toArray } }) (items := [v1, v2].toArray) L.rm.1 ⟨_, Heap.get?_push_size _ rfl, rfl, 0, rfl⟩ fun h' he => ?_
    have k₂ : Ext s₁.heap h' := fun b o e => he b o (Nat.ne_of_lt (by
      show b < (s₁.heap.push _).objs.size
      rw [Heap.size_push]
      exact Nat.lt_succ_of_lt (Heap.lt_size e))) (kt b o e)
    have k02 : Keeps s { s₁ with heap := h' } := Keeps.trans' k₁ (Keeps.of_heap k₂)
    have N0 := S.st.ext (Keeps.ext k02)
    show wpAny _ _ (do holding [v1] (bindName env (Str.ofString "written") v2); assignInOrder [fun v => bindName env (Str.ofString "places") v] [v1]) _ _ _
    refine wpAny_bind (wpAny_holding (wpAny_bindName (mono2 (store_ok (by kernel_rfl) L.sc L.sep N0 (hv2.ext k₂)) fun _ s₃ k₃ N₃ => ?_)))
    show wpAny _ _ (do holding [] (bindName env (Str.ofString "places") v1); assignInOrder [] []) _ _ _
    refine wpAny_bind (wpAny_holding (wpAny_bindName (mono2 (store_ok (by kernel_rfl) L.sc L.sep N₃ ((hv1.ext k₂).keepsW k₃ (fun b hb => List.mem_append_left _ hb))) fun _ s₄ k₄ N₄ => ?_)))
    refine wpAny_pure ⟨rfl, ?_, (KeepsW.of k02).trans (k₃.trans k₄)⟩
    refine (S.step (Z' := []) L L.fresh L.gw ((KeepsW.of k02).trans (k₃.trans k₄)) (ρ' := [eS ns, eR rows, eP rows, eW rows]) (N₄.perm ?_))
    intro x d e
    rw [upd_lookup, upd_lookup]
    simp only [eS, eR, eP, eW, List.lookup_cons] at e ⊢
    by_cases c1 : x = Str.ofString "places"
    · subst c1; simp [ofString_inj, ofString_beq] at e ⊢; exact e
    · by_cases c2 : x = Str.ofString "written"
      · subst c2; simp [ofString_inj, ofString_beq] at e ⊢; exact e
      · have c1' : (x == Str.ofString "places") = false := by simpa using c1
        have c2' : (x == Str.ofString "written") = false := by simpa using c2
        rw [c1', c2']
        rw [c1', c2'] at e
        simpa using e
end Mine
end
section
open PySem PySem.W PyProof.Rows
set_option maxRecDepth 100000
set_option maxHeartbeats 4000000
namespace Mine
variable {prog : Program} {w : World} {A : Around} {E : Value → Shared → Prop} {s s₀ : Shared} {env : Env}
theorem LS.step63 {P : Params} {s' : Shared} {Z Z' : List Addr} {ρ ρ' : List (Str × Dt)} {o11 o63 o63' : Obj} (S : LS P s₀ s env Z ρ o11 o63) (k : KeepsW [163] s s') (N : StOk s'.heap (Z' ++ (Wr env none ++ [111, 163])) env none (ρ', [])) (ht : s'.heap.get? 163 = some o63') : LS P s₀ s' env Z' ρ' o11 o63' := by
  have h1 := k.out 111 _ (by decide) S.t11
  have gd := Gd.keepsW k (gdw163 P) S.gd
  refine ⟨?_, N, gd, h1, ht⟩
  obtain ⟨hh, tt, e, a, b⟩ := S.kp
  obtain ⟨h', tk', rfl, c, d⟩ := k
  refine ⟨h', tk', by rw [e], fun x o hx ex => ?_, fun x hx _ => ?_⟩
  · exact c x o (fun q => hx (by rw [List.mem_singleton.mp q]; simp)) (S.kp.out x o hx ex)
  · simp only [List.mem_cons, List.not_mem_nil, or_false] at hx
    rcases hx with rfl | rfl
    · exact ⟨_, h1⟩
    · exact ⟨_, ht⟩
noncomputable def Tab6 (o : Obj) : Prop := o = tabObj #[] ∨ ∃ c' : Addr, o = tabObj #[rawInt 221, rawInt 15, .ref c']
theorem LS.step0 {P : Params} {s' : Shared} {Z : List Addr} {ρ : List (Str × Dt)} {o11 o63 : Obj} (L : LE P s₀ env A) (S : LS P s₀ s env Z ρ o11 o63) (k : Keeps s s') : LS P s₀ s' env Z ρ o11 o63 :=
  S.step L (W := []) (fun b hb => by cases hb) ⟨fun a o e q => (by cases q), (fun q => by cases q), (fun q => by cases q), (fun q => by cases q)⟩ (KeepsW.of k) (S.st.ext (Keeps.ext k))
theorem S6 (P : Params) {rows : List (List UInt8)} {ns : List Int} {o11 : Obj} (h : RowsOk rows) (L : LE P s₀ env A) (S : LS P s₀ s env [] [eS ns, eR rows, eP rows, eW rows, eM rows, eD rows, eT rows] o11 (tabObj #[])) :
    wpAny (model prog w) A (exec (stL P 6) env) (fun f s' => f = .next ∧ ∃ o63, Tab6 o63 ∧ LS P s₀ s' env [] [eS ns, eR rows, eP rows, eW rows, eM rows, eD rows, eT rows] o11 o63) E s := by
  have n2 := h.n2
  have n2' : rows.length ≤ 1000 := Nat.le_trans n2 (by decide)
  have hrow : ∀ r ∈ rows ++ [[]], r.length ≤ 5 := fun r hr => by
    rcases List.mem_append.mp hr with q | q
    · exact (h.len r q).2
    · rw [List.mem_singleton.mp q]; simp
  have hi : ∀ (cs : Scope) (n : Nat) (p1 p2 p3 p4 : Pos) (kd : Nat), ev cfL (n + 4) scL [eS ns, eR rows, eP rows, eW rows, eM rows, eD rows, eT rows] (.BinOp (.Name (Str.ofString "rows") p1) .Add (.List [.Constant (.bytes []) kd p2] p3) p4) = some (.list ((rows ++ [[]]).map Dt.bytes)) := fun cs n p1 p2 p3 p4 kd => by
    exact ev_by [.d (.list ((rows ++ [[]]).map Dt.bytes))] (fun z => ai ((if_pos (by rw [List.length_map]; exact Nat.succ_le_of_lt (Nat.lt_of_le_of_lt h.n2 (by decide)))).trans (by rw [List.map_append]; rfl) : binD .Add (.list (rows.map Dt.bytes)) (.list [.bytes []]) = some (.list ((rows ++ [[]]).map Dt.bytes))) z) (by kernel_rfl)
  conv => arg 3; arg 1; whnf
  refine wpAny_If ?_
  have hWX : ∀ b ∈ [163], b ∈ Wr env none ++ [111, 163] := fun b hb => by rw [List.mem_singleton.mp hb]; simp
  have hEW : EnvW [163] env := EnvW.of (oa := none) fun b hb => by rw [List.mem_singleton.mp hb]; exact L.nT.2
  refine wpAny_isTrue_Compare1 (wpAny_mono (comp_ef (cf := cfL) (m := 3) (n := 20) (W := [163]) (J := fun _ => TabSt _ (env.qual ++ "<lambda>")) (it := .list ((rows ++ [[]]).map Dt.bytes)) (items := (rows ++ [[]]).map Dt.bytes) (g := redG) (Bn_x P) (cfL_g P) (cfL_f P) L.sc S.st.env S.gd (L.rm.mono (by decide)) (by kernel_rfl) rfl (by simp; lia) hWX hEW (gdw163 P) (TabSt.eff _ _) (hi default 16 _ _ _ _ _) rfl (.inl S.t63) (by
    rw [L.code]
    exact red_elt P (m := 3) (L.rm.mono (by decide)) (fun d hd => by
      obtain ⟨r, _, rfl⟩ := List.mem_map.mp hd
      exact ⟨r, rfl⟩) (by kernel_rfl) (by kernel_rfl))) (fun v s₁ q => ?_) fun _ _ x => x) (by rfl)
  obtain ⟨k₁, hv, hJ⟩ := q
  have N₁ : StOk s₁.heap (Wr env none ++ [111, 163]) env none ([eS ns, eR rows, eP rows, eW rows, eM rows, eD rows, eT rows], []) := ⟨S.st.env.keepsW k₁ hWX hEW, fun a e => by cases e⟩
  have hT : ∃ o63, Tab6 o63 ∧ s₁.heap.get? 163 = some o63 := by
    rcases hJ with q | ⟨c', q, _⟩
    · exact ⟨_, .inl rfl, q⟩
    · exact ⟨_, .inr ⟨c', rfl⟩, q⟩
  obtain ⟨o63, hT6, ht⟩ := hT
  have S₁ := S.step63 (Z' := []) k₁ N₁ ht
  have hev : ∀ (p1 p2 p3 p4 p5 p6 p7 p8 p9 q1 q2 q3 q4 q5 q6 : Pos) (kd k2 : Nat), ev cfL 20 scL [eS ns, eR rows, eP rows, eW rows, eM rows, eD rows, eT rows] (.ListComp (.BinOp (.BinOp (.Constant (.int 256) kd p1) .Pow (.Call (.Name (Str.ofString "len") p2) [.Name (Str.ofString "row") p3] [] p4) p5) .Add (.Call (.Name (Str.ofString "_law_number") p6) [.Name (Str.ofString "row") p7] [] p8) p9)
      [⟨.Name (Str.ofString "row") q1, .BinOp (.Name (Str.ofString "rows") q2) .Add (.List [.Constant (.bytes []) k2 q3] q4) q5, [], 0⟩] { kind := .function, names := [(Str.ofString ".0", .local), (Str.ofString "row", .local), (Str.ofString "len", .globalImplicit), (Str.ofString "_law_number", .globalImplicit)], isGenerator := false, isCoroutine := false } q6) = some (.list (((rows ++ [[]]).map Dt.bytes).map redG)) := by
    intro p1 p2 p3 p4 p5 p6 p7 p8 p9 q1 q2 q3 q4 q5 q6 kd k2
    have hla : ((rows ++ [[]]).map Dt.bytes).length ≤ 1000 := by rw [List.length_map, List.length_append]; exact Nat.succ_le_of_lt (Nat.lt_of_le_of_lt h.n2 (by decide))
    exact evk_by (res := ((rows ++ [[]]).map Dt.bytes).map redG) 18 [] [.d (.list ((rows ++ [[]]).map Dt.bytes)), .l (((rows ++ [[]]).map Dt.bytes).map redG)] (items := (rows ++ [[]]).map Dt.bytes) (go_map (mk := Dt.bytes) (fun r => redG (.bytes r)) (l := rows ++ [[]]) (fun r hr => by
      have e : redG (.bytes r) = .int (256 ^ r.length + numD r) := congrArg Dt.int (red_num r)
      have hl := Nat.le_trans (hrow r hr) (by decide : 5 ≤ 1000)
      rw [e]
      exact cF_by [.d (.int r.length), .d (.int (256 ^ r.length)), .d (.int (numD r))] (fun z => ai (len_b (l := r) hl) (ai (bpw 256 r.length hl rfl) (ai (dd (.int (numD r))) z))) (by kernel_rfl)) |>.trans (by rw [List.map_map]; rfl))
      (fun hgo z => ai ((if_pos (by rw [List.length_map]; exact Nat.succ_le_of_lt (Nat.lt_of_le_of_lt h.n2 (by decide)))).trans (by rw [List.map_append]; rfl) : binD .Add (.list (rows.map Dt.bytes)) (.list [.bytes []]) = some (.list ((rows ++ [[]]).map Dt.bytes))) (ai hla (ai hgo z))) (by kernel_rfl)
  refine mono2 ((ev_sound (m := 3) (Bn_x P) (cfL_g P) (cfL_f P) 20).1 scL _ _ _ env A E s₁ _ (hev _ _ _ _ _ _ _ _ _ _ _ _ _ _ _ _ _) L.sc N₁.env S₁.gd (L.rm.mono (by decide))) fun u s₂ k₂ hu => ?_
  refine cmpD_sound (k := false) (ne_self (fun d hd => ?_) ?_) (hv.ext (Keeps.ext k₂)) hu L.rm.units ?_
  · obtain ⟨d', hd', rfl⟩ := List.mem_map.mp hd
    obtain ⟨r, _, rfl⟩ := List.mem_map.mp hd'
    exact eqD_int _
  · refine Nat.le_trans (depL_le (k := 0) fun d hd => ?_) (by lia)
    obtain ⟨d', hd', rfl⟩ := List.mem_map.mp hd
    obtain ⟨r, _, rfl⟩ := List.mem_map.mp hd'
    unfold redG
    rw [dep_int]; exact Nat.le_refl _
  · refine wpAny_truthy_bool ?_
    rw [if_neg (by simp)]
    exact wpAny_execs_nil ⟨rfl, o63, hT6, S₁.step0 L k₂⟩
end Mine
end
section
open PySem PySem.W PyProof.Rows
set_option maxRecDepth 100000
set_option maxHeartbeats 4000000
namespace Mine
variable {prog : Program} {w : World} {A : Around} {E : Value → Shared → Prop} {s s₀ : Shared} {env : Env}
noncomputable def digK (rows : List (List UInt8)) (k : Nat) : List Int := ((List.range (digs (rowN (rows.getD k []))).length).map fun i => (((digs (rowN (rows.getD k []))).map fun (n : Nat) => (n : Int)).getD i 0 + (if i + 1 < (digs (rowN (rows.getD k []))).length then 64 else 0) + (((i : Int) + k).fmod 2) * 128)) ++ [(k : Int) * 7 + ((k : Int).fdiv 2).fmod 2 * 128]
noncomputable def digAll (rows : List (List UInt8)) : List Int := ((List.range rows.length).map (digK rows)).flatten
structure Rest (s₀ s : Shared) (env : Env) (I Ls : Addr) (ns : List Int) (i : Nat) : Prop where
  it : s.heap.IsListIter I Ls i
  ls : ∃ vs, s.heap.IsList Ls (List.toArray vs) ∧ IntsAre vs ns
  ne : I ≠ Ls
  fI : s₀.heap.get? I = none
  nI : I ∉ Wr env none ++ [111, 163]
  nL : Ls ∉ Wr env none ++ [111, 163]
theorem Rest.keepW {s' : Shared} {I Ls : Addr} {ns : List Int} {i : Nat} (R : Rest s₀ s env I Ls ns i) (k : KeepsW (Wr env none) s s') : Rest s₀ s' env I Ls ns i where
  it := by
    refine bc fun nG => ?_
    obtain ⟨o, ho, r⟩ := R.it
    refine nG ?_
    exact ⟨o, k.out _ _ (fun q => R.nI (List.mem_append_left _ q)) ho, r⟩
  ls := by
    refine bc fun nG => ?_
    obtain ⟨vs, ⟨o, ho, r⟩, hi⟩ := R.ls
    refine nG ?_
    exact ⟨vs, ⟨o, k.out _ _ (fun q => R.nL (List.mem_append_left _ q)) ho, r⟩, hi⟩
  ne := R.ne
  fI := R.fI
  nI := R.nI
  nL := R.nL
noncomputable def gK (rows : List (List UInt8)) : Dt → List Int
  | .int i => digK rows i.toNat
  | _ => []
noncomputable abbrev ρ7 (ns : List Int) (rows : List (List UInt8)) : List (Str × Dt) := [eS ns, eR rows, eP rows, eW rows, eM rows, eD rows, eT rows]
theorem digits_ev {rows : List (List UInt8)} {k : Nat} (h1 : 1 ≤ (rows.getD k []).length) (h5 : (rows.getD k []).length ≤ 5) : digitsD ((digs (rowN (rows.getD k []))).map fun (n : Nat) => (n : Int)) k = ((List.range (digs (rowN (rows.getD k []))).length).map fun i => (((digs (rowN (rows.getD k []))).map fun (n : Nat) => (n : Int)).getD i 0 + (if i + 1 < (digs (rowN (rows.getD k []))).length then 64 else 0) + (((i : Int) + k).fmod 2) * 128)).map Dt.int := by
  unfold digitsD
  rw [List.length_map, List.map_map]
  rfl
theorem S7 (P : Params) {rows : List (List UInt8)} {ns : List Int} {o11 o63 : Obj} (h : RowsOk rows) (L : LE P s₀ env A) (S : LS P s₀ s env [] (ρ7 ns rows) o11 o63) :
    wpAny (model prog w) A (exec (stL P 7) env) (fun f s' => f = .next ∧ ∃ I Ls, LS P s₀ s' env [I] (ρ7 ns rows ++ [eI I]) o11 o63 ∧ Rest s₀ s' env I Ls (digAll rows) 0) E s := by
  have n2 := h.n2
  have n2' : rows.length ≤ 1000 := Nat.le_trans n2 (by decide)
  have hki : env.kindOf (Str.ofString "iter") = some .globalImplicit := kind_glob L.sc (by kernel_rfl)
  conv => arg 3; arg 1; whnf
  rw [exec_Assign_Name env _ _ _ _ rfl]
  refine wpAny_bind (wpAny_standAt (wpAny_bind ?_))
  refine wpAny_Call_Name_kw (blt_name S.gd S.st.env hki (by kernel_rfl) (v := .builtin "iter") (by kernel_rfl) (by decide +kernel) (by decide +kernel) ?_)
  refine callWith_of (P := fun h => True) rfl (fun h _ => FnV.keeps (h := h) (f := .builtin "iter") trivial) ?_
  refine evalArgs_any rfl rfl (PySem.Calls.spliced_cons (wpAny_mono (comp2_sound (m := 3) (n := 20) (it := .range rows.length) (items := (List.range rows.length).map fun (i : Nat) => Dt.int (i : Int)) (g := gK rows) (Bn_x P) (cfL_g P) (cfL_f P) (L.rm.mono (by decide)) L.sc (L.sepZ []) S.st.env S.gd (by kernel_rfl) rfl (by kernel_rfl) (by kernel_rfl) (by kernel_rfl) (by kernel_rfl) ?_ (items_range n2') ?_ ?_ (by simp; lia) ?_) (fun v s₁ q => ?_) fun _ _ x => x))
  · kernel_rfl
  · intro d hd ρ'' h1 h2
    refine bc fun nG => ?_
    obtain ⟨k, hk, rfl⟩ := List.mem_map.mp hd
    refine nG ?_
    have hk' := List.mem_range.mp hk
    have hr := h.at hk'
    have e2 : ρ''.lookup (Str.ofString "texts") = some (.list (rows.map fun r => Dt.str (textR r))) := (h2 (Str.ofString "texts") (by simp [ofString_inj])).trans (by kernel_rfl)
    have h1' : ρ''.lookup (Str.ofString "k") = some (.int (k : Int)) := h1
    have hdl : (digs (rowN (rows.getD k []))).length ≤ 8 := by rw [digs_len' (rows.getD k [])]; exact (by decide : ∀ n < 6, (8 * n + 5) / 6 ≤ 8) _ (Nat.lt_succ_of_le hr.2)
    have nk : nameD cfL (cSc (kids (stE (stL P 7)) [1])) ρ'' (Str.ofString "k") = some (.int (k : Int)) := nm_loc _ (by kernel_rfl) (by kernel_rfl) h1'
    have nt : nameD cfL (cSc (kids (stE (stL P 7)) [1])) ρ'' (Str.ofString "texts") = some (.list (rows.map fun r => Dt.str (textR r))) := nm_loc _ (by kernel_rfl) (by kernel_rfl) e2
    have hadd : binD .Add (.list (digitsD ((digs (rowN (rows.getD k []))).map fun (n : Nat) => (n : Int)) k)) (.list [.int ((k : Int) * 7 + ((k : Int).fdiv 2).fmod 2 * 128)]) = some (.list ((digK rows (k : Int).toNat).map Dt.int)) := by
      refine (if_pos (?_ : _ + 1 ≤ 1000)).trans ?_
      · unfold digitsD; rw [List.length_map, List.length_range, List.length_map]; exact Nat.le_trans (Nat.succ_le_succ hdl) (by decide)
      · rw [Int.toNat_natCast]
        unfold digK
        rw [List.map_append, ← digits_ev hr.1 hr.2]
        rfl
    exact ev_by [.n (.list (rows.map fun r => Dt.str (textR r))), .n (.int k), .d (.str (textR (rows.getD k []))), .n (.int k), .d (.list (digitsD ((digs (rowN (rows.getD k []))).map fun (n : Nat) => (n : Int)) k)), .n (.int k), .d (.int ((k : Int) * 7)), .n (.int k), .d (.int ((k : Int).fdiv 2)), .d (.int (((k : Int).fdiv 2).fmod 2)), .d (.int (((k : Int).fdiv 2).fmod 2 * 128)), .d (.list ((digK rows (k : Int).toNat).map Dt.int))]
      (fun z => ai nt (ai nk (ai (at_map rows [] (fun r => Dt.str (textR r)) hk' n2') (ai nk (ai (g_digits hr.1 hr.2 k) (ai nk (ai (bmr (k : Int) 7 rfl) (ai nk (ai (bfd (k : Int) 2 rfl) (ai (bmd ((k : Int).fdiv 2) 2 rfl) (ai (bmr (((k : Int).fdiv 2).fmod 2) 128 rfl) (ai hadd z)))))))))))) (by kernel_rfl)
  · intro d hd
    refine bc fun nG => ?_
    obtain ⟨k, hk, rfl⟩ := List.mem_map.mp hd
    refine nG ?_
    have hr := h.at (List.mem_range.mp hk)
    show (digK rows _).length ≤ 1000
    unfold digK
    rw [List.length_append, List.length_map, List.length_range, digs_len (by simpa using hr.1) (by simpa using hr.2)]
    have := mmR_vals (r := rows.getD (k : Int).toNat []) (by simpa using hr.1) (by simpa using hr.2)
    simp only [List.length_singleton]; lia
  · intro d hd
    refine bc fun nG => ?_
    obtain ⟨k, hk, rfl⟩ := List.mem_map.mp hd
    refine nG ?_
    exact ⟨_, rfl⟩
  · obtain ⟨k₁, hv⟩ := q
    refine PySem.Calls.spliced_nil (wpAny_evalAll_nil ⟨trivial, ?_⟩)
    have hall : (((List.range rows.length).map fun (i : Nat) => Dt.int (i : Int)).map (gK rows)).flatten = digAll rows := by
      unfold digAll
      rw [List.map_map]
      rfl
    rw [hall] at hv
    refine bc fun nG => ?_
    obtain ⟨Ls, vs, rfl, nLs, hls, hvs⟩ := hv
    refine nG ?_
    have N₁ := S.st.ext (Keeps.ext k₁)
    refine call_iter (wpAny_pyIter_list hls ?_)
    generalize hI : s₁.heap.objs.size = I
    have fI : s₁.heap.get? I = none := by rw [← hI]; exact fresh_none _ (Nat.le_refl _)
    have kI : Ext s₁.heap (s₁.heap.push { cls := .type "list_iterator", data := .fields #[.ref Ls, .int 0 0] }) := fun b o e => Heap.get?_push_of_some _ e
    have gI : (s₁.heap.push { cls := .type "list_iterator", data := .fields #[.ref Ls, .int 0 0] }).get? I = some { cls := .type "list_iterator", data := .fields #[.ref Ls, .int 0 0] } := by rw [← hI]; exact Heap.get?_push_size _ rfl
    have N₂ : StOk (s₁.heap.push { cls := .type "list_iterator", data := .fields #[.ref Ls, .int 0 0] }) ([I] ++ (Wr env none ++ [111, 163])) env none (ρ7 ns rows, []) := N₁.grow (fun b hb => by rw [List.mem_singleton.mp hb]; exact fI) kI fun b hb => by rw [List.mem_singleton.mp hb]; exact ⟨_, gI⟩
    have nI : I ∉ Wr env none ++ [111, 163] := fun q => by
      obtain ⟨o, ho⟩ := N₁.env.live I q
      rw [fI] at ho; cases ho
    have k02 : Keeps s { s₁ with heap := s₁.heap.push { cls := .type "list_iterator", data := .fields #[.ref Ls, .int 0 0] } } := Keeps.trans' k₁ (Keeps.of_heap kI)
    have fI0 : s₀.heap.get? I = none := by
      cases e : s₀.heap.get? I with
      | none => rfl
      | some o =>
        have hn : I ∉ [111, 163] := fun q => nI (List.mem_append_right _ q)
        rw [Keeps.ext k₁ _ _ (S.kp.out _ _ hn e)] at fI; cases fI
    refine wpAny_bind (wpAny_standAt (wpAny_bind (wpAny_bindName (mono2 (store_ok (x := Str.ofString "rest") (d := .opq (.ref I)) (v := .ref I) (s := { s₁ with heap := s₁.heap.push { cls := .type "list_iterator", data := .fields #[.ref Ls, .int 0 0] } }) (by kernel_rfl) L.sc (L.sepZ [I]) N₂ (by unfold V; rfl)) fun _ s₃ k₃ N₃ => ?_))))
    refine wpAny_pure ⟨rfl, I, Ls, S.step L L.fresh L.gw ((KeepsW.of k02).trans k₃) N₃, ?_⟩
    have R2 : Rest s₀ { s₁ with heap := s₁.heap.push { cls := .type "list_iterator", data := .fields #[.ref Ls, .int 0 0] } } env I Ls (digAll rows) 0 := {
      it := ⟨_, gI, rfl, rfl⟩
      ls := ⟨vs, ⟨hls.choose, kI _ _ hls.choose_spec.1, hls.choose_spec.2⟩, hvs.ints⟩
      ne := fun q => by
        refine bc fun nG => ?_
        obtain ⟨o, ho, _⟩ := hls
        refine nG ?_
        rw [← q, fI] at ho; cases ho
      fI := fI0
      nI := nI
      nL := nLs }
    exact R2.keepW k₃
end Mine
end
section
open PySem PySem.W PyProof.Rows
set_option maxRecDepth 100000
set_option maxHeartbeats 4000000
namespace Mine
variable {prog : Program} {w : World} {A : Around} {E : Value → Shared → Prop} {s s₀ : Shared} {env : Env}
theorem flat_drop {α : Type} : ∀ (L : List (List α)) (i : Nat), L.flatten.drop ((L.take i).map List.length).sum = (L.drop i).flatten
  | [], i => by simp
  | a :: r, 0 => by simp
  | a :: r, i + 1 => by
    rw [List.take_succ_cons, List.map_cons, List.sum_cons, List.flatten_cons, List.drop_succ_cons, ← flat_drop r i]
    rw [← List.drop_drop, List.drop_left]
noncomputable def allK (rows : List (List UInt8)) : List (List Int) := (List.range rows.length).map (digK rows)
noncomputable def posK (rows : List (List UInt8)) (i : Nat) : Nat := (((allK rows).take i).map List.length).sum
theorem allK_len (rows : List (List UInt8)) : (allK rows).length = rows.length := by unfold allK; simp
theorem allK_get {rows : List (List UInt8)} {i : Nat} (hl : i < (allK rows).length) : (allK rows)[i] = digK rows i := by simp [allK]
theorem posK_succ {rows : List (List UInt8)} {i : Nat} (hi : i < rows.length) : posK rows (i + 1) = posK rows i + (digK rows i).length := by
  unfold posK
  have hl : i < (allK rows).length := by rw [allK_len]; exact hi
  rw [List.take_succ_eq_append_getElem hl, List.map_append, List.sum_append, allK_get]
  simp
theorem dig_drop {rows : List (List UInt8)} {i : Nat} (hi : i < rows.length) : ∃ r, (digAll rows).drop (posK rows i) = digK rows i ++ r := by
  have hl : i < (allK rows).length := by rw [allK_len]; exact hi
  have e : digAll rows = (allK rows).flatten := rfl
  rw [e]
  unfold posK
  rw [flat_drop, List.drop_eq_getElem_cons hl, List.flatten_cons, allK_get]
  exact ⟨((allK rows).drop (i + 1)).flatten, rfl⟩
theorem fmod2 (a : Int) : a.fmod 2 = 0 ∨ a.fmod 2 = 1 := by
  have h1 := Int.fmod_nonneg_of_pos a (by decide : (0 : Int) < 2)
  have h2 := Int.fmod_lt_of_pos a (by decide : (0 : Int) < 2)
  lia
noncomputable abbrev dsK (rows : List (List UInt8)) (k : Nat) : List Int := (digs (rowN (rows.getD k []))).map fun (n : Nat) => (n : Int)
theorem dig_one {rows : List (List UInt8)} {k : Nat} (h1 : 1 ≤ (rows.getD k []).length) (h5 : (rows.getD k []).length ≤ 5) (r : List Int) : Dig ((digK rows k ++ r).take (dsK rows k).length) (dsK rows k) := by
  have hm := mmR_vals h1 h5
  have hl : (dsK rows k).length = mmR (rows.getD k []) := by rw [List.length_map, digs_len h1 h5]
  have hcs : ((digK rows k ++ r).take (dsK rows k).length) = (List.range (digs (rowN (rows.getD k []))).length).map fun i => ((dsK rows k).getD i 0 + (if i + 1 < (digs (rowN (rows.getD k []))).length then 64 else 0) + (((i : Int) + k).fmod 2) * 128) := by
    unfold digK
    rw [List.append_assoc, List.take_append_of_le_length (by rw [List.length_map, List.length_map, List.length_range]; exact Nat.le_refl _), List.take_of_length_le (by rw [List.length_map, List.length_range, List.length_map]; exact Nat.le_refl _)]
  refine ⟨by rw [hcs, List.length_map, List.length_range, List.length_map], fun e => by rw [e, List.length_nil] at hl; lia, by lia, fun j p hp => ?_⟩
  refine bc fun nG => ?_
  obtain ⟨hj, e⟩ := List.getElem?_eq_some_iff.mp hp
  have hmem : p ∈ dsK rows k := List.mem_of_getElem? hp
  obtain ⟨v, hv, rfl⟩ := List.mem_map.mp hmem
  refine nG ?_
  have hv64 := digs_lt h1 h5 v hv
  refine ⟨by lia, by lia, ((j : Int) + k).fmod 2, fmod2 _, ?_⟩
  have hj' : j < (digs (rowN (rows.getD k []))).length := by rw [List.length_map] at hj; exact hj
  rw [hcs, List.getElem?_map, List.getElem?_range hj', Option.map_some, List.getD_eq_getElem?_getD, hp, Option.getD_some, List.length_map]
theorem dig_two {rows : List (List UInt8)} {k : Nat} (hk : k ≤ 9) (r : List Int) : Dig (((digK rows k ++ r).drop (dsK rows k).length).take [(k : Int) * 7].length) [(k : Int) * 7] := by
  have hcs : (((digK rows k ++ r).drop (dsK rows k).length).take [(k : Int) * 7].length) = [(k : Int) * 7 + ((k : Int).fdiv 2).fmod 2 * 128] := by
    unfold digK
    rw [List.append_assoc, List.drop_left' (by rw [List.length_map, List.length_map, List.length_range])]
    rfl
  refine ⟨by rw [hcs]; rfl, by simp, by simp, fun j p hp => ?_⟩
  have hj : j = 0 := by
    cases j with
    | zero => rfl
    | succ j => simp at hp
  subst hj
  have hp' : p = (k : Int) * 7 := by simpa using hp.symm
  subst hp'
  refine ⟨by lia, by lia, ((k : Int).fdiv 2).fmod 2, fmod2 _, ?_⟩
  rw [hcs]; simp
theorem val_two (k : Nat) : valP [(k : Int) * 7] = (k : Int) * 7 := by simp [valP]
theorem digK_len {rows : List (List UInt8)} {k : Nat} : (digK rows k).length = (dsK rows k).length + 1 := by
  unfold digK
  simp
noncomputable def JR (rows : List (List UInt8)) (I Ls : Addr) (i : Nat) (h : Heap) (X : List Addr) : Prop :=
  h.IsListIter I Ls (posK rows i) ∧ (∃ vs, h.IsList Ls (List.toArray vs) ∧ IntsAre vs (digAll rows)) ∧ Ls ∉ X
theorem JR.eff (rows : List (List UInt8)) (I Ls : Addr) : Eff [I] (JR rows I Ls) where
  keep := fun i h h' X k x => by
    refine bc fun nG => ?_
    obtain ⟨⟨o, ho, r⟩, ⟨vs, ⟨o2, ho2, r2⟩, hi⟩, hX⟩ := x
    refine nG ?_
    exact ⟨⟨o, k _ _ (.inr (by simp)) ho, r⟩, ⟨vs, ⟨o2, k _ _ (.inl hX) ho2, r2⟩, hi⟩, hX⟩
  more := fun i h X Y k x => by
    refine bc fun nG => ?_
    obtain ⟨a, ⟨vs, ⟨o2, ho2, r2⟩, hi⟩, hX⟩ := x
    refine nG ?_
    refine ⟨a, ⟨vs, ⟨o2, ho2, r2⟩, hi⟩, fun q => ?_⟩
    rw [k Ls q hX] at ho2; cases ho2
theorem fresh_kx {P : Params} (L : LE P s₀ env A) {I : Addr} (h : s₀.heap.get? I = none) : (¬ ∃ o, (Kx P).lookup I = some o) ∧ I ≠ mainGlobals ∧ I ≠ builtinsNs ∧ I ≠ cStatics := by
  refine ⟨fun ⟨o, ho⟩ => ?_, fun q => ?_, fun q => ?_, fun q => ?_⟩
  · rw [L.gd0.kin _ _ ho] at h; cases h
  · obtain ⟨mg, o, es, ep, ho, _⟩ := L.gd0.g
    rw [q, ho] at h; cases h
  · obtain ⟨mb, ⟨o, es, ep, ho, _⟩, _⟩ := L.gd0.b
    rw [q, ho] at h; cases h
  · obtain ⟨mc, ⟨o, es, ep, ho, _⟩, _⟩ := L.gd0.lim
    rw [q, ho] at h; cases h
theorem fresh_gdw {P : Params} (L : LE P s₀ env A) {I : Addr} (h : s₀.heap.get? I = none) : GdW (Kx P) [I] := by
  refine bc fun nG => ?_
  obtain ⟨a, b, c, d⟩ := fresh_kx L h
  refine nG ?_
  exact ⟨fun x o e q => a ⟨o, by rw [← List.mem_singleton.mp q]; exact e⟩, fun q => b (List.mem_singleton.mp q).symm, fun q => c (List.mem_singleton.mp q).symm, fun q => d (List.mem_singleton.mp q).symm⟩
noncomputable def gR (rows : List (List UInt8)) : Dt → Dt
  | .int i => .list [.int (ddR (rows.getD i.toNat [])), .int (i * 7)]
  | d => d
theorem S8 (P : Params) {rows : List (List UInt8)} {ns : List Int} {o11 o63 : Obj} {I Ls : Addr} (h : RowsOk rows) (L : LE P s₀ env A) (S : LS P s₀ s env [I] (ρ7 ns rows ++ [eI I]) o11 o63) (R : Rest s₀ s env I Ls (digAll rows) 0) :
    wpAny (model prog w) A (exec (stL P 8) env) (fun f s' => f = .next ∧ LS P s₀ s' env [I] (ρ7 ns rows ++ [eI I, eRd rows]) o11 o63 ∧ Rest s₀ s' env I Ls (digAll rows) (posK rows rows.length)) E s := by
  have n2 := h.n2
  have n2' : rows.length ≤ 1000 := Nat.le_trans n2 (by decide)
  have hcl := fresh_kx L R.fI
  have gI := fresh_gdw L R.fI
  have nIW : ∀ b ∈ [I], b ∉ Wr env none := fun b hb q => by rw [List.mem_singleton.mp hb] at q; exact R.nI (List.mem_append_left _ q)
  have hLI : Ls ∉ [I] ++ (Wr env none ++ [111, 163]) := fun q => by
    rcases List.mem_append.mp q with z | z
    · exact R.ne (List.mem_singleton.mp z).symm
    · exact R.nL z
  have hk1 : env.kindOf (Str.ofString "read") = some .cell := (L.sc (Str.ofString "read") .cell (by kernel_rfl)).elim id fun h => h.2
  have hbk : env.blockKind = .function := by unfold Env.blockKind; rw [S.st.env.kind]; rfl
  conv => arg 3; arg 1; whnf
  refine wpAny_mono (assign_comp (cf := cfL) (m := 3) (n := 20) (W := [I]) (J := JR rows I Ls) (it := .range rows.length) (items := (List.range rows.length).map fun (i : Nat) => Dt.int (i : Int)) (g := gR rows) (σ := (ρ7 ns rows ++ [eI I], [])) (Bn_x P) (cfL_g P) (cfL_f P) (by kernel_rfl) L.sc (L.sepZ [I]) S.st S.gd (L.rm.mono (by decide)) (by kernel_rfl) rfl (by simp; lia) (fun b hb => List.mem_append_left _ hb) nIW gI (JR.eff rows I Ls) ?_ (items_range n2') ⟨R.it, R.ls, hLI⟩ ?_ ?_) (fun f s' q => ?_) fun _ _ x => x
  · kernel_rfl
  · rw [swaps_one, hk1, hbk]; kernel_rfl
  · intro i d hd cenv s' X' E' N' S' G' EW' hW' hc hJ
    rw [List.getElem?_map] at hd
    refine bc fun nG => ?_
    obtain ⟨k, hk, rfl⟩ := Option.map_eq_some_iff.mp hd
    refine nG ?_
    have hki : k = i ∧ i < rows.length := by
      obtain ⟨hl, he⟩ := List.getElem?_eq_some_iff.mp hk
      rw [List.length_range] at hl
      rw [List.getElem_range] at he
      exact ⟨he.symm, hl⟩
    refine bc fun nG => ?_
    obtain ⟨rfl, hkn⟩ := hki
    have hr := h.at hkn
    obtain ⟨hit, ⟨vs, hls, hvs⟩, hLX⟩ := hJ
    obtain ⟨rr, hdrop⟩ := dig_drop hkn
    refine nG ?_
    have D1 := dig_one hr.1 hr.2 rr
    rw [← hdrop] at D1
    have D2 := dig_two (rows := rows) (k := k) (by lia) rr
    rw [← hdrop, List.drop_drop] at D2
    have hIX : I ∈ X' := hW' I (by simp)
    have hpv : cenv.kindOf (Str.ofString "_parse_varint") = some .globalImplicit := kind_glob S' (by kernel_rfl)
    have step : ∀ (s1 : Shared) (E1 : Value → Shared → Prop) (pos : Nat) (ps : List Int) (p1 p2 p3 : Pos), EnvOk s1.heap X' cenv ((Str.ofString "k", .int (k : Int)) :: (ρ7 ns rows ++ [eI I])) → Gd (Kx P) s1.heap → s1.heap.IsListIter I Ls pos → s1.heap.IsList Ls (List.toArray vs) → Dig (((digAll rows).drop pos).take ps.length) ps →
        wpAny (model prog w) A (eval (.Call (.Name (Str.ofString "_parse_varint") p1) [.Name (Str.ofString "rest") p2] [] p3) cenv) (fun v s2 => KeepsW [I] s1 s2 ∧ s2.heap.IsListIter I Ls (pos + ps.length) ∧ ∃ t, v = .int (valP ps) t) E1 s1 := by
      intro s1 E1 pos ps p1 p2 p3 N1 G1 it1 ls1 D
      refine wpAny_Call_Name_kw (glob_name (v := .ref 28) G1 N1 hpv (by kernel_rfl) (by decide +kernel) ?_)
      refine callWith_of (P := fun h => (Kx P).In h) rfl (fun h hK => ((FnOk.of (names := [Str.ofString "iterator"]) (by kernel_rfl) : FnOk (Kx P) 28 _ _ _).fnv h hK).keeps) ?_
      refine evalArgs_any rfl rfl (PySem.Calls.spliced_cons (opq_name (v := .ref I) S' N1 (by kernel_rfl) (by kernel_rfl) (by kernel_rfl) (by kernel_rfl) (PySem.Calls.spliced_nil (wpAny_evalAll_nil ⟨G1.kin, ?_⟩))))
      exact c_varint P (m := 3) (L.rm.mono (by decide)) G1 it1 ls1 hvs R.ne D hcl
    have ls_keep : ∀ {s1 s2 : Shared}, KeepsW [I] s1 s2 → s1.heap.IsList Ls (List.toArray vs) → s2.heap.IsList Ls (List.toArray vs) := fun {s1 s2} k x => by
      refine bc fun nG => ?_
      obtain ⟨o, ho, r⟩ := x
      refine nG ?_
      exact ⟨o, k.out _ _ (fun q => R.ne (List.mem_singleton.mp q).symm) ho, r⟩
    refine PyProof.Rows.List_ (PySem.Calls.spliced_cons (wpAny_mono (step s' E' _ (dsK rows k) _ _ _ N' G' hit hls D1) (fun v1 s1 q => ?_) fun _ _ x => x))
    refine bc fun nG => ?_
    obtain ⟨k1, it1, t1, rfl⟩ := q
    refine nG ?_
    refine PySem.Calls.spliced_cons (wpAny_mono (step s1 E' _ [(k : Int) * 7] _ _ _ (N'.keepsW k1 hW' EW') (Gd.keepsW k1 gI G') it1 (ls_keep k1 hls) D2) (fun v2 s2 q => ?_) fun _ _ x => x)
    refine bc fun nG => ?_
    obtain ⟨k2, it2, t2, rfl⟩ := q
    refine nG ?_
    refine PySem.Calls.spliced_nil (wpAny_newList ?_ (by rw [sizeLine_eq]; simp))
    have k12 := k1.trans k2
    have kp : Ext s2.heap (s2.heap.push { cls := .type "list", data := .seq [Value.int (valP (dsK rows k)) t1, .int (valP [(k : Int) * 7]) t2].toArray }) := fun b o e => Heap.get?_push_of_some _ e
    have N2 := N'.keepsW k12 hW' EW'
    refine ⟨k12.trans (KeepsW.ofExt kp), ?_, ?_⟩
    · rw [digs_val hr.1 hr.2, val_two]
      exact list_push N2.live (by
        show VL _ _ [.int (ddR (rows.getD (k : Int).toNat [])), .int ((k : Int) * 7)] _
        rw [Int.toNat_natCast]
        unfold VL V VL V VL
        exact ⟨_, _, rfl, ⟨_, rfl⟩, _, _, rfl, ⟨_, rfl⟩, rfl⟩)
    · refine (JR.eff rows I Ls).keep _ _ _ _ (fun b o _ e => kp b o e) ⟨?_, ⟨vs, ls_keep k12 hls, hvs⟩, hLX⟩
      rw [posK_succ hkn, digK_len]
      exact it2
  · refine bc fun nG => ?_
    obtain ⟨rfl, k, N, hJ⟩ := q
    refine nG ?_
    have hg : ((List.range rows.length).map fun (i : Nat) => Dt.int (i : Int)).map (gR rows) = (List.range rows.length).map fun i => .list [.int (ddR (rows.getD i [])), .int ((i : Int) * 7)] := by
      rw [List.map_map]; rfl
    rw [hg] at N
    rw [List.length_map, List.length_range] at hJ
    refine ⟨rfl, S.step L (W := [I] ++ Wr env none) (fun b hb => ?_) ⟨fun a o e q => ?_, fun q => ?_, fun q => ?_, fun q => ?_⟩ k N, ⟨hJ.1, hJ.2.1, R.ne, R.fI, R.nI, R.nL⟩⟩
    · rcases List.mem_append.mp hb with z | z
      · rw [List.mem_singleton.mp z]; exact R.fI
      · exact L.fresh b z
    · exact (List.mem_append.mp q).elim (gI.k a o e) (L.gw.k a o e)
    · exact (List.mem_append.mp q).elim gI.g L.gw.g
    · exact (List.mem_append.mp q).elim gI.b L.gw.b
    · exact (List.mem_append.mp q).elim gI.c L.gw.c
end Mine
end
section
open PySem PySem.W PyProof.Rows
set_option maxRecDepth 100000
set_option maxHeartbeats 4000000
namespace Mine
variable {prog : Program} {w : World} {A : Around} {E : Value → Shared → Prop} {s s₀ : Shared} {env : Env}
theorem comp_done {elt : Expr} {x y : Str} {px py : Pos} {csc : Scope} {pos : Pos} {sc : List (Str × NameKind)} {ρ : List (Str × Dt)} {X : List Addr} {I Ls : Addr} {vs : List Value}
    (S : ScOk sc env) (N : EnvOk s.heap X env ρ) (hh : A.handled = none) (hok : compOk sc csc.names ρ x = true) (hk : csc.kind = .function)
    (hyl : isLoc sc y = true) (hy : ρ.lookup y = some (.opq (.ref I))) (hy1 : (y == Str.ofString "__debug__") = false) (hy2 : (y == Str.ofString "__classdict__") = false)
    (hit : s.heap.IsListIter I Ls vs.length) (hl : s.heap.IsList Ls (List.toArray vs)) (hne : I ≠ Ls) :
    wpAny (model prog w) A (eval (.ListComp elt [⟨.Name x px, .Name y py, [], 0⟩] csc pos) env) (fun v s' => (∃ h tk, s' = { s with heap := h, toks := tk }) ∧ (∀ b o, b ≠ I → s.heap.get? b = some o → s'.heap.get? b = some o) ∧ V s'.heap [] (.list []) v) E s := by
  have F := compFacts hok
  have hclos : closureFor csc env = pure (clOf env.cells csc.names []) := closureFor_cl fun n hn => by
    refine bc fun nG => ?_
    obtain ⟨c, ov, hc, _⟩ := N.cel n (isCap_env S (F.free n hn))
    refine nG ?_
    exact ⟨c, hc⟩
  rw [eval_ListComp]
  refine wpAny_comprehension_free (use := none) rfl (fun x => rfl) hclos hk F.names (opq_name S N hyl hy hy1 hy2 ?_)
  refine wpAny_pyIter_listiter hit ?_
  refine wpAny_newObj_type (wpAny_newFunctionEnv F.nocell (by intro y hy; simp at hy) (fun h₁ hns₁ hsb₁ => ?_) hk)
  dsimp only at hns₁ hsb₁ ⊢
  generalize hH2 : s.heap.push { cls := .type "list", dict := none, data := .seq ([] : List Value).toArray } = H2 at hns₁ hsb₁ ⊢
  have hC : H2.objs.size = s.heap.objs.size + 1 := by rw [← hH2, Heap.size_push]
  generalize hCC : H2.objs.size = C at hns₁ hsb₁ hC ⊢
  generalize hDD : s.heap.objs.size = D at hC ⊢
  have hDC : D ≠ C := by lia
  have old : ∀ b o, s.heap.get? b = some o → h₁.get? b = some o := fun b o e => by
    have hb := ltN (show b < D by rw [← hDD]; exact Heap.lt_size e)
    refine hsb₁.extBut b o (by refine neN ?_; lia) (Heap.get?_push_of_some _ ?_)
    rw [← hH2]
    exact Heap.get?_push_of_some _ e
  have hIlt : I < D := by
    refine bc fun nG => ?_
    obtain ⟨o, ho, _⟩ := hit
    refine nG ?_
    rw [← hDD]; exact Heap.lt_size ho
  have hIC : I ≠ C := Nat.ne_of_lt (by rw [hC]; exact Nat.lt_succ_of_lt hIlt)
  have hDI : D ≠ I := Nat.ne_of_gt hIlt
  have hacc : h₁.get? D = some { cls := .type "list", dict := none, data := .seq (List.toArray []) 0 } := by
    refine hsb₁.extBut _ _ hDC (Heap.get?_push_of_some _ ?_)
    rw [← hH2, ← hDD]
    exact Heap.get?_push_size _ rfl
  have W' := Walks.list (prog := prog) (w := w) (A := A) hh I Ls (Ne.symm hne) (List.toArray vs)
  have hst : (fun i (h : Heap) => h.IsListIter I Ls i ∧ h.IsList Ls (List.toArray vs)) (List.toArray vs).size h₁ := by
    refine bc fun nG => ?_
    obtain ⟨o, ho, r⟩ := hit
    obtain ⟨o2, ho2, r2⟩ := hl
    refine nG ?_
    exact ⟨⟨o, old _ _ ho, by rw [List.size_toArray]; exact r⟩, ⟨o2, old _ _ ho2, r2⟩⟩
  have loop : ∀ s₃ : Shared, s₃ = { s with heap := h₁, toks := s.toks + ([] : List (Str × Value)).length } →
      codeAny (model prog w) A (.compLoop (.ListComp elt [⟨.Name x px, .Name y py, [], 0⟩] csc pos) 0 (.ref I) (.ref D) (compEnvC csc (clOf env.cells csc.names []) C env))
        (compPost (model prog w) A E none (fun v s' => (∃ h tk, s' = { s with heap := h, toks := tk }) ∧ (∀ b o, b ≠ I → s.heap.get? b = some o → s'.heap.get? b = some o) ∧ V s'.heap [] (.list []) v) (.ref D) C) s₃ := by
    rintro s₃ rfl
    refine codeAny_compLoop_tests (fun k s' => s' = { s with heap := h₁, toks := s.toks + ([] : List (Str × Value)).length }) ?_ 0 rfl
    rintro k s' rfl
    refine W'.done _ _ _ hst fun h₂ tk₂ hk₂ => ?_
    refine ⟨_, hns₁.at' fun o e => hk₂ _ o (fun q => hIC (List.mem_singleton.mp q).symm) e, fun h₃ hs₃ => ?_⟩
    refine ⟨⟨h₃, tk₂, rfl⟩, fun b o hb e => ?_, ?_⟩
    · have hbC : b ≠ C := Nat.ne_of_lt (by rw [hC, ← hDD]; exact Nat.lt_succ_of_lt (Heap.lt_size e))
      exact hs₃.extBut b o hbC (hk₂ b o (fun q => hb (List.mem_singleton.mp q)) (old b o e))
    · unfold V
      refine ⟨D, [], rfl, by simp, ⟨_, hs₃.extBut _ _ hDC (hk₂ _ _ (fun q => hDI (List.mem_singleton.mp q)) hacc), rfl, 0, rfl⟩, by unfold VL; rfl⟩
  exact codeAny_compStart_list (loop _ rfl) (W'.self _ _ _ _ hst (loop _ rfl))
noncomputable abbrev ρ9 (ns : List Int) (rows : List (List UInt8)) (I : Addr) : List (Str × Dt) := ρ7 ns rows ++ [eI I, eRd rows]
theorem posK_end (rows : List (List UInt8)) : posK rows rows.length = (digAll rows).length := by
  unfold posK
  rw [List.take_of_length_le (by rw [allK_len]; exact Nat.le_refl _)]
  show _ = (allK rows).flatten.length
  rw [List.length_flatten]
theorem LS.dropI {P : Params} {s' : Shared} {ρ : List (Str × Dt)} {o11 o63 : Obj} {I : Addr} (L : LE P s₀ env A) (S : LS P s₀ s env [I] ρ o11 o63) (fI : s₀.heap.get? I = none) (nI : I ∉ Wr env none ++ [111, 163]) (sh : ∃ h tk, s' = { s with heap := h, toks := tk }) (k : ∀ b o, b ≠ I → s.heap.get? b = some o → s'.heap.get? b = some o) : LS P s₀ s' env [] ρ o11 o63 := by
  obtain ⟨a, b, c, d⟩ := fresh_kx L fI
  have n11 : (111 : Addr) ≠ I := fun q => nI (by rw [← q]; simp)
  have n63 : (163 : Addr) ≠ I := fun q => nI (by rw [← q]; simp)
  refine ⟨?_, StOk.drop (C := I) L.sep nI S.st k, ?_, k _ _ n11 S.t11, k _ _ n63 S.t63⟩
  · obtain ⟨h, tk, rfl⟩ := sh
    obtain ⟨hh, tt, e, x, y⟩ := S.kp
    refine ⟨h, tk, by rw [e], fun z o hz ez => k z o (fun q => by rw [q, fI] at ez; cases ez) (S.kp.out z o hz ez), fun z hz _ => ?_⟩
    simp only [List.mem_cons, List.not_mem_nil, or_false] at hz
    rcases hz with rfl | rfl
    · exact ⟨_, k _ _ n11 S.t11⟩
    · exact ⟨_, k _ _ n63 S.t63⟩
  · exact {
      kin := fun x o e => k x o (fun q => a ⟨o, by rw [← q]; exact e⟩) (S.gd.kin x o e)
      g := let ⟨mg, e⟩ := S.gd.g; ⟨mg, e.at' fun o q => k _ o (Ne.symm b) q⟩
      b := let ⟨mb, e, r⟩ := S.gd.b; ⟨mb, e.at' fun o q => k _ o (Ne.symm c) q, r⟩
      lim := let ⟨mc, e, r⟩ := S.gd.lim; ⟨mc, e.at' fun o q => k _ o (Ne.symm d) q, r⟩ }
theorem S9 (P : Params) {rows : List (List UInt8)} {ns : List Int} {o11 o63 : Obj} {I Ls : Addr} (h : RowsOk rows) (L : LE P s₀ env A) (S : LS P s₀ s env [I] (ρ9 ns rows I) o11 o63) (R : Rest s₀ s env I Ls (digAll rows) (posK rows rows.length)) :
    wpAny (model prog w) A (exec (stL P 9) env) (fun f s' => f = .next ∧ LS P s₀ s' env [] (ρ9 ns rows I) o11 o63) E s := by
  have n2 := h.n2
  have n2' : rows.length ≤ 1000 := Nat.le_trans n2 (by decide)
  refine bc fun nG => ?_
  obtain ⟨vs, hls, hvs⟩ := R.ls
  refine nG ?_
  have hvl : posK rows rows.length = vs.length := by rw [posK_end, hvs.length]
  conv => arg 3; arg 1; whnf
  refine wpAny_If ?_
  refine wpAny_bind (wpAny_mono (wpAny_isTrue_Compare1 (Q := fun b s' => b = false ∧ LS P s₀ s' env [] (ρ9 ns rows I) o11 o63) (wpAny_mono (comp_done (X := [I] ++ (Wr env none ++ [111, 163])) (I := I) (Ls := Ls) (vs := vs) (ρ := ρ9 ns rows I) L.sc S.st.env L.rm.1 (by kernel_rfl) rfl (by kernel_rfl) (by kernel_rfl) (by kernel_rfl) (by kernel_rfl) (by rw [← hvl]; exact R.it) hls R.ne) (fun v s₁ q => ?_) fun _ _ x => x) (by rfl)) (fun b s₁ q => ?_) fun _ _ x => x)
  · refine bc fun nG => ?_
    obtain ⟨sh, k₁, hv⟩ := q
    refine nG ?_
    have S₁ := S.dropI L R.fI R.nI sh k₁
    refine PyProof.Rows.List_ (PySem.Calls.spliced_nil (wpAny_newList ?_ (by rw [sizeLine_eq]; simp)))
    have kp : Ext s₁.heap (s₁.heap.push { cls := .type "list", data := .seq ([] : List Value).toArray }) := fun b o e => Heap.get?_push_of_some _ e
    refine cmpD_sound (X := []) (k := false) ne_nil (hv.ext kp) (list_push (l := []) (X := []) (vs := []) (fun a ha => by cases ha) (by unfold VL; rfl)) L.rm.units ?_
    exact wpAny_truthy_bool ⟨rfl, S₁.step0 L (Keeps.of_heap kp)⟩
  · obtain ⟨rfl, S₁⟩ := q
    have hne : cmpD .NotEq (rdD rows) (rdD rows) = some false := ne_self (fun d hd => by
      refine bc fun nG => ?_
      obtain ⟨i, _, rfl⟩ := List.mem_map.mp hd
      refine nG ?_
      refine eqD_self fun d hd => ?_
      simp only [List.mem_cons, List.not_mem_nil, or_false] at hd
      rcases hd with rfl | rfl <;> exact eqD_int _) (Nat.le_trans (depL_le (k := 1) fun d hd => by
      refine bc fun nG => ?_
      obtain ⟨i, _, rfl⟩ := List.mem_map.mp hd
      refine nG ?_
      simp [dep, depL]) (by lia))
    refine wpAny_mono ((ev_sound (m := 3) (Bn_x P) (cfL_g P) (cfL_f P) 20).2.2.2.2 scL (ρ9 ns rows I) .Or _ false env A E s₁ _ ?_ L.sc S₁.st.env S₁.gd (L.rm.mono (by decide))) (fun b s₂ q => ?_) fun _ _ x => x
    · exact tstsk_by 17 0 [1] [.l ((List.range rows.length).map fun (i : Nat) => .int (i : Int)), .l ((List.range rows.length).map fun i => .list [.int (ddR (rows.getD i [])), .int ((i : Int) * 7)]), .b false] (go_map (mk := fun (i : Nat) => Dt.int (i : Int)) (fun i => .list [.int (ddR (rows.getD i [])), .int ((i : Int) * 7)]) (l := List.range rows.length) (fun i hi => cF_by [.d (.int (ddR (rows.getD i []))), .d (.int ((i : Int) * 7))] (fun z => ai (at_map2 rows [] ddR (List.mem_range.mp hi) n2') (ai (bmr (i : Int) 7 rfl) z)) (by kernel_rfl)))
        (fun hgo z => ai (rng rows.length n2') (ai (places_len h fun (i : Nat) => .int (i : Int)) (ai hgo (ai hne z)))) (by kernel_rfl)
    · obtain ⟨k₂, rfl⟩ := q
      rw [if_neg (by simp)]
      exact wpAny_execs_nil ⟨rfl, S₁.step0 L k₂⟩
end Mine
end
section
open PySem PySem.W PyProof.Rows
set_option maxRecDepth 100000
set_option maxHeartbeats 4000000
namespace Mine
variable {prog : Program} {w : World} {A : Around} {E : Value → Shared → Prop} {s s₀ : Shared} {env : Env}
section
variable (a1 a2 p1 p2 p3 p4 p5 p6 p7 p8 p9 p10 p11 p12 p13 p14 p15 p16 p17 p18 p19 : Pos) (k1 k2 : Nat)
noncomputable def cmpParams : Arguments := { posonlyargs := [], args := [{ arg := Str.ofString "j", annotation := none, pos := a1 }, { arg := Str.ofString "k", annotation := none, pos := a2 }], vararg := none, kwonlyargs := [], kw_defaults := [], kwarg := none, defaults := [] }
noncomputable def cmpLam : Expr := .BinOp (.BinOp (.Subscript (.Name (Str.ofString "due") p1) (.Name (Str.ofString "j") p2) p3) .Mult (.BinOp (.Constant (.int 64) k1 p4) .Pow (.Subscript (.Name (Str.ofString "many") p5) (.Name (Str.ofString "k") p6) p7) p8) p9) .Sub
  (.BinOp (.Subscript (.Name (Str.ofString "due") p10) (.Name (Str.ofString "k") p11) p12) .Mult (.BinOp (.Constant (.int 64) k2 p13) .Pow (.Subscript (.Name (Str.ofString "many") p14) (.Name (Str.ofString "j") p15) p16) p17) p18) p19
noncomputable def cmpScope : Scope := { kind := .function, names := [(Str.ofString "j", .local), (Str.ofString "k", .local), (Str.ofString "due", .free), (Str.ofString "many", .free)], isGenerator := false, isCoroutine := false, more := [] }
end
noncomputable def cmK (rows : List (List UInt8)) (i j : Nat) : Int := cmR (rows.getD i []) (rows.getD j [])
structure HpL (rows : List (List UInt8)) (fa c' cd cm : Addr) (lo oc : Obj) (h : Heap) : Prop where
  f : h.get? fa = some lo
  c : h.get? c' = some oc
  d : ∃ v, h.IsCell cd (some v) ∧ V h [cd, cm] (intsD' (rows.map ddR)) v
  m : ∃ v, h.IsCell cm (some v) ∧ V h [cd, cm] (intsD' (rows.map fun r => (mmR r : Int))) v
theorem HpL.ext {rows : List (List UInt8)} {fa c' cd cm : Addr} {lo oc : Obj} {h h' : Heap} (k : Ext h h') (H : HpL rows fa c' cd cm lo oc h) : HpL rows fa c' cd cm lo oc h' where
  f := k _ _ H.f
  c := k _ _ H.c
  d := let ⟨v, ⟨o, ho, r⟩, hv⟩ := H.d; ⟨v, ⟨o, k _ _ ho, r⟩, hv.ext k⟩
  m := let ⟨v, ⟨o, ho, r⟩, hv⟩ := H.m; ⟨v, ⟨o, k _ _ ho, r⟩, hv.ext k⟩
theorem dd_small {r : List UInt8} (h : r.length ≤ 5) : (ddR r).natAbs < 2 ^ 64 := by
  have h1 := num_range r
  unfold ddR pwR
  have : r.length = 0 ∨ r.length = 1 ∨ r.length = 2 ∨ r.length = 3 ∨ r.length = 4 ∨ r.length = 5 := by lia
  generalize numD r = N at h1 ⊢
  rcases this with q | q | q | q | q | q <;> rw [q] at h1 ⊢ <;> simp at h1 ⊢ <;> lia
theorem cmp2_law (P : Params) {rows : List (List UInt8)} {fa c' cd cm : Addr} {oc : Obj} {vs : Array Value} {tk : Tok} {q : Str} {clos : List (Str × Addr)} {pm ctv : Value} {a1 a2 p1 p2 p3 p4 p5 p6 p7 p8 p9 p10 p11 p12 p13 p14 p15 p16 p17 p18 p19 : Pos} {k1 k2 : Nat} (h : RowsOk rows) (hd : clos.lookup (Str.ofString "due") = some cd) (hm : clos.lookup (Str.ofString "many") = some cm) (hoc : oc.data = .fields vs) (hq : vs[1]? = some (.str q tk)) :
    Cmp2 prog w (Kx P) 1 (HpL rows fa c' cd cm (kla_obj "<lambda>" q (cmpParams a1 a2) (cmpLam p1 p2 p3 p4 p5 p6 p7 p8 p9 p10 p11 p12 p13 p14 p15 p16 p17 p18 p19 k1 k2) cmpScope clos pm c' ctv) oc) fa (cmK rows) rows.length where
  ext := fun h h' k H => H.ext k
  fn := fun h H => ⟨_, _, H.f, rfl⟩
  run := by
    intro A E s i j t u R G H hi hj
    have n2 := h.n2
    have n2' : rows.length ≤ 1000 := Nat.le_trans n2 (by decide)
    obtain ⟨vd, hcd, hvd⟩ := H.d
    obtain ⟨vm, hcm, hvm⟩ := H.m
    have Lv : Live s.heap [cd, cm] := fun a ha => by
      simp only [List.mem_cons, List.not_mem_nil, or_false] at ha
      rcases ha with rfl | rfl
      · obtain ⟨o, ho, _⟩ := hcd; exact ⟨o, ho⟩
      · obtain ⟨o, ho, _⟩ := hcm; exact ⟨o, ho⟩
    refine wpAny_mono (clo_ev (m := 0) (n := 12) (X := [cd, cm]) (ρc := [(Str.ofString "due", intsD' (rows.map ddR)), (Str.ofString "many", intsD' (rows.map fun r => (mmR r : Int)))]) (names := [Str.ofString "j", Str.ofString "k"]) (ds := [.int i, .int j]) (vals := [.int i t, .int j u]) (d := .int (cmK rows i j)) (cf := cf0) (Bn_x P) (cf0_g P) cf0_f (CloOk.ofB H.f rfl rfl rfl ⟨c', oc, vs, tk, rfl, H.c, hoc, hq⟩ (by kernel_rfl)) rfl R G Lv ?_ (BindsTo.of_eq (by kernel_rfl)) ?_ ?_ ?_) (fun r s' q => ?_) fun _ _ x => x
    · unfold VL V VL V VL; exact ⟨_, _, rfl, ⟨_, rfl⟩, _, _, rfl, ⟨_, rfl⟩, rfl⟩
    · intro x hx
      have hm' := mem_of_lookup hx
      have : (x, NameKind.free) ∈ [(Str.ofString "j", NameKind.local), (Str.ofString "k", .local), (Str.ofString "due", .free), (Str.ofString "many", .free)] := hm'
      simp only [List.mem_cons, Prod.mk.injEq, List.not_mem_nil, or_false] at this
      rcases this with ⟨_, q⟩ | ⟨_, q⟩ | ⟨rfl, _⟩ | ⟨rfl, _⟩
      · cases q
      · cases q
      · refine ⟨cd, _, hd, hcd, by simp, fun d e => ?_⟩
        have e' : some (intsD' (rows.map ddR)) = some d := by rw [← e]; kernel_rfl
        cases e'
        exact ⟨_, rfl, hvd⟩
      · refine ⟨cm, _, hm, hcm, by simp, fun d e => ?_⟩
        have e' : some (intsD' (rows.map fun r => (mmR r : Int))) = some d := by rw [← e]; kernel_rfl
        cases e'
        exact ⟨_, rfl, hvm⟩
    · intro x d e
      rw [List.lookup_cons] at e
      cases hx : x == Str.ofString "due" with
      | true => rw [beq_iff_eq.mp hx]; decide +kernel
      | false =>
        rw [hx, List.lookup_cons] at e
        cases hx2 : x == Str.ofString "many" with
        | true => rw [beq_iff_eq.mp hx2]; decide +kernel
        | false => rw [hx2] at e; cases e
    · have hri := h.at hi
      have hrj := h.at hj
      have mi : mmR (rows.getD i []) ≤ 1000 := by unfold mmR; lia
      have mj : mmR (rows.getD j []) ≤ 1000 := by unfold mmR; lia
      exact ev_by [.d (.int (ddR (rows.getD i []))), .d (.int (mmR (rows.getD j []))), .d (.int (64 ^ mmR (rows.getD j []))), .d (.int (ddR (rows.getD i []) * 64 ^ mmR (rows.getD j []))), .d (.int (ddR (rows.getD j []))), .d (.int (mmR (rows.getD i []))), .d (.int (64 ^ mmR (rows.getD i []))), .d (.int (ddR (rows.getD j []) * 64 ^ mmR (rows.getD i [])))]
        (fun z => ai (at_map2 rows [] ddR hi n2') (ai (at_map2 rows [] (fun r => (mmR r : Int)) hj n2') (ai (bpw 64 (mmR (rows.getD j [])) mj rfl) (ai (bmh (ddR (rows.getD i [])) (64 ^ mmR (rows.getD j [])) (dd_small hri.2)) (ai (at_map2 rows [] ddR hj n2') (ai (at_map2 rows [] (fun r => (mmR r : Int)) hi n2') (ai (bpw 64 (mmR (rows.getD i [])) mi rfl) (ai (bmh (ddR (rows.getD j [])) (64 ^ mmR (rows.getD i [])) (dd_small hrj.2)) z)))))))) (by kernel_rfl)
    · obtain ⟨k, hv⟩ := q
      exact ⟨k, hv⟩
theorem LS.step11 {P : Params} {s' : Shared} {Z Z' : List Addr} {ρ ρ' : List (Str × Dt)} {o11 o63 o11' : Obj} (S : LS P s₀ s env Z ρ o11 o63) (k : KeepsW [111] s s') (N : StOk s'.heap (Z' ++ (Wr env none ++ [111, 163])) env none (ρ', [])) (ht : s'.heap.get? 111 = some o11') : LS P s₀ s' env Z' ρ' o11' o63 := by
  have h1 := k.out 163 _ (by decide) S.t63
  have gd := Gd.keepsW k (gdw111 P) S.gd
  refine ⟨?_, N, gd, ht, h1⟩
  obtain ⟨hh, tt, e, a, b⟩ := S.kp
  obtain ⟨h', tk', rfl, c, d⟩ := k
  refine ⟨h', tk', by rw [e], fun x o hx ex => ?_, fun x hx _ => ?_⟩
  · exact c x o (fun q => hx (by rw [List.mem_singleton.mp q]; simp)) (S.kp.out x o hx ex)
  · simp only [List.mem_cons, List.not_mem_nil, or_false] at hx
    rcases hx with rfl | rfl
    · exact ⟨_, ht⟩
    · exact ⟨_, h1⟩
structure Key (P : Params) (prog : Program) (w : World) (s : Shared) (env : Env) (rows : List (List UInt8)) (k : KP) (fa c' cd cm : Addr) (lo oc : Obj) : Prop where
  kh : KH P s.heap k
  cell : s.heap.IsCell k.c (some (.ref fa))
  f : s.heap.get? fa = some lo
  c : s.heap.get? c' = some oc
  nf : nk lo = true
  nc : nk oc = true
  nN : k.N ∉ Wr env none
  nC : k.c ∉ Wr env none
  cmp : Cmp2 prog w (Kx P) 1 (HpL rows fa c' cd cm lo oc) fa (cmK rows) rows.length
  ld : env.cells.lookup (Str.ofString "due") = some cd
  lm : env.cells.lookup (Str.ofString "many") = some cm
theorem Key.keepW {P : Params} {s' : Shared} {Z : List Addr} {ρ : List (Str × Dt)} {o11 o63 : Obj} {rows : List (List UInt8)} {k : KP} {fa c' cd cm : Addr} {lo oc : Obj} (L : LE P s₀ env A) (S : LS P s₀ s env Z ρ o11 o63) (K : Key P prog w s env rows k fa c' cd cm lo oc) (kk : KeepsW (Wr env none) s s') : Key P prog w s' env rows k fa c' cd cm lo oc := by
  have nkk := S.nkKeep L kk
  exact ⟨K.kh.keep nkk fun o e => kk.out _ o K.nN e, let ⟨o, ho, r⟩ := K.cell; ⟨o, kk.out _ o K.nC ho, r⟩, nkk _ _ K.nf K.f, nkk _ _ K.nc K.c, K.nf, K.nc, K.nN, K.nC, K.cmp, K.ld, K.lm⟩
theorem cell_kind {sc : List (Str × NameKind)} (S : ScOk sc env) {x : Str} (h : sc.lookup x = some .cell) : env.kindOf x = some .cell := by
  rcases S x .cell h with q | ⟨q, _⟩
  · exact q
  · cases q
theorem hp_of {P : Params} {Z : List Addr} {ρ : List (Str × Dt)} {o11 o63 : Obj} {rows : List (List UInt8)} {k : KP} {fa c' cd cm : Addr} {lo oc : Obj} (L : LE P s₀ env A) (S : LS P s₀ s env Z ρ o11 o63) (K : Key P prog w s env rows k fa c' cd cm lo oc) (hd : ρ.lookup (Str.ofString "due") = some (intsD' (rows.map ddR))) (hm : ρ.lookup (Str.ofString "many") = some (intsD' (rows.map fun r => (mmR r : Int)))) : HpL rows fa c' cd cm lo oc s.heap := by
  refine bc fun nG => ?_
  obtain ⟨c1, ov1, e1, i1, x1, g1⟩ := S.st.env.cel (Str.ofString "due") (.inl (cell_kind L.sc (by kernel_rfl)))
  obtain ⟨c2, ov2, e2, i2, x2, g2⟩ := S.st.env.cel (Str.ofString "many") (.inl (cell_kind L.sc (by kernel_rfl)))
  refine nG ?_
  rw [K.ld] at e1
  rw [K.lm] at e2
  cases e1; cases e2
  refine bc fun nG => ?_
  obtain ⟨v1, rfl, hv1⟩ := g1 _ hd
  obtain ⟨v2, rfl, hv2⟩ := g2 _ hm
  refine nG ?_
  have sub : ∀ b ∈ [cd, cm], b ∈ Z ++ (Wr env none ++ [111, 163]) := fun b hb => by
    simp only [List.mem_cons, List.not_mem_nil, or_false] at hb
    rcases hb with rfl | rfl
    · exact x1
    · exact x2
  exact ⟨K.f, K.c, ⟨v1, i1, hv1.less sub⟩, ⟨v2, i2, hv2.less sub⟩⟩
noncomputable def eK (k : KP) : Str × Dt := (Str.ofString "key", .opq (.ref k.C))
noncomputable abbrev ρ11 (ns : List Int) (rows : List (List UInt8)) (I : Addr) : List (Str × Dt) := ρ9 ns rows I ++ [eB rows]
theorem S12 (P : Params) {rows : List (List UInt8)} {ns : List Int} {o63 : Obj} {I : Addr} (h : RowsOk rows) (L : LE P s₀ env A) (S : LS P s₀ s env [] (ρ11 ns rows I) (tabObj #[]) o63) (T6 : Tab6 o63) :
    wpAny (model prog w) A (exec (stL P 12) env) (fun f s' => f = .next ∧ ∃ k fa c' cd cm lo oc ps ps', LS P s₀ s' env [] (ρ11 ns rows I ++ [eK k]) (tabObj ps) (tabObj ps') ∧ Key P prog w s' env rows k fa c' cd cm lo oc) E s := by
  have n2 := h.n2
  refine bc fun nG => ?_
  obtain ⟨cd, ov1, ld, _⟩ := S.st.env.cel (Str.ofString "due") (.inl (cell_kind L.sc (by kernel_rfl)))
  obtain ⟨cm, ov2, lm, _⟩ := S.st.env.cel (Str.ofString "many") (.inl (cell_kind L.sc (by kernel_rfl)))
  refine nG ?_
  have hclos : closureFor cmpScope env = pure (clOf env.cells cmpScope.names []) := closureFor_cl fun n hn => by
    have : (n, NameKind.free) ∈ [(Str.ofString "j", NameKind.local), (Str.ofString "k", .local), (Str.ofString "due", .free), (Str.ofString "many", .free)] := hn
    simp only [List.mem_cons, Prod.mk.injEq, List.not_mem_nil, or_false] at this
    rcases this with ⟨_, q⟩ | ⟨_, q⟩ | ⟨rfl, _⟩ | ⟨rfl, _⟩
    · cases q
    · cases q
    · exact ⟨_, ld⟩
    · exact ⟨_, lm⟩
  have hcd := clOf_lookup env.cells ld cmpScope.names [] (fun d q => by simp at q) (.inl (by unfold cmpScope; simp))
  have hcm := clOf_lookup env.cells lm cmpScope.names [] (fun d q => by simp at q) (.inl (by unfold cmpScope; simp))
  have hkk : env.kindOf (Str.ofString "cmp_to_key") = some .globalImplicit := kind_glob L.sc (by kernel_rfl)
  have hWX : ∀ b ∈ [163], b ∈ ([] : List Addr) ++ (Wr env none ++ [111, 163]) := fun b hb => by rw [List.mem_singleton.mp hb]; simp
  have hEW : EnvW [163] env := EnvW.of (oa := none) fun b hb => by rw [List.mem_singleton.mp hb]; exact L.nT.2
  have hWX1 : ∀ b ∈ [111], b ∈ ([] : List Addr) ++ (Wr env none ++ [111, 163]) := fun b hb => by rw [List.mem_singleton.mp hb]; simp
  have hEW1 : EnvW [111] env := EnvW.of (oa := none) fun b hb => by rw [List.mem_singleton.mp hb]; exact L.nT.1
  obtain ⟨ps, rfl, hTr, hnf⟩ : ∃ ps, o63 = tabObj ps ∧ TriplesOk ps.toList ∧ codeAmong { line := 230, col := 21, endLine := 230, endCol := 81 } ps.toList = none := by
    rcases T6 with q | ⟨c', q⟩
    · exact ⟨_, q, trivial, rfl⟩
    · exact ⟨_, q, trivial, by simp [codeAmong, rawInt]⟩
  conv => arg 3; arg 1; whnf
  rw [exec_Assign_Name env _ _ _ _ rfl]
  refine wpAny_bind (wpAny_standAt (wpAny_bind ?_))
  refine wpAny_Call_Name_kw (glob_name (v := .ref 116) S.gd S.st.env hkk (by kernel_rfl) (by decide +kernel) ?_)
  refine callWith_of (P := fun h => (Kx P).In h) rfl (fun h hK => ((FnOk.of (names := [Str.ofString "mycmp"]) (by kernel_rfl) : FnOk (Kx P) 116 _ _ _).fnv h hK).keeps) ?_
  refine evalArgs_any rfl rfl (PySem.Calls.spliced_cons ?_)
  show wpAny (model prog w) A (eval (.Lambda (cmpParams _ _) (cmpLam _ _ _ _ _ _ _ _ _ _ _ _ _ _ _ _ _ _ _ _ _) cmpScope { line := 230, col := 21, endLine := 230, endCol := 81 }) env) _ _ s
  refine lam_new S.gd rfl hclos S.st.env.glob L.code S.t63 hTr hnf ?_
  intro fa c' s₁ LM hcn hne htab
  refine PySem.Calls.spliced_nil (wpAny_evalAll_nil ?_)
  have N₁ : StOk s₁.heap ([] ++ (Wr env none ++ [111, 163])) env none (ρ11 ns rows I, []) := ⟨S.st.env.keepsW LM.keep hWX hEW, fun a e => by cases e⟩
  have S₁ := S.step63 (Z' := []) LM.keep N₁ htab
  refine ⟨S₁.gd.kin, ?_⟩
  refine c_cmp P (m := 10) (L.rm.mono (by decide)) S₁.gd N₁.env.live S₁.t11 fun k s₂ KM => ?_
  refine bc fun nG => ?_
  obtain ⟨ps11, ht11⟩ := KM.tab
  have N₂ : StOk s₂.heap ([] ++ (Wr env none ++ [111, 163])) env none (ρ11 ns rows I, []) := ⟨N₁.env.keepsW KM.keep hWX1 hEW1, fun a e => by cases e⟩
  have S₂ := S₁.step11 (Z' := []) KM.keep N₂ ht11
  obtain ⟨pm, ctv, hob⟩ := LM.obj
  obtain ⟨c2, oc, vs, tkn, e2, hoc, hdd, hvq⟩ := LM.crec
  refine nG ?_
  cases e2
  have ne11 : ∀ {x : Addr}, s.heap.get? x = none → x ∉ [111] := fun {x} e q => by rw [List.mem_singleton.mp q, S.t11] at e; cases e
  have hob2 := KM.keep.out _ _ (ne11 LM.fresh) hob
  have hoc2 := KM.keep.out _ _ (ne11 hcn) hoc
  have lv : ∀ b ∈ Wr env none, ∃ o, s₁.heap.get? b = some o := fun b hb => N₁.env.live b (List.mem_append_right _ (List.mem_append_left _ hb))
  have K2 : Key P prog w s₂ env rows k fa c' cd cm _ oc := {
    kh := KM.kh
    cell := KM.cell
    f := hob2
    c := hoc2
    nf := rfl
    nc := by unfold nk; rw [hdd]
    nN := fun q => by obtain ⟨o, ho⟩ := lv _ q; rw [KM.fN] at ho; cases ho
    nC := fun q => by obtain ⟨o, ho⟩ := lv _ q; rw [KM.fc] at ho; cases ho
    cmp := cmp2_law P h hcd hcm hdd hvq
    ld := ld
    lm := lm }
  refine wpAny_bind (wpAny_standAt (wpAny_bind (wpAny_bindName (mono2 (store_ok (x := Str.ofString "key") (d := .opq (.ref k.C)) (v := .ref k.C) (by kernel_rfl) L.sc (L.sepZ []) N₂ (by unfold V; rfl)) fun _ s₃ k₃ N₃ => ?_))))
  exact wpAny_pure ⟨rfl, k, fa, c', cd, cm, _, oc, ps11, _, S₂.step L L.fresh L.gw k₃ N₃, K2.keepW L S₂ k₃⟩
end Mine
end
section
open PySem PySem.W PyProof.Rows
set_option maxRecDepth 100000
set_option maxHeartbeats 4000000
namespace Mine
variable {prog : Program} {w : World} {A : Around} {E : Value → Shared → Prop} {s s₀ : Shared} {env : Env}
theorem EnvOk.sorted {h h' : Heap} {X : List Addr} {ρ : List (Str × Dt)} {m : Str → Option Value} (P : Sep X env none) (N : EnvOk h X env ρ) (hm : ∀ x d, ρ.lookup x = some d → env.kindOf x = some .local → ∃ v, m x = some v ∧ V h X d v) (hn : h'.Ns env.locals m) (k : ∀ b o, b ≠ env.locals → h.get? b = some o → h'.get? b = some o) : EnvOk h' X env ρ := by
  have kV : ∀ {d : Dt} {v : Value}, V h X d v → V h' X d v := fun {d v} x => V.keep (fun b o hb e => k b o (fun q => hb (by rw [q]; exact N.inX)) e) d v x
  refine ⟨N.kind, N.glob, N.blt, N.inX, fun a ha => ?_, ⟨m, hn, fun x d e q => let ⟨v, a, b⟩ := hm x d e q; ⟨v, a, kV b⟩⟩, fun y hy => ?_⟩
  · by_cases q : a = env.locals
    · refine bc fun nG => ?_
      obtain ⟨o, es, ep, ho, _⟩ := hn
      refine nG ?_
      exact ⟨o, by rw [q]; exact ho⟩
    · obtain ⟨o, ho⟩ := N.live a ha
      exact ⟨o, k a o q ho⟩
  · refine bc fun nG => ?_
    obtain ⟨c, ov, a, ⟨o, ho, hd⟩, cx, e⟩ := N.cel y hy
    refine nG ?_
    exact ⟨c, ov, a, ⟨o, k _ o (P.cl _ _ a) ho, hd⟩, cx, fun d q => let ⟨v, p, r⟩ := e d q; ⟨v, p, kV r⟩⟩
theorem gdw_loc {P : Params} (L : LE P s₀ env A) : GdW (Kx P) [env.locals] :=
  ⟨fun a o e q => L.gw.k a o e (by rw [List.mem_singleton.mp q]; exact Wr.loc _ _), fun q => L.gw.g (by rw [List.mem_singleton.mp q]; exact Wr.loc _ _), fun q => L.gw.b (by rw [List.mem_singleton.mp q]; exact Wr.loc _ _), fun q => L.gw.c (by rw [List.mem_singleton.mp q]; exact Wr.loc _ _)⟩
theorem keeps_loc {s' : Shared} {m : Str → Option Value} (sh : ∃ h tk, s' = { s with heap := h, toks := tk }) (hn : s'.heap.Ns env.locals m) (k : ∀ b o, b ≠ env.locals → s.heap.get? b = some o → s'.heap.get? b = some o) : KeepsW [env.locals] s s' := by
  obtain ⟨h, tk, rfl⟩ := sh
  refine ⟨h, tk, rfl, fun b o hb e => k b o (fun q => hb (by rw [q]; simp)) e, fun b hb _ => ?_⟩
  rw [List.mem_singleton.mp hb]
  obtain ⟨o, es, ep, ho, _⟩ := hn
  exact ⟨o, ho⟩
noncomputable def fD (rows : List (List UInt8)) (i : Nat) : Dt := .list [.bytes (fillR (rows.getD i [])), .int (i : Int)]
noncomputable def eF (rows : List (List UInt8)) (p : List Nat) : Str × Dt := (Str.ofString "filled", .list (p.map (fD rows)))
noncomputable abbrev ρ12 (ns : List Int) (rows : List (List UInt8)) (I : Addr) (k : KP) : List (Str × Dt) := ρ11 ns rows I ++ [eK k]
theorem S13 (P : Params) {rows : List (List UInt8)} {ns : List Int} {o11 o63 : Obj} {I : Addr} {k : KP} {fa c' cd cm : Addr} {lo oc : Obj} (h : RowsOk rows) (L : LE P s₀ env A) (S : LS P s₀ s env [] (ρ12 ns rows I k) o11 o63) (K : Key P prog w s env rows k fa c' cd cm lo oc) :
    wpAny (model prog w) A (exec (stL P 13) env) (fun f s' => f = .next ∧ ∃ p : Array Nat, Srt (lt1 rows) rows.length p ∧ LS P s₀ s' env [] (ρ12 ns rows I k ++ [eF rows p.toList]) o11 o63 ∧ Key P prog w s' env rows k fa c' cd cm lo oc) E s := by
  have n1 := h.n1
  have n2 := h.n2
  have n2' : rows.length ≤ 1000 := Nat.le_trans n2 (by decide)
  have hks : env.kindOf (Str.ofString "sorted") = some .globalImplicit := kind_glob L.sc (by kernel_rfl)
  conv => arg 3; arg 1; whnf
  rw [exec_Assign_Name env _ _ _ _ rfl]
  refine wpAny_bind (wpAny_standAt (wpAny_bind ?_))
  refine wpAny_Call_Name_kw (blt_name S.gd S.st.env hks (by kernel_rfl) (v := .builtin "sorted") (by kernel_rfl) (by decide +kernel) (by decide +kernel) ?_)
  refine callWith_of (P := fun h => True) rfl (fun h _ => FnV.keeps (h := h) (f := .builtin "sorted") trivial) ?_
  refine evalArgs_any rfl rfl (PySem.Calls.spliced_cons (wpAny_mono ((ev_sound (m := 3) (Bn_x P) (cfL_g P) (cfL_f P) 20).1 scL (ρ12 ns rows I k) _ (.list ((List.range rows.length).map (fD rows))) env A E s _ ?_ L.sc S.st.env S.gd (L.rm.mono (by decide))) (fun v s₁ q => ?_) fun _ _ x => x))
  · exact evk_by 18 [] [.l ((List.range rows.length).map fun (i : Nat) => .int (i : Int)), .l ((List.range rows.length).map (fD rows))] (go_map (mk := fun (i : Nat) => Dt.int (i : Int)) (fD rows) (l := List.range rows.length) (fun i hi => by
      have hi := List.mem_range.mp hi
      have hr := (row_in h hi).2
      generalize hq : rows.getD i [] = r at hr
      have e1 : itemD (bsD rows) (.int (i : Int)) = some (.bytes r) := hq ▸ at_map rows [] Dt.bytes hi n2'
      have hz : (List.replicate ((5 : Int) - (r.length : Int)).toNat ([0] : List UInt8)).flatten = List.replicate (5 - r.length) 0 := by
        rw [show ((5 : Int) - (r.length : Int)).toNat = 5 - r.length by lia]; exact List.flatten_replicate_singleton
      have e2 : binD .Mult (.bytes [0]) (.int (5 - (r.length : Int))) = some (.bytes (List.replicate (5 - r.length) 0)) := (if_pos ⟨by decide, by decide, by lia, by lia⟩).trans (congrArg (fun z => some (Dt.bytes z)) hz)
      have e3 : binD .Add (.bytes r) (.bytes (List.replicate (5 - r.length) 0)) = some (.bytes (fillR r)) := if_pos (by rw [List.length_replicate]; lia)
      have e4 : fD rows i = .list [.bytes (fillR r), .int (i : Int)] := by unfold fD; rw [hq]
      rw [e4]
      exact cF_by [.d (.bytes r), .d (.bytes r), .d (.int r.length), .d (.bytes (List.replicate (5 - r.length) 0)), .d (.bytes (fillR r))] (fun z => ai e1 (ai e1 (ai (len_b (l := r) (Nat.le_trans hr (by decide))) (ai e2 (ai e3 z))))) (by kernel_rfl)))
      (fun hgo z => ai (rng rows.length n2') (ai (places_len h fun (i : Nat) => .int (i : Int)) (ai hgo z))) (by kernel_rfl)
  · refine bc fun nG => ?_
    obtain ⟨k₁, hv⟩ := q
    have S₁ := S.step0 L k₁
    have K₁ := K.keepW L S (KeepsW.of k₁)
    obtain ⟨l, vs, rfl, nl, hls, hvs⟩ := hv
    have hvl : vs.length = rows.length := by rw [hvs.length, List.length_map, List.length_range]
    obtain ⟨m, hm, hml⟩ := S₁.st.env.loc
    refine nG ?_
    have hLX : env.locals ∈ ([] : List Addr) ++ (Wr env none ++ [111, 163]) := S₁.st.env.inX
    refine PySem.Calls.spliced_nil (wpAny_evalAll_nil ⟨trivial, ?_⟩)
    refine wpAny_mono (sort_pairs (L := env.locals) (m := m) (vs := vs) (bf := fun i => fillR (rows.getD i [])) L.rm.units hm hls (by lia) (by lia) (fun i v hiv => ?_) (swo1 h)) (fun r s₂ q => ?_) fun _ _ x => x
    · refine bc fun nG => ?_
      obtain ⟨d, hd, hV⟩ := hvs.get' hiv
      rw [List.getElem?_map] at hd
      obtain ⟨j, hj, rfl⟩ := Option.map_eq_some_iff.mp hd
      refine nG ?_
      have hij : j = i := by
        obtain ⟨hl, he⟩ := List.getElem?_eq_some_iff.mp hj
        rw [List.getElem_range] at he
        exact he.symm
      subst hij
      unfold fD V at hV
      refine bc fun nG => ?_
      obtain ⟨a, ws, rfl, na, hla, hws⟩ := hV
      unfold VL V VL V VL at hws
      obtain ⟨v1, r1, rfl, ⟨t1, rfl⟩, v2, r2, rfl, ⟨t2, rfl⟩, rfl⟩ := hws
      refine nG ?_
      exact ⟨a, t1, t2, rfl, fun q => na (by rw [q]; exact hLX), hla⟩
    · refine bc fun nG => ?_
      obtain ⟨sh, hn2, kp2, D, p, rfl, hDL, hDf, hsrt, hDl⟩ := q
      refine nG ?_
      rw [hvl] at hsrt
      have kw := keeps_loc sh hn2 kp2
      have N₂ := EnvOk.sorted (L.sepZ []) S₁.st.env hml hn2 kp2
      have S₂ : LS P s₀ s₂ env [] (ρ12 ns rows I k) o11 o63 := S₁.step L (Z' := []) (W := [env.locals]) (fun b hb => by rw [List.mem_singleton.mp hb]; exact L.fresh _ (Wr.loc _ _)) (gdw_loc L) kw ⟨N₂, fun a e => by cases e⟩
      have K₂ := K₁.keepW L S₁ (kw.sub fun b hb => by rw [List.mem_singleton.mp hb]; exact Wr.loc _ _)
      have hDX : D ∉ ([] : List Addr) ++ (Wr env none ++ [111, 163]) := fun q => by
        obtain ⟨o, ho⟩ := S₁.st.env.live D q
        rw [hDf] at ho; cases ho
      have hVD : V s₂.heap ([] ++ (Wr env none ++ [111, 163])) (.list (p.toList.map (fD rows))) (.ref D) := by
        unfold V
        refine ⟨D, _, rfl, hDX, hDl, VL.of_get (by rw [List.length_map, List.length_map]) fun i d v hd hv => ?_⟩
        rw [List.getElem?_map] at hd hv
        refine bc fun nG => ?_
        obtain ⟨j, hj, rfl⟩ := Option.map_eq_some_iff.mp hd
        refine nG ?_
        rw [hj, Option.map_some] at hv
        have hjn : j < rows.length := by
          have := hsrt.perm.mem_iff.mp (List.mem_of_getElem? hj)
          simpa using this
        have e1 : ((List.range rows.length).map (fD rows))[j]? = some (fD rows j) := by rw [List.getElem?_map, List.getElem?_range hjn]; rfl
        refine bc fun nG => ?_
        obtain ⟨u, hu, hVu⟩ := hvs.get e1
        refine nG ?_
        have : v = u := by
          rw [List.getD_eq_getElem?_getD, hu] at hv
          exact (Option.some.inj hv).symm
        rw [this]
        exact V.keep (fun b o hb e => kp2 b o (fun q => hb (by rw [q]; exact hLX)) e) _ _ hVu
      refine wpAny_bind (wpAny_standAt (wpAny_bind (wpAny_bindName (mono2 (store_ok (x := Str.ofString "filled") (d := .list (p.toList.map (fD rows))) (by kernel_rfl) L.sc (L.sepZ []) S₂.st hVD) fun _ s₃ k₃ N₃ => ?_))))
      exact wpAny_pure ⟨rfl, p, hsrt, S₂.step L L.fresh L.gw k₃ N₃, K₂.keepW L S₂ k₃⟩
end Mine
end
section
open PySem PySem.W PyProof.Rows
set_option maxRecDepth 100000
set_option maxHeartbeats 4000000
namespace Mine
variable {prog : Program} {w : World} {A : Around} {E : Value → Shared → Prop} {s s₀ : Shared} {env : Env}
theorem hp_keep {P : Params} {Z : List Addr} {ρ : List (Str × Dt)} {o11 o63 : Obj} {rows : List (List UInt8)} {k : KP} {fa c' cd cm : Addr} {lo oc : Obj} (L : LE P s₀ env A) (S : LS P s₀ s env Z ρ o11 o63) (K : Key P prog w s env rows k fa c' cd cm lo oc) (hd : ρ.lookup (Str.ofString "due") = some (intsD' (rows.map ddR))) (hm : ρ.lookup (Str.ofString "many") = some (intsD' (rows.map fun r => (mmR r : Int))))
    (h : Heap) (kk : ∀ b o, b ≠ env.locals → s.heap.get? b = some o → h.get? b = some o) : HpL rows fa c' cd cm lo oc h := by
  obtain ⟨ol, hol, hnl⟩ := S.nkW L _ (Wr.loc env none)
  have ne : ∀ {b : Addr} {o : Obj}, nk o = true → s.heap.get? b = some o → b ≠ env.locals := fun {b o} hn e q => by
    rw [q, hol] at e; cases e
    rw [hn] at hnl; cases hnl
  obtain ⟨c1, ov1, e1, ⟨o1, i1, d1⟩, x1, g1⟩ := S.st.env.cel (Str.ofString "due") (.inl (cell_kind L.sc (by kernel_rfl)))
  obtain ⟨c2, ov2, e2, ⟨o2, i2, d2⟩, x2, g2⟩ := S.st.env.cel (Str.ofString "many") (.inl (cell_kind L.sc (by kernel_rfl)))
  have n1 := L.sep.cl _ _ e1
  have n2 := L.sep.cl _ _ e2
  rw [K.ld] at e1
  rw [K.lm] at e2
  cases e1; cases e2
  obtain ⟨v1, rfl, hv1⟩ := g1 _ hd
  obtain ⟨v2, rfl, hv2⟩ := g2 _ hm
  have hL := S.st.env.inX
  have kV : ∀ {d : Dt} {v : Value}, V s.heap (Z ++ (Wr env none ++ [111, 163])) d v → V h [cd, cm] d v := fun {d v} x => V.less (fun b hb => by
    simp only [List.mem_cons, List.not_mem_nil, or_false] at hb
    rcases hb with rfl | rfl
    · exact x1
    · exact x2) (V.keep (fun b o hb e => kk b o (fun q => hb (by rw [q]; exact hL)) e) d v x)
  exact ⟨kk _ _ (ne K.nf K.f) K.f, kk _ _ (ne K.nc K.c) K.c, ⟨v1, ⟨o1, kk _ _ n1 i1, d1⟩, kV hv1⟩, ⟨v2, ⟨o2, kk _ _ n2 i2, d2⟩, kV hv2⟩⟩
noncomputable def eL (p : List Nat) : Str × Dt := (Str.ofString "laid", intsD' (p.map Int.ofNat))
noncomputable abbrev ρ13 (ns : List Int) (rows : List (List UInt8)) (I : Addr) (k : KP) (p : List Nat) : List (Str × Dt) := ρ12 ns rows I k ++ [eF rows p]
theorem S14 (P : Params) {rows : List (List UInt8)} {ns : List Int} {o11 o63 : Obj} {I : Addr} {k : KP} {fa c' cd cm : Addr} {lo oc : Obj} {pf : List Nat} (h : RowsOk rows) (L : LE P s₀ env A) (S : LS P s₀ s env [] (ρ13 ns rows I k pf) o11 o63) (K : Key P prog w s env rows k fa c' cd cm lo oc) :
    wpAny (model prog w) A (exec (stL P 14) env) (fun f s' => f = .next ∧ ∃ p : Array Nat, Srt (lt2 rows) rows.length p ∧ LS P s₀ s' env [] (ρ13 ns rows I k pf ++ [eL p.toList]) o11 o63 ∧ Key P prog w s' env rows k fa c' cd cm lo oc) E s := by
  have n1 := h.n1
  have n2 := h.n2
  have hks : env.kindOf (Str.ofString "sorted") = some .globalImplicit := kind_glob L.sc (by kernel_rfl)
  have SV := ev_sound (prog := prog) (w := w) (m := 3) (Bn_x P) (cfL_g P) (cfL_f P) 20
  conv => arg 3; arg 1; whnf
  rw [exec_Assign_Name env _ _ _ _ rfl]
  refine wpAny_bind (wpAny_standAt (wpAny_bind ?_))
  refine wpAny_Call_Name_kw (blt_name S.gd S.st.env hks (by kernel_rfl) (v := .builtin "sorted") (by kernel_rfl) (by decide +kernel) (by decide +kernel) ?_)
  refine callWith_of (P := fun h => True) rfl (fun h _ => FnV.keeps (h := h) (f := .builtin "sorted") trivial) ?_
  refine evalArgs_any rfl rfl (wpAny_mono (SV.2.1 scL (ρ13 ns rows I k pf) _ [.range rows.length] env A E s _ _ ?_ L.sc S.st.env S.gd (L.rm.mono (by decide))).2 (fun vs s₁ q => ?_) fun _ _ x => x)
  · kernel_rfl
  · obtain ⟨k₁, hv⟩ := q
    have S₁ := S.step0 L k₁
    refine wpAny_mono (SV.2.2.1 scL (ρ13 ns rows I k pf) [⟨some (Str.ofString "key"), .Name (Str.ofString "key") _, _⟩] [(Str.ofString "key", .opq (.ref k.C))] env A E s₁ _ _ ?_ L.sc S₁.st.env S₁.gd (L.rm.mono (by decide))).2.2 (fun kvs s₂ q => ?_) fun _ _ x => x
    · kernel_rfl
    · refine bc fun nG => ?_
      obtain ⟨k₂, hkv⟩ := q
      have S₂ := S₁.step0 L k₂
      have K₂ := K.keepW L S (KeepsW.of (Keeps.trans' k₁ k₂))
      have hv2 := hv.ext (Keeps.ext k₂)
      unfold VL at hv2
      obtain ⟨v, r, rfl, hvr, hr⟩ := hv2
      unfold VL at hr
      subst hr
      obtain ⟨ra, t, u, t3, rfl, nra, hrg⟩ := hvr
      unfold VL VL at hkv
      obtain ⟨kv, r, rfl, hkk, hr⟩ := hkv
      subst hr
      subst hkk
      obtain ⟨m, hm, hml⟩ := S₂.st.env.loc
      refine nG ?_
      have hLX : env.locals ∈ ([] : List Addr) ++ (Wr env none ++ [111, 163]) := S₂.st.env.inX
      refine ⟨trivial, ?_⟩
      have hKS : KS0 P prog w s₂ env.locals k 1 rows.length (HpL rows fa c' cd cm lo oc) fa (cmK rows) := {
        ns := ⟨m, hm⟩
        gd := S₂.gd
        gw := gdw_loc L
        kh := K₂.kh
        kN := fun q => K₂.nN (by rw [q]; exact Wr.loc _ _)
        kc := fun q => K₂.nC (by rw [q]; exact Wr.loc _ _)
        cell := K₂.cell
        cmp := K₂.cmp
        hp := fun h' kk => hp_keep L S₂ K₂ (by kernel_rfl) (by kernel_rfl) h' kk }
      refine wpAny_mono (sort_keys P (m := 1) (n := rows.length) (cm := cmK rows) (L.rm.mono (by decide)) hKS hm hrg (by lia) (by lia) (swo2 h)) (fun r s₃ q => ?_) fun _ _ x => x
      refine bc fun nG => ?_
      obtain ⟨sh, hn3, kp3, D, p, rfl, hDL, hDf, hsrt, ws, hDl, hws⟩ := q
      refine nG ?_
      have kw := keeps_loc sh hn3 kp3
      have N₃ := EnvOk.sorted (L.sepZ []) S₂.st.env hml hn3 kp3
      have S₃ : LS P s₀ s₃ env [] (ρ13 ns rows I k pf) o11 o63 := S₂.step L (Z' := []) (W := [env.locals]) (fun b hb => by rw [List.mem_singleton.mp hb]; exact L.fresh _ (Wr.loc _ _)) (gdw_loc L) kw ⟨N₃, fun a e => by cases e⟩
      have K₃ := K₂.keepW L S₂ (kw.sub fun b hb => by rw [List.mem_singleton.mp hb]; exact Wr.loc _ _)
      have hDX : D ∉ ([] : List Addr) ++ (Wr env none ++ [111, 163]) := fun q => by
        obtain ⟨o, ho⟩ := S₂.st.env.live D q
        rw [hDf] at ho; cases ho
      have hVD : V s₃.heap ([] ++ (Wr env none ++ [111, 163])) (intsD' (p.toList.map Int.ofNat)) (.ref D) := by
        unfold intsD' V
        exact ⟨D, _, rfl, hDX, hDl, VL.of_ints hws⟩
      refine wpAny_bind (wpAny_standAt (wpAny_bind (wpAny_bindName (mono2 (store_ok (x := Str.ofString "laid") (d := intsD' (p.toList.map Int.ofNat)) (by kernel_rfl) L.sc (L.sepZ []) S₃.st hVD) fun _ s₄ k₄ N₄ => ?_))))
      exact wpAny_pure ⟨rfl, p, hsrt, S₃.step L L.fresh L.gw k₄ N₄, K₃.keepW L S₃ k₄⟩
end Mine
end
section
open PySem PySem.W PyProof.Rows
set_option maxRecDepth 100000
set_option maxHeartbeats 4000000
namespace Mine
variable {prog : Program} {w : World} {A : Around} {E : Value → Shared → Prop} {s s₀ : Shared} {env : Env}
theorem KF.keep {K : Frag} {k : KP} (F : KF K k) : keepIn K (.ref k.C) = true := by
  have e1 : specialIn K (.ref k.C) "__call__" = some (some (.builtin "type.__call__")) := by
    unfold specialIn
    rw [F.typeC, Option.bind_some]
    kernel_rfl
  unfold keepIn
  simp only [F.lc, clsK]
  rw [e1]; rfl
noncomputable def prevK (n k : Nat) : Nat := if k = 0 then n - 1 else k - 1
theorem item_prev {l : List Dt} {k : Nat} (hk : k < l.length) (hl : l.length ≤ 1000) : itemD (.list l) (.int ((k : Int) - 1)) = l[prevK l.length k]? := by
  show (if l.length ≤ 1000 then (placeD ((k : Int) - 1) l.length).bind fun k => l[k]? else none) = _
  rw [if_pos hl]
  unfold placeD prevK
  by_cases h0 : k = 0
  · subst h0
    rw [if_neg (by lia), if_pos (by lia), if_pos rfl]
    simp only [Option.bind_some]
    congr 1
    lia
  · rw [if_pos (by lia), if_neg h0]
    simp only [Option.bind_some]
    congr 1
    lia
theorem key_call (P : Params) {sc : List (Str × NameKind)} {ρ : List (Str × Dt)} {X : List Addr} {k : KP} {e : Expr} {a : Int} {p pos : Pos} {m : Nat} (S : ScOk sc env) (N : EnvOk s.heap X env ρ) (G : Gd (Kx P) s.heap) (R : Rm A (m + 3)) (H : KH P s.heap k) (hl : isLoc sc (Str.ofString "key") = true) (hk : ρ.lookup (Str.ofString "key") = some (.opq (.ref k.C))) (he : evs cfL 20 sc ρ [e] = some [.int a]) :
    wpAny (model prog w) A (eval (.Call (.Name (Str.ofString "key") p) [e] [] pos) env) (fun v s' => Keeps s s' ∧ ∃ x t, v = .ref x ∧ Inst s'.heap k.C x (.int a t)) E s := by
  have hsp := (ev_sound (prog := prog) (w := w) (m := 3) (Bn_x P) (cfL_g P) (cfL_f P) 20).2.1 sc ρ [e] [.int a] env A E s X pos he S N G (R.mono (by lia))
  refine wpAny_Call_Name_kw (opq_name (v := .ref k.C) S N hl hk (by kernel_rfl) (by kernel_rfl) ?_)
  refine callWith_of (P := fun h => KH P h k) (by rw [hsp.1]; rfl) (fun h HK => by
    refine bc fun nG => ?_
    obtain ⟨K, hK, F⟩ := HK.frag
    refine nG ?_
    exact keeps_K F.keep h hK) ?_
  refine evalArgs_any hsp.1 rfl (wpAny_mono hsp.2 (fun vs s₁ q => ?_) fun _ _ x => x)
  refine bc fun nG => ?_
  obtain ⟨k₁, hv⟩ := q
  have H₁ := H.ext (Keeps.ext k₁)
  unfold VL at hv
  obtain ⟨v, r, rfl, hvi, hr⟩ := hv
  unfold VL at hr
  subst hr
  obtain ⟨t, rfl⟩ := hvi
  refine nG ?_
  refine wpAny_evalAll_nil ⟨H₁, ?_⟩
  refine wpAny_mono (key_new P (m := m) (R.mono (by lia)) (G.ext (Keeps.ext k₁)) H₁) (fun r s₂ q => ?_) fun _ _ x => x
  refine bc fun nG => ?_
  obtain ⟨x, rfl, k₂, I⟩ := q
  refine nG ?_
  exact ⟨Keeps.trans' k₁ k₂, x, t, rfl, I⟩
noncomputable def toldD (rows : List (List UInt8)) (p : List Nat) (k : Nat) : Dt := .list (askI (cmK rows (p.getD k 0) (p.getD (prevK rows.length k) 0)))
noncomputable def eTo (rows : List (List UInt8)) (p : List Nat) : Str × Dt := (Str.ofString "told", .list ((List.range rows.length).map (toldD rows p)))
noncomputable def gTo (rows : List (List UInt8)) (p : List Nat) : Dt → Dt
  | .int i => toldD rows p i.toNat
  | d => d
noncomputable abbrev ρ14 (ns : List Int) (rows : List (List UInt8)) (I : Addr) (k : KP) (pf p : List Nat) : List (Str × Dt) := ρ13 ns rows I k pf ++ [eL p]
theorem S15 (P : Params) {rows : List (List UInt8)} {ns : List Int} {o11 o63 : Obj} {I : Addr} {k : KP} {fa c' cd cm : Addr} {lo oc : Obj} {pf p : List Nat} (h : RowsOk rows) (hp : p.Perm (List.range rows.length)) (L : LE P s₀ env A) (S : LS P s₀ s env [] (ρ14 ns rows I k pf p) o11 o63) (K : Key P prog w s env rows k fa c' cd cm lo oc) :
    wpAny (model prog w) A (exec (stL P 15) env) (fun f s' => f = .next ∧ LS P s₀ s' env [] (ρ14 ns rows I k pf p ++ [eTo rows p]) o11 o63) E s := by
  have n1 := h.n1
  have n2 := h.n2
  have n2' : rows.length ≤ 1000 := Nat.le_trans n2 (by decide)
  have hpl : p.length = rows.length := by rw [hp.length_eq, List.length_range]
  have hlt : ∀ i, i < rows.length → p.getD i 0 < rows.length := fun i hi => by
    rw [List.getD_eq_getElem?_getD, List.getElem?_eq_getElem (by lia)]
    have := hp.mem_iff.mp (List.getElem_mem (by lia : i < p.length))
    simpa using this
  have hk1 := loc_kind L.sc (x := Str.ofString "told") (by kernel_rfl)
  have hbk : env.blockKind = .function := by unfold Env.blockKind; rw [S.st.env.kind]; rfl
  have HP := hp_of L S K (by kernel_rfl) (by kernel_rfl)
  conv => arg 3; arg 1; whnf
  refine wpAny_mono (assign_comp2 (cf := cfL) (m := 3) (n := 20) (W := []) (J := fun _ _ _ => True) (it := .range rows.length) (items := (List.range rows.length).map fun (i : Nat) => Dt.int (i : Int)) (g := gTo rows p) (σ := (ρ14 ns rows I k pf p, [])) (Bn_x P) (cfL_g P) (cfL_f P) (by kernel_rfl) L.sc (L.sepZ []) S.st S.gd (L.rm.mono (by decide)) (by kernel_rfl) rfl (by simp; lia) (fun b hb => by cases hb) (fun b hb => by cases hb) ⟨fun a o e q => (by cases q), (fun q => by cases q), (fun q => by cases q), (fun q => by cases q)⟩ Eff.none ?_ (items_range n2') trivial ?_ ?_) (fun f s' q => ?_) fun _ _ x => x
  · kernel_rfl
  · rw [swaps_one, hk1, hbk]; kernel_rfl
  · intro i d hd cenv s' X' E' N' S' G' EW' hW' hc hJ hx
    rw [List.getElem?_map] at hd
    refine bc fun nG => ?_
    obtain ⟨j, hj, rfl⟩ := Option.map_eq_some_iff.mp hd
    refine nG ?_
    have hjn : j < rows.length := by have := List.mem_of_getElem? hj; simpa using this
    have hxE : Ext s.heap s'.heap := fun b o e => hx b o (by simp) e
    have KH1 := K.kh.ext hxE
    have HP1 := HP.ext hxE
    have hcell : s'.heap.IsCell k.c (some (.ref fa)) := let ⟨o, ho, r⟩ := K.cell; ⟨o, hxE _ _ ho, r⟩
    have hla : cenv.kindOf (Str.ofString "_law_asked") = some .globalImplicit := kind_glob S' (by kernel_rfl)
    have hprev : prevK rows.length j < rows.length := by unfold prevK; split <;> lia
    have gl : ∀ i, i < rows.length → (p.map Int.ofNat)[i]? = some ((p.getD i 0 : Nat) : Int) := fun i hi => by
      rw [List.getElem?_map, List.getD_eq_getElem?_getD, List.getElem?_eq_getElem (by lia)]; rfl
    have ll : ((p.map Int.ofNat).map Dt.int).length = rows.length := by rw [List.length_map, List.length_map, hpl]
    have i1 : itemD (.list ((p.map Int.ofNat).map Dt.int)) (.int (j : Int)) = some (.int ((p.getD j 0 : Nat) : Int)) := by
      rw [item_at (by lia) (by lia), List.getElem?_map, gl j hjn]; rfl
    have i2 : itemD (.list ((p.map Int.ofNat).map Dt.int)) (.int ((j : Int) - 1)) = some (.int ((p.getD (prevK rows.length j) 0 : Nat) : Int)) := by
      rw [item_prev (by lia) (by lia), ll, List.getElem?_map, gl _ hprev]; rfl
    refine wpAny_Call_Name_kw (glob_name (v := .ref 161) G' N' hla (by kernel_rfl) (by decide +kernel) ?_)
    refine callWith_of (P := fun h => (Kx P).In h) rfl (fun h hK => ((FnOk.of (names := [Str.ofString "one", Str.ofString "two"]) (by kernel_rfl) : FnOk (Kx P) 161 _ _ _).fnv h hK).keeps) ?_
    refine evalArgs_any rfl rfl (PySem.Calls.spliced_cons (wpAny_mono (key_call P (m := 1) (a := ((p.getD j 0 : Nat) : Int)) S' N' G' (L.rm.mono (by decide)) KH1 (by kernel_rfl) (by kernel_rfl) ?_) (fun v1 s1 q1 => ?_) fun _ _ x => x))
    · exact evs_by [.d (.int ((p.getD j 0 : Nat) : Int))] (fun z => ai i1 z) (by kernel_rfl)
    · refine bc fun nG => ?_
      obtain ⟨k1, x1, t1, rfl, I1⟩ := q1
      refine nG ?_
      refine PySem.Calls.spliced_cons (wpAny_mono (key_call P (m := 1) (a := ((p.getD (prevK rows.length j) 0 : Nat) : Int)) S' (N'.ext (Keeps.ext k1)) (G'.ext (Keeps.ext k1)) (L.rm.mono (by decide)) (KH1.ext (Keeps.ext k1)) (by kernel_rfl) (by kernel_rfl) ?_) (fun v2 s2 q2 => ?_) fun _ _ x => x)
      · exact evs_by [.d (.int ((p.getD (prevK rows.length j) 0 : Nat) : Int))] (fun z => ai i2 z) (by kernel_rfl)
      · refine bc fun nG => ?_
        obtain ⟨k2, x2, t2, rfl, I2⟩ := q2
        refine nG ?_
        have k12 := Keeps.trans' k1 k2
        refine PySem.Calls.spliced_nil (wpAny_evalAll_nil ⟨(G'.ext (Keeps.ext k12)).kin, ?_⟩)
        have hcell2 : s2.heap.IsCell k.c (some (.ref fa)) := let ⟨o, ho, r⟩ := hcell; ⟨o, Keeps.ext k12 _ _ ho, r⟩
        refine mono2 (asked_keys P (m := 1) (n := rows.length) (cm := cmK rows) (i := p.getD j 0) (j := p.getD (prevK rows.length j) 0) (X := X') K.cmp (L.rm.mono (by decide)) (G'.ext (Keeps.ext k12)) (N'.live.ext (Keeps.ext k12)) (KH1.ext (Keeps.ext k12)) (HP1.ext (Keeps.ext k12)) hcell2 (I1.ext (Keeps.ext k2)) I2 (hlt _ hjn) (hlt _ hprev)) fun r s3 k3 hV => ?_
        refine ⟨KeepsW.of (Keeps.trans' k12 k3), ?_, trivial⟩
        show V s3.heap X' (toldD rows p (j : Int).toNat) r
        rw [Int.toNat_natCast]
        exact hV
  · refine bc fun nG => ?_
    obtain ⟨rfl, kk, N, _⟩ := q
    refine nG ?_
    have hg : ((List.range rows.length).map fun (i : Nat) => Dt.int (i : Int)).map (gTo rows p) = (List.range rows.length).map (toldD rows p) := by
      rw [List.map_map]; rfl
    rw [hg] at N
    exact ⟨rfl, S.step L (Z' := []) L.fresh L.gw kk N⟩
end Mine
end
section
open PySem PySem.W PyProof.Rows PySem.Calls PySem.Spec
set_option maxRecDepth 100000
set_option maxHeartbeats 4000000
namespace Mine
variable {prog : Program} {w : World} {A : Around} {E : Value → Shared → Prop} {s : Shared} {env : Env}
noncomputable def sndD : Dt → Dt
  | .list [_, b] => b
  | d => d
theorem kun_plain {elts : List Expr} {l : Addr} {k : Nat} {pos : Pos} {items : Array Value} {Q : Unit → Shared → Prop} (hl : s.heap.IsList l items) (hh : A.handled = none) (hn : (assignEach elts env).length = items.size)
    (hstar : (assignEach elts env).findIdx? (·.1) = none) (h : ∀ h', Heap.ExtBut s.heap.objs.size s.heap h' → wpAny (model prog w) A (assignInOrder ((assignEach elts env).map (·.2)) items.toList) Q E { s with heap := h' }) :
    wpAny (model prog w) A (assign (.Tuple elts k pos) env (.ref l)) Q E s := by
  rw [assign_Tuple]
  refine wpAny_bind (wpAny_standAt ?_)
  unfold unpack
  rw [hn, hstar]
  exact wpAny_bind (wpAny_holding (kun_itemsOf hh hl h))
theorem TgOk.pair {csc : Scope} {x x₁ : Str} {px px₁ tp : Pos} {kk : Nat} {l : List Dt} {d1 d2 : Dt} (hx₁ : csc.names.lookup x₁ = some .local) (hx : csc.names.lookup x = some .local) (hk : csc.kind = .function) (hh : A.handled = none) :
    TgOk prog w A csc env x (.Tuple [.Name x₁ px₁, .Name x px] kk tp) (.list l) (.list [d1, d2]) d2 := by
  intro v s' C I m' X' E' Q' hv hn hC hI hQ
  unfold V at hv
  obtain ⟨a, vs, rfl, haX, hl, hvv⟩ := hv
  unfold VL at hvv
  obtain ⟨v1, r1, rfl, hv1, hr1⟩ := hvv
  unfold VL at hr1
  obtain ⟨v2, r2, rfl, hv2, hr2⟩ := hr1
  unfold VL at hr2
  subst hr2
  obtain ⟨lI, jI, hLi⟩ := hI ⟨_, rfl⟩
  refine wpAny_letOwnedTupleGo_listiter hLi (kun_plain (items := List.toArray [v1, v2]) hl hh rfl rfl fun h₅ he => ?_)
  show wpAny _ _ (assignInOrder [assign (.Name x₁ px₁) _, assign (.Name x px) _] [v1, v2]) _ _ _
  have he' : ∀ b o, s'.heap.get? b = some o → h₅.get? b = some o := fun b o e => he b o (Nat.ne_of_lt (Heap.lt_size e)) e
  refine assignInOrder_cons (wpAny_assign_Name (wpAny_storeName_local (lookup_relabel_local hx₁) (hn.at' fun o e => he' _ o e) (fun h₆ hn₆ hs₆ => ?_) (by simp [compEnvC, relabel, hk])))
  refine assignInOrder_cons (wpAny_assign_Name (wpAny_storeName_local (lookup_relabel_local hx) hn₆ (fun h₃ hn₃ hs₃ => ?_) (by simp [compEnvC, relabel, hk])))
  have old : ∀ b o, b ≠ C → s'.heap.get? b = some o → h₃.get? b = some o := fun b o hb e => hs₃.extBut b o hb (hs₆.extBut b o hb (he' b o e))
  exact assignInOrder_nil (hQ v2 _ _ _ (V.keep (fun b o hb e => old b o (fun q => hb (q ▸ hC)) e) _ _ hv2) hn₃ (by simp) old)
theorem comp_pair {K : Frag} {elt iter : Expr} {x x₁ : Str} {px px₁ tp : Pos} {kk : Nat} {csc : Scope} {pos : Pos} {sc : List (Str × NameKind)} {ρ : List (Str × Dt)} {X : List Addr} {it : Dt} {items out : List Dt} {g : Dt → Dt}
    (S : ScOk sc env) (N : EnvOk s.heap X env ρ) (G : Gd K s.heap) (hh : A.handled = none) (hok : compOk sc csc.names ρ x = true) (hk : csc.kind = .function) (hsz : items.length ≤ 1000)
    (hs : ∀ x, foldedSetIterable iter env x = pure x)
    (hiter : wpAny (model prog w) A (eval iter env) (fun v s₁ => Keeps s s₁ ∧ V s₁.heap X it v) E s) (hx₁ : csc.names.lookup x₁ = some .local) (hxx : x ≠ x₁) (hpr : ∀ d ∈ items, ∃ d1 d2, d = .list [d1, d2]) (hil : it = .list items) (hit : itemsD it = some items) (ho : compGo (fun d => some (some (g d))) items = some out)
    (hE : ∀ d ∈ items, ∀ (cenv : Env) (s' : Shared) (X' : List Addr) (E' : Value → Shared → Prop), EnvOk s'.heap X' cenv ((x, sndD d) :: ρ) → ScOk csc.names cenv → Gd K s'.heap →
      wpAny (model prog w) A (eval elt cenv) (fun r s₃ => Keeps s' s₃ ∧ V s₃.heap X' (g d) r) E' s') :
    wpAny (model prog w) A (eval (.ListComp elt [⟨.Tuple [.Name x₁ px₁, .Name x px] kk tp, iter, [], 0⟩] csc pos) env) (fun v s' => Keeps s s' ∧ V s'.heap X (.list out) v) E s := by
  subst hil
  exact wpAny_mono (lc_eval Eff.none (comp_core2 (dd := sndD) (W := []) (J := fun _ _ _ => True) (f := fun d => some (some (g d))) S N G hh hok hk hsz hs (fun b hb => nomatch hb) EnvW.nil GdW.nil Eff.none
    (fun d hd => by obtain ⟨d1, d2, rfl⟩ := hpr d hd; exact TgOk.pair hx₁ (compFacts hok).x hk hh)
    (wpAny_mono hiter (fun v s₁ q => ⟨KeepsW.of q.1, q.2, trivial⟩) fun _ _ x => x) hit ho (fun _ _ _ _ _ _ _ => trivial)
    (fun d hd y hy cenv s' X' E' _ _ _ => by cases hy; exact wpAny_tests_nil ⟨Keeps.refl' _, rfl⟩)
    (fun i d hd y hy cenv s' X' E' N' S' G' _ _ _ _ _ => by cases hy; exact wpAny_mono (hE d (List.mem_of_getElem? hd) cenv s' X' E' N' S' G') (fun r s₃ q => ⟨KeepsW.of q.1, q.2, trivial⟩) fun _ _ x => x)))
    (fun v s' q => ⟨q.1.nil, q.2.1⟩) fun _ _ x => x
end Mine
end
section
open PySem PySem.W PyProof.Rows
set_option maxRecDepth 100000
set_option maxHeartbeats 4000000
namespace Mine
variable {prog : Program} {w : World} {A : Around} {E : Value → Shared → Prop} {s s₀ : Shared} {env : Env}
noncomputable abbrev ρ15 (ns : List Int) (rows : List (List UInt8)) (I : Addr) (k : KP) (p : List Nat) : List (Str × Dt) := ρ14 ns rows I k p p ++ [eTo rows p]
theorem told_eq {rows : List (List UInt8)} (h : RowsOk rows) (i j : Nat) : gAsked [.bytes (fillR (rows.getD i [])), .bytes (fillR (rows.getD j []))] [] = some (.list (askI (cmK rows i j))) := by
  rw [told_same (h.le i) (h.le j)]
  rfl
theorem S16 (P : Params) {rows : List (List UInt8)} {ns : List Int} {o11 o63 : Obj} {I : Addr} {k : KP} {p : List Nat} (h : RowsOk rows) (hp : p.Perm (List.range rows.length)) (L : LE P s₀ env A) (S : LS P s₀ s env [] (ρ15 ns rows I k p) o11 o63) :
    wpAny (model prog w) A (exec (stL P 16) env) (fun f s' => f = .ret (.bool true) ∧ Keeps s s') E s := by
  have n1 := h.n1
  have n2 := h.n2
  have n2' : rows.length ≤ 1000 := Nat.le_trans n2 (by decide)
  have hpl : p.length = rows.length := by rw [hp.length_eq, List.length_range]
  have hlt : ∀ i, i < rows.length → p.getD i 0 < rows.length := fun i hi => by
    rw [List.getD_eq_getElem?_getD, List.getElem?_eq_getElem (by lia)]
    have := hp.mem_iff.mp (List.getElem_mem (by lia : i < p.length))
    simpa using this
  conv => arg 3; arg 1; whnf
  refine wpAny_Return_some (PySem.wpAny_And2 (wpAny_Compare1 (wpAny_mono ((ev_sound (m := 3) (Bn_x P) (cfL_g P) (cfL_f P) 20).1 scL (ρ15 ns rows I k p) _ (intsD' (p.map Int.ofNat)) env A E s _ ?_ L.sc S.st.env S.gd (L.rm.mono (by decide))) (fun v s₁ q => ?_) fun _ _ x => x) rfl))
  · kernel_rfl
  obtain ⟨k₁, hv⟩ := q
  have N₁ := S.st.env.ext (Keeps.ext k₁)
  have G₁ := S.gd.ext (Keeps.ext k₁)
  refine wpAny_mono (comp_pair (K := Kx P) (sc := scL) (ρ := ρ15 ns rows I k p) (it := .list (p.map (fD rows))) (items := p.map (fD rows)) (g := sndD) L.sc N₁ G₁ L.rm.1 (by kernel_rfl) rfl (by rw [List.length_map]; lia) (fun _ => rfl) (wpAny_mono ((ev_sound (m := 3) (Bn_x P) (cfL_g P) (cfL_f P) 20).1 scL (ρ15 ns rows I k p) _ (.list (p.map (fD rows))) env A E s₁ _ ?_ L.sc N₁ G₁ (L.rm.mono (by decide))) (fun v s₁ q => q) fun _ _ x => x) (by kernel_rfl) (by simp [ofString_inj]) ?_ rfl rfl compGo_all ?_) (fun u s₂ q => ?_) fun _ _ x => x
  · kernel_rfl
  · intro d hd
    obtain ⟨i, _, rfl⟩ := List.mem_map.mp hd
    exact ⟨_, _, rfl⟩
  · intro d hd cenv s' X' E' N' S' G'
    refine (ev_sound (m := 3) (Bn_x P) (cfL_g P) (cfL_f P) 20).1 _ _ _ (sndD d) cenv A E' s' _ ?_ S' N' G' (L.rm.mono (by decide))
    kernel_rfl
  obtain ⟨k₂, hu⟩ := q
  have hg : (p.map (fD rows)).map sndD = (p.map Int.ofNat).map Dt.int := by rw [List.map_map, List.map_map]; rfl
  rw [hg] at hu
  refine cmpD_sound (k := true) (eq_self ?_ ?_) (hv.ext (Keeps.ext k₂)) hu L.rm.units (wpAny_truthy_bool ?_)
  · intro d hd
    obtain ⟨i, _, rfl⟩ := List.mem_map.mp hd
    exact eqD_int _
  · refine Nat.le_trans (depL_le (k := 0) fun d hd => ?_) (by lia)
    obtain ⟨i, _, rfl⟩ := List.mem_map.mp hd
    rw [dep_int]; exact Nat.le_refl _
  rw [if_pos rfl]
  have k12 := Keeps.trans' k₁ k₂
  refine wpAny_mono ((ev_sound (m := 3) (Bn_x P) (cfL_g P) (cfL_f P) 20).1 scL (ρ15 ns rows I k p) _ (.bool true) env A E s₂ _ ?_ L.sc (S.st.env.ext (Keeps.ext k12)) (S.gd.ext (Keeps.ext k12)) (L.rm.mono (by decide))) (fun v s₃ q => ?_) fun _ _ x => x
  · have hlk : (p.map (fD rows)).length = rows.length := by rw [List.length_map, hpl]
    have hf : ∀ i, i < rows.length → (p.map (fD rows))[i]? = some (fD rows (p.getD i 0)) := fun i hi => by
      rw [List.getElem?_map, List.getD_eq_getElem?_getD, List.getElem?_eq_getElem (by lia)]; rfl
    have hprev : ∀ j, j < rows.length → prevK rows.length j < rows.length := fun j hj => by unfold prevK; split <;> lia
    have i1 : ∀ j, j < rows.length → itemD (.list (p.map (fD rows))) (.int (j : Int)) = some (fD rows (p.getD j 0)) := fun j hj => by
      rw [item_at (by lia) (by lia), hf j hj]
    have i2 : ∀ j, j < rows.length → itemD (.list (p.map (fD rows))) (.int ((j : Int) - 1)) = some (fD rows (p.getD (prevK rows.length j) 0)) := fun j hj => by
      rw [item_prev (by lia) (by lia), hlk, hf _ (hprev j hj)]
    have i0 : ∀ i, itemD (fD rows i) (.int 0) = some (.bytes (fillR (rows.getD i []))) := fun i => rfl
    have heq : cmpD .Eq (.list ((List.range rows.length).map (toldD rows p))) (.list ((List.range rows.length).map (toldD rows p))) = some true := by
      refine eq_self ?_ ?_
      · intro d hd
        obtain ⟨i, _, rfl⟩ := List.mem_map.mp hd
        refine eqD_self fun d hd => ?_
        simp only [askI, List.mem_cons, List.not_mem_nil, or_false] at hd
        rcases hd with rfl | rfl | rfl | rfl | rfl | rfl <;> exact eqD_bool _
      · refine Nat.le_trans (depL_le (k := 1) fun d hd => ?_) (by lia)
        obtain ⟨i, _, rfl⟩ := List.mem_map.mp hd
        unfold toldD
        rw [dep]
        refine Nat.succ_le_succ (depL_le (k := 0) fun d hd => ?_)
        simp only [askI, List.mem_cons, List.not_mem_nil, or_false] at hd
        rcases hd with rfl | rfl | rfl | rfl | rfl | rfl <;> (rw [dep_bool]; exact Nat.le_refl _)
    exact evk_by 18 [1] [.l ((List.range rows.length).map fun (i : Nat) => .int (i : Int)), .l ((List.range rows.length).map (toldD rows p)), .b true] (go_map (mk := fun (i : Nat) => Dt.int (i : Int)) (toldD rows p) (l := List.range rows.length) (fun j hj => by
      have hj := List.mem_range.mp hj
      exact cF_by [.d (fD rows (p.getD j 0)), .d (.bytes (fillR (rows.getD (p.getD j 0) []))), .d (fD rows (p.getD (prevK rows.length j) 0)), .d (.bytes (fillR (rows.getD (p.getD (prevK rows.length j) 0) []))), .d (toldD rows p j)]
        (fun z => ai (i1 j hj) (ai (i0 (p.getD j 0)) (ai (i2 j hj) (ai (i0 (p.getD (prevK rows.length j) 0)) (ai (told_eq h (p.getD j 0) (p.getD (prevK rows.length j) 0)) z))))) (by kernel_rfl)))
      (fun hgo z => ai (rng rows.length n2') (ai (places_len h fun (i : Nat) => .int (i : Int)) (ai hgo (ai heq z)))) (by kernel_rfl)
  · obtain ⟨k₃, hv₃⟩ := q
    subst hv₃
    exact ⟨rfl, Keeps.trans' k12 k₃⟩
end Mine
end
section
open PySem PySem.W PyProof.Rows
set_option maxRecDepth 100000
set_option maxHeartbeats 4000000
namespace Mine
variable {prog : Program} {w : World} {A : Around} {E : Value → Shared → Prop} {s s₀ : Shared} {env : Env}
theorem law_body (P : Params) {ns : List Int} (hns : ns.length ≤ 63) (L : LE P s₀ env A) (S : LS P s₀ s env [] [eS ns] (tabObj #[]) (tabObj #[])) :
    wpAny (model prog w) A (execs (bodyAt (Kx P) 166) env) (fun f s' => ∃ v, f = .ret v ∧ v = .bool true ∧ KeepsW [111, 163] s₀ s' ∧ ∃ ps ps', s'.heap.get? 111 = some (tabObj ps) ∧ s'.heap.get? 163 = some (tabObj ps')) E s := by
  have h := rows_ok ns
  rw [bodyL]
  generalize hrows : rowsOf ns = rows at h
  refine wpAny_execs_cons (mono3 (pure_stmt L S (st0_ev P ns hns)) fun f s1 qq0 S1' _ => ?_)
  obtain rfl := qq0
  rw [hrows] at S1'
  refine wpAny_execs_cons (mono3 (S1 P h L S1') fun f s2 qq0 S2' _ => ?_)
  obtain rfl := qq0
  refine wpAny_execs_cons (mono3 (pure_stmt L S2' (st2_ev P h ns)) fun f s3 qq0 S3' _ => ?_)
  obtain rfl := qq0
  refine wpAny_execs_cons (mono3 (pure_stmt L S3' (st3_ev P h ns)) fun f s4 qq0 S4' _ => ?_)
  obtain rfl := qq0
  refine wpAny_execs_cons (mono3 (pure_stmt L S4' (st4_ev P h ns)) fun f s5 qq0 S5' _ => ?_)
  obtain rfl := qq0
  refine wpAny_execs_cons (mono3 (pure_stmt L S5' (st5_ev P h ns)) fun f s6 qq0 S6' _ => ?_)
  obtain rfl := qq0
  refine wpAny_execs_cons (wpAny_mono (S6 P h L S6') (fun f s7 q => ?_) fun _ _ x => x)
  obtain ⟨rfl, o63, T6, S7'⟩ := q
  refine wpAny_execs_cons (wpAny_mono (S7 P h L S7') (fun f s8 q => ?_) fun _ _ x => x)
  obtain ⟨rfl, I, Ls, S8', R8⟩ := q
  refine wpAny_execs_cons (mono3 (S8 P h L S8' R8) fun f s9 qq0 S9' R9 => ?_)
  obtain rfl := qq0
  refine wpAny_execs_cons (mono2 (S9 P h L S9' R9) fun f s10 qq0 S10' => ?_)
  obtain rfl := qq0
  refine wpAny_execs_cons (mono3 (pure_stmt L S10' (st10_ev P h ns)) fun f s11 qq0 S11' _ => ?_)
  obtain rfl := qq0
  refine wpAny_execs_cons (mono3 (pure_stmt L S11' (st11_ev P h ns)) fun f s12 qq0 S12' _ => ?_)
  obtain rfl := qq0
  refine wpAny_execs_cons (wpAny_mono (S12 P h L S12' T6) (fun f s13 q => ?_) fun _ _ x => x)
  obtain ⟨rfl, k, fa, c', cd, cm, lo, oc, ps, ps', S13', K13⟩ := q
  refine wpAny_execs_cons (wpAny_mono (S13 P h L S13' K13) (fun f s14 q => ?_) fun _ _ x => x)
  obtain ⟨rfl, p1, hs1, S14', K14⟩ := q
  refine wpAny_execs_cons (wpAny_mono (S14 P h L S14' K14) (fun f s15 q => ?_) fun _ _ x => x)
  obtain ⟨rfl, p2, hs2, S15', K15⟩ := q
  have hpp : p1.toList = p2.toList := srt_uniq (swo1 h) (fun i j _ _ q => rr_same h i j q) hs1 hs2
  rw [hpp] at S15'
  refine wpAny_execs_cons (mono2 (S15 P h hs2.perm L S15' K15) fun f s16 qq0 S16' => ?_)
  obtain rfl := qq0
  refine wpAny_execs_cons (mono2 (S16 P h hs2.perm L S16') fun f s17 qq0 k17 => ?_)
  obtain rfl := qq0
  have kp := S16'.kp.trans (KeepsW.of (W := [111, 163]) k17)
  exact ⟨_, rfl, rfl, kp, ps, ps', Keeps.ext k17 _ _ S16'.t11, Keeps.ext k17 _ _ S16'.t63⟩
end Mine
end
section
open PySem PySem.W PyProof.Rows
set_option maxRecDepth 100000
set_option maxHeartbeats 4000000
namespace Mine
variable {prog : Program} {w : World} {A : Around} {E : Value → Shared → Prop} {s : Shared} {env : Env}
theorem cellsFrom_cell : ∀ (names : List (Str × NameKind)) (n : Nat) (acc : List (Str × Addr)) (p : Str × Addr), p ∈ cellsFrom n names acc → p ∈ acc ∨ (p.1, NameKind.cell) ∈ names
  | [], n, acc, p, h => .inl (by simpa [cellsFrom] using h)
  | (x, k) :: r, n, acc, p, h => by
    cases k with
    | cell =>
      rcases cellsFrom_cell r (n + 1) ((x, n) :: acc) p (by simpa [cellsFrom] using h) with q | q
      · rcases List.mem_cons.mp q with q | q
        · right; rw [q]; exact .head _
        · exact .inl q
      · exact .inr (.tail _ q)
    | _ =>
      rcases cellsFrom_cell r n acc p (by simpa [cellsFrom] using h) with q | q
      · exact .inl q
      · exact .inr (.tail _ q)
theorem bind166 (P : Params) {s : Shared} {v : Value} (X : (Kx P).In s.heap) : BindsTo s (fdAt (Kx P) 166) ⟨[v], []⟩ ([Str.ofString "script"].zip [v]) := by
  have e : ∀ S, peek (Kx P) S (bindArgs (fdAt (Kx P) 166) ⟨[v], []⟩) = some ([Str.ofString "script"].zip [v]) := by
    intro S
    kernel_rfl
  generalize fdAt (Kx P) 166 = fd at e ⊢
  exact kp_binds X e
theorem law_call (P : Params) {ns : List Int} {l : Addr} {vs : List Value} (hns : ns.length ≤ 63) (R : Rm A 21) (G : Gd (Kx P) s.heap) (h1 : s.heap.get? 111 = some (tabObj #[])) (h2 : s.heap.get? 163 = some (tabObj #[])) (hL : s.heap.IsList l vs.toArray) (hI : IntsAre vs ns) :
    wpAny (model prog w) A (call (.ref 166) [.ref l] []) (fun v s' => v = .bool true ∧ KeepsW [111, 163] s s' ∧ ∃ ps ps', s'.heap.get? 111 = some (tabObj ps) ∧ s'.heap.get? 163 = some (tabObj ps')) E s := by
  have FO : FnOk (Kx P) 166 (fdAt (Kx P) 166) (bodyAt (Kx P) 166) [Str.ofString "script"] := FnOk.of (by kernel_rfl)
  have hlX : l ∉ [111, 163] := fun q => by
    obtain ⟨o, ho, hc, _⟩ := hL
    simp only [List.mem_cons, List.not_mem_nil, or_false] at q
    rcases q with rfl | rfl
    · rw [h1] at ho; cases ho; cases hc
    · rw [h2] at ho; cases ho; cases hc
  have hV1 : V s.heap [111, 163] (intsD' ns) (.ref l) := by
    unfold intsD' V
    exact ⟨l, vs, rfl, hlX, hL, VL.of_ints hI⟩
  have hv1 : VL s.heap [111, 163] [intsD' ns] [.ref l] := by
    unfold VL
    refine ⟨_, _, rfl, hV1, ?_⟩
    unfold VL
    rfl
  have hb : BindsTo s (fdAt (Kx P) 166) ⟨[.ref l], []⟩ ([Str.ofString "script"].zip [.ref l]) := @bind166 P s _ G.kin
  have hlive : Live s.heap [111, 163] := fun a ha => by
    simp only [List.mem_cons, List.not_mem_nil, or_false] at ha
    rcases ha with rfl | rfl
    · exact ⟨_, h1⟩
    · exact ⟨_, h2⟩
  have e1 := scL_eq P
  have e2 := codeL P
  generalize fdAt (Kx P) 166 = fd at FO hb e1 e2
  generalize hbd : bodyAt (Kx P) 166 = bd at FO
  refine fn_enter (m := 20) (ds := [intsD' ns]) (vals := [.ref l]) (X := [111, 163]) FO R G hlive hv1 hb ?_
  intro env E s' F
  have hsc : ScOk scL env := by rw [← e1]; exact F.sc
  have hL' : LE P s env (A.deeper env) := {
    sc := hsc
    sep := F.sep
    gw := F.gw
    code := F.code.trans e2
    rm := F.rm
    fresh := F.fresh
    t11 := ⟨_, h1⟩
    t63 := ⟨_, h2⟩
    gd0 := G
    cel := fun p hp => by
      obtain ⟨n, hc⟩ := F.cel
      rw [e1] at hc
      have hnd : (scL.map (·.1)).Nodup := by rw [← e1]; exact FO.uniq
      refine ⟨lookup_of_mem (by rw [hc]; exact cellsFrom_nodup scL _ [] hnd (by simp) (by simp)) hp, ?_⟩
      rw [hc] at hp
      rcases cellsFrom_cell _ _ _ _ hp with q | q
      · cases q
      · exact cell_kind hsc (lookup_of_mem (p := (p.1, NameKind.cell)) hnd q) }
  have hS : LS P s s' env [] [eS ns] (tabObj #[]) (tabObj #[]) := ⟨KeepsW.of F.keeps, F.st, F.gd, Keeps.ext F.keeps _ _ h1, Keeps.ext F.keeps _ _ h2⟩
  rw [← hbd]
  exact law_body P hns hL' hS
theorem rm_caller : Rm callerA 21 := ⟨rfl, by decide, by decide⟩
end Mine
end
section
open PySem PySem.W PyProof.Rows
set_option maxRecDepth 100000
set_option maxHeartbeats 4000000
namespace Mine
theorem old_tab {h h' : Heap} (C1 : CodeHd h 115 111) (C2 : CodeHd h 165 163) (h1 : h.get? 111 = some (tabObj #[])) (h2 : h.get? 163 = some (tabObj #[])) (hk : ∀ b o, b ∉ [111, 163] → h.get? b = some o → h'.get? b = some o) {ps ps' : Array Value} (e1 : h'.get? 111 = some (tabObj ps)) (e2 : h'.get? 163 = some (tabObj ps')) : OldK h h' := by
  have t1 : isCodeTable h 111 := by obtain ⟨o, vs, _, _, _, _, _, _, _, a, b, c, d, _⟩ := C1; exact ⟨115, o, vs, a, b, c, d⟩
  have t2 : isCodeTable h 163 := by obtain ⟨o, vs, _, _, _, _, _, _, _, a, b, c, d, _⟩ := C2; exact ⟨165, o, vs, a, b, c, d⟩
  refine ⟨fun b o e => ?_, fun b o e => ?_⟩
  · by_cases hb : b ∈ [111, 163]
    · simp only [List.mem_cons, List.not_mem_nil, or_false] at hb
      rcases hb with rfl | rfl
      · rw [h1] at e; cases e
        exact .inr (.inl ⟨t1, rfl, #[], ps, rfl, by rw [e1]; simp⟩)
      · rw [h2] at e; cases e
        exact .inr (.inl ⟨t2, rfl, #[], ps', rfl, by rw [e2]; simp⟩)
    · exact .inl (hk b o hb e)
  · by_cases hb : b ∈ [111, 163]
    · simp only [List.mem_cons, List.not_mem_nil, or_false] at hb
      rcases hb with rfl | rfl
      · exact ⟨_, e1⟩
      · exact ⟨_, e2⟩
    · exact ⟨o, hk b o hb e⟩
theorem good_law {w : World} {s₀ s₁ : Shared} {l : Addr} {vs : List Value} {ns : List Int} (P : Params) (KX : (K0 P).In s₁.heap) (hgm : ∃ mg, s₁.heap.Ns mainGlobals mg) (hb : ∃ mb, s₁.heap.Ns builtinsNs mb ∧ ∀ x : Str, x ≠ "__name__" → mb x = bootBuiltins x) (hlim : s₁.heap.NoLimit) (hg : s₁.gens = #[])
    (hL : s₁.heap.IsList l vs.toArray) (hI : IntsAre vs ns) (hns : ns.length ≤ 63) {E : Value → Shared → Prop} (args : List WData) (hpost : Challenge.rw_op0035_01.row.claim.post args (.bool true) args = true) (hnr : ∀ cls, Challenge.rw_op0035_01.row.claim.raises args cls = false) :
    wpAny (model Challenge.rw_op0035_01.row.prog w) callerA (call (.ref 166) [.ref l] []) (fun v s' => GoodWG Challenge.rw_op0035_01.row.claim (classAt s₀.heap) (ExcName.means s₀.heap) args s₁ (.ok (.ret v)) s') E s₁ := by
  have KI := Kx_in KX
  have h1 : s₁.heap.get? 111 = some (tabObj #[]) := KX 111 _ (by kernel_rfl)
  have h2 : s₁.heap.get? 163 = some (tabObj #[]) := KX 163 _ (by kernel_rfl)
  refine wpAny_mono (law_call P hns rm_caller ⟨KI, hgm, hb, hlim⟩ h1 h2 hL hI) (fun v s' q => ?_) fun _ _ x => x
  obtain ⟨rfl, k, ps, ps', e1, e2⟩ := q
  obtain ⟨h', tk, rfl, hk, _⟩ := k
  refine ⟨.inl ⟨_, _, [], rfl, hnr, ReadsW.bool true, hpost, fun _ => ⟨List.nodup_nil, fun a ha => by cases ha⟩⟩, old_tab (CodeHd.ofB KI (cmp_code P)) (CodeHd.ofB KI (law_code P)) h1 h2 hk e1 e2, rfl, ?_⟩
  show AllBare s₁.gens
  exact AllBare.of_eq hg
theorem X : PySem.Challenge.rw_op0035_01.Holds := by
  refine hd ?_
  intro w s₀ s₁ mg mb G Y fa o pm cd doc dV kV ho hfd hcd hD hmg hg args vals as hpre hlay hrd hwl hlo
  have KX : (K0 w.params).In s₁.heap := Y
  refine Ground.open G ?_
  intro T B D TE TW
  clear hfd hcd hD G Y
  wrow_args hpre hlay hrd hwl hlo
  rename_i ns _ _ _ _ _ _ _ l vs _ hL _ _ _ hI _ hc _
  have hfa : fa = 166 := by
    have e := mg_of (Kx_in KX) T.g (n := Str.ofString "law") (v := .ref 166) (by kernel_rfl)
    rw [show mg (Str.ofString "law") = some (.ref fa) from hmg] at e
    cases e
    rfl
  subst hfa
  refine good_law w.params KX ⟨_, T.g⟩ ⟨_, T.b, T.builtins⟩ T.nolimit hg hL hI (by lia) _ ?_ ?_
  · exact postW_of (by wrow_shape) (by wtm_val) (by w_fin)
  · intro cls; rfl
end Mine
end
open PySem PySem.W PyProof.Rows

theorem PySem.Challenge.cw_op0035_01_holds : PySem.Challenge.rw_op0035_01.Holds := by
  exact Mine.X
