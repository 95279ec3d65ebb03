import PyProof.Rows.All
import Wide.All
import OpenK.AllK
import Wide.FinOn
import PySem.Challenge.RW_rl0036_01
set_option Elab.async false
set_option maxRecDepth 100000
set_option linter.unusedVariables false
namespace Mine
/-- the edit distance: 2 for a sign more or less, sub x y for x in the place of y -/
def D (sub : Nat → Nat → Int) : List Nat → List Nat → Int
  | [], b => 2 * (b.length : Int)
  | _ :: a, [] => 2 * ((a.length : Int) + 1)
  | x :: a, y :: b => min (min (D sub a (y :: b) + 2) (D sub (x :: a) b + 2)) (D sub a b + sub x y)
termination_by a b => a.length + b.length

/-- what a price of signs must be -/
structure Price (sub : Nat → Nat → Int) : Prop where
  self : ∀ x, sub x x = 0
  pos : ∀ x y, 0 ≤ sub x y
  le : ∀ x y, sub x y ≤ 2
  symm : ∀ x y, sub x y = sub y x

inductive Al (sub : Nat → Nat → Int) : List Nat → List Nat → Int → Prop
  | nil : Al sub [] [] 0
  | del (x : Nat) {a b : List Nat} {c : Int} : Al sub a b c → Al sub (x :: a) b (c + 2)
  | ins (y : Nat) {a b : List Nat} {c : Int} : Al sub a b c → Al sub a (y :: b) (c + 2)
  | sub (x y : Nat) {a b : List Nat} {c : Int} : Al sub a b c → Al sub (x :: a) (y :: b) (c + sub x y)

section
variable {sub : Nat → Nat → Int}

theorem D_nil (b : List Nat) : D sub [] b = 2 * (b.length : Int) := by unfold D; rfl
theorem D_nil' (a : List Nat) : D sub a [] = 2 * (a.length : Int) := by
  cases a with
  | nil => unfold D; rfl
  | cons x a => unfold D; simp
theorem D_cons (x y : Nat) (a b : List Nat) : D sub (x :: a) (y :: b) = min (min (D sub a (y :: b) + 2) (D sub (x :: a) b + 2)) (D sub a b + sub x y) := by rw [D]

theorem D_del (x : Nat) (a b : List Nat) : D sub (x :: a) b ≤ D sub a b + 2 := by
  cases b with
  | nil => rw [D_nil', D_nil']; simp; omega
  | cons y b => rw [D_cons]; omega
theorem D_ins (y : Nat) (a b : List Nat) : D sub a (y :: b) ≤ D sub a b + 2 := by
  cases a with
  | nil => rw [D_nil, D_nil]; simp; omega
  | cons x a => rw [D_cons]; omega

theorem D_le {a b : List Nat} {c : Int} (h : Al sub a b c) : D sub a b ≤ c := by
  induction h with
  | nil => rw [D_nil]; simp
  | del x _ ih => exact Int.le_trans (D_del ..) (by omega)
  | ins y _ ih => exact Int.le_trans (D_ins ..) (by omega)
  | sub x y _ ih => rw [D_cons]; omega

theorem Al.ofNil : ∀ b : List Nat, Al sub [] b (2 * (b.length : Int))
  | [] => .nil
  | y :: b => by
    have := Al.ins (sub := sub) y (Al.ofNil b)
    have e : 2 * (((y :: b).length : Nat) : Int) = 2 * (b.length : Int) + 2 := by simp; omega
    rw [e]; exact this
theorem Al.ofNil' : ∀ a : List Nat, Al sub a [] (2 * (a.length : Int))
  | [] => .nil
  | x :: a => by
    have := Al.del (sub := sub) x (Al.ofNil' a)
    have e : 2 * (((x :: a).length : Nat) : Int) = 2 * (a.length : Int) + 2 := by simp; omega
    rw [e]; exact this

theorem al_D (a b : List Nat) : Al sub a b (D sub a b) := by
  match a, b with
  | [], b => rw [D_nil]; exact Al.ofNil b
  | x :: a, [] => rw [D_nil']; exact Al.ofNil' _
  | x :: a, y :: b =>
    rw [D_cons]
    have h1 := al_D a (y :: b)
    have h2 := al_D (x :: a) b
    have h3 := al_D a b
    rcases (by omega : min (min (D sub a (y :: b) + 2) (D sub (x :: a) b + 2)) (D sub a b + sub x y) = D sub a (y :: b) + 2 ∨ min (min (D sub a (y :: b) + 2) (D sub (x :: a) b + 2)) (D sub a b + sub x y) = D sub (x :: a) b + 2 ∨
      min (min (D sub a (y :: b) + 2) (D sub (x :: a) b + 2)) (D sub a b + sub x y) = D sub a b + sub x y) with e | e | e
    · rw [e]; exact .del x h1
    · rw [e]; exact .ins y h2
    · rw [e]; exact .sub x y h3
termination_by a.length + b.length

theorem Al.append {a b a' b' : List Nat} {c c' : Int} (h : Al sub a b c) (h' : Al sub a' b' c') : Al sub (a ++ a') (b ++ b') (c + c') := by
  induction h with
  | nil => simpa using h'
  | del x _ ih => have := Al.del (sub := sub) x ih; rw [show ∀ u v : Int, u + 2 + v = u + v + 2 by omega]; exact this
  | ins y _ ih => have := Al.ins (sub := sub) y ih; rw [show ∀ u v : Int, u + 2 + v = u + v + 2 by omega]; exact this
  | sub x y _ ih => have := Al.sub (sub := sub) x y ih; rw [show ∀ u v z : Int, u + z + v = u + v + z by omega]; exact this

theorem Al.rev {a b : List Nat} {c : Int} (h : Al sub a b c) : Al sub a.reverse b.reverse c := by
  induction h with
  | nil => exact .nil
  | del x _ ih =>
    have := ih.append (Al.del (sub := sub) x .nil)
    simpa using this
  | ins y _ ih =>
    have := ih.append (Al.ins (sub := sub) y .nil)
    simpa using this
  | sub x y _ ih =>
    have := ih.append (Al.sub (sub := sub) x y .nil)
    simpa using this

theorem D_rev (a b : List Nat) : D sub a.reverse b.reverse = D sub a b := by
  have h1 := D_le (al_D (sub := sub) a b).rev
  have h2 := D_le (al_D (sub := sub) a.reverse b.reverse).rev
  rw [List.reverse_reverse, List.reverse_reverse] at h2
  omega

theorem Al.symm (P : Price sub) {a b : List Nat} {c : Int} (h : Al sub a b c) : Al sub b a c := by
  induction h with
  | nil => exact .nil
  | del x _ ih => exact .ins x ih
  | ins y _ ih => exact .del y ih
  | sub x y _ ih => rw [P.symm x y]; exact .sub y x ih
theorem D_symm (P : Price sub) (a b : List Nat) : D sub a b = D sub b a := by
  have h1 := D_le ((al_D (sub := sub) a b).symm P)
  have h2 := D_le ((al_D (sub := sub) b a).symm P)
  omega

theorem D_snoc (a b : List Nat) (x y : Nat) : D sub (a ++ [x]) (b ++ [y]) = min (min (D sub a (b ++ [y]) + 2) (D sub (a ++ [x]) b + 2)) (D sub a b + sub x y) := by
  rw [← D_rev (a ++ [x]) (b ++ [y]), ← D_rev a (b ++ [y]), ← D_rev (a ++ [x]) b, ← D_rev a b]
  simp only [List.reverse_append, List.reverse_cons, List.reverse_nil, List.nil_append, List.cons_append]
  rw [D_cons]

theorem D_nonneg (P : Price sub) (a b : List Nat) : 0 ≤ D sub a b := by
  have h := al_D (sub := sub) a b
  generalize D sub a b = c at h
  induction h with
  | nil => omega
  | del x _ ih => omega
  | ins y _ ih => omega
  | sub x y _ ih => have := P.pos x y; omega

theorem D_self (P : Price sub) (a : List Nat) : D sub a a = 0 := by
  have h := D_nonneg P a a
  have h2 : ∀ a : List Nat, D sub a a ≤ 0 := by
    intro a
    induction a with
    | nil => rw [D_nil]; simp
    | cons x a ih => rw [D_cons, P.self]; omega
  have := h2 a
  omega

theorem Al.drop1 (P : Price sub) {a b : List Nat} {c : Int} (h : Al sub a b c) : ∀ x a', a = x :: a' → ∃ c', Al sub a' b c' ∧ c' ≤ c + 2 := by
  induction h with
  | nil => intro x a' e; cases e
  | @del x a b c h ih =>
    intro x' a' e
    cases e
    exact ⟨c, h, by omega⟩
  | @ins y a b c h ih =>
    intro x' a' e
    obtain ⟨c', h1, h2⟩ := ih x' a' e
    exact ⟨c' + 2, .ins y h1, by omega⟩
  | @sub x y a b c h ih =>
    intro x' a' e
    cases e
    have := P.pos x y
    exact ⟨c + 2, .ins y h, by omega⟩
theorem D_lip (P : Price sub) (x : Nat) (a b : List Nat) : D sub a b ≤ D sub (x :: a) b + 2 := by
  obtain ⟨c', h1, h2⟩ := (al_D (sub := sub) (x :: a) b).drop1 P x a rfl
  have := D_le h1
  omega
theorem D_lip' (P : Price sub) (x : Nat) (a b : List Nat) : D sub a b ≤ D sub a (x :: b) + 2 := by
  rw [D_symm P a b, D_symm P a (x :: b)]; exact D_lip P x b a

theorem D_head (P : Price sub) (x : Nat) (a b : List Nat) : D sub (x :: a) (x :: b) = D sub a b := by
  rw [D_cons, P.self]
  have h1 := D_lip P x a b
  have h2 := D_lip' P x a b
  omega
theorem D_prefix (P : Price sub) (p a b : List Nat) : D sub (p ++ a) (p ++ b) = D sub a b := by
  induction p with
  | nil => rfl
  | cons x p ih => rw [List.cons_append, List.cons_append, D_head P, ih]
theorem D_suffix (P : Price sub) (p a b : List Nat) : D sub (a ++ p) (b ++ p) = D sub a b := by
  rw [← D_rev, ← D_rev a b, List.reverse_append, List.reverse_append, D_prefix P]

theorem D_upper (P : Price sub) : ∀ (a b : List Nat), D sub a b ≤ 2 * max (a.length : Int) (b.length : Int)
  | [], b => by rw [D_nil]; simp
  | x :: a, [] => by rw [D_nil']; simp only [List.length_cons, List.length_nil]; omega
  | x :: a, y :: b => by
    have ih := D_upper P a b
    have := P.le x y
    rw [D_cons]
    simp only [List.length_cons]
    omega
theorem D_lower (P : Price sub) (a b : List Nat) : 2 * ((b.length : Int) - a.length) ≤ D sub a b := by
  have h := al_D (sub := sub) a b
  generalize D sub a b = c at h
  induction h with
  | nil => simp
  | del x _ ih => simp only [List.length_cons]; omega
  | ins y _ ih => simp only [List.length_cons]; omega
  | sub x y _ ih => have := P.pos x y; simp only [List.length_cons]; omega
theorem D_apart {a b : List Nat} (h : ∀ x ∈ a, ∀ y ∈ b, sub x y = 2) : 2 * (b.length : Int) ≤ D sub a b := by
  have hA := al_D (sub := sub) a b
  generalize D sub a b = c at hA
  induction hA with
  | nil => simp
  | del x _ ih => have := ih fun u hu v hv => h u (List.mem_cons_of_mem _ hu) v hv; omega
  | ins y _ ih => have := ih fun u hu v hv => h u hu v (List.mem_cons_of_mem _ hv); simp only [List.length_cons]; omega
  | sub x y _ ih =>
    have := ih fun u hu v hv => h u (List.mem_cons_of_mem _ hu) v (List.mem_cons_of_mem _ hv)
    have := h x List.mem_cons_self y List.mem_cons_self
    simp only [List.length_cons]; omega

/-- the table by prefixes -/
def Pt (sub : Nat → Nat → Int) (b a : List Nat) (i j : Nat) : Int := D sub (b.take i) (a.take j)

theorem Pt_zero (b a : List Nat) (i : Nat) (hi : i ≤ b.length) : Pt sub b a i 0 = 2 * (i : Int) := by
  unfold Pt; rw [List.take_zero, D_nil', List.length_take]; congr 1; omega
theorem Pt_zero' (b a : List Nat) (j : Nat) (hj : j ≤ a.length) : Pt sub b a 0 j = 2 * (j : Int) := by
  unfold Pt; rw [List.take_zero, D_nil, List.length_take]; congr 1; omega
theorem Pt_step {b a : List Nat} {i j x y : Nat} (hx : b[i]? = some x) (hy : a[j]? = some y) :
    Pt sub b a (i + 1) (j + 1) = min (min (Pt sub b a i (j + 1) + 2) (Pt sub b a (i + 1) j + 2)) (Pt sub b a i j + sub x y) := by
  unfold Pt
  have e1 : b.take (i + 1) = b.take i ++ [x] := by rw [List.take_add_one, hx]; rfl
  have e2 : a.take (j + 1) = a.take j ++ [y] := by rw [List.take_add_one, hy]; rfl
  rw [e1, e2, D_snoc]
theorem Pt_full (b a : List Nat) : Pt sub b a b.length a.length = D sub b a := by unfold Pt; rw [List.take_length, List.take_length]

/-- a row above the bound: all behind it is -/
theorem Pt_above (P : Price sub) {b a : List Nat} {m : Int} {i : Nat} (hi0 : 0 < i) (hi : i ≤ b.length) (ha : 0 < a.length) (h : ∀ j, 0 < j → j ≤ a.length → m < Pt sub b a i j) : m < D sub b a := by
  have h0 : m < Pt sub b a i 0 := by
    obtain ⟨i', rfl⟩ : ∃ i', i = i' + 1 := ⟨i - 1, by omega⟩
    have hx : b[i']? = some b[i'] := by simp [show i' < b.length by omega]
    have hy : a[0]? = some a[0] := by simp [ha]
    have h1 := h 1 (by omega) (by omega)
    rw [Pt_step hx hy] at h1
    have := P.le b[i'] a[0]
    rw [Pt_zero _ _ _ hi]
    rw [Pt_zero _ _ i' (by omega)] at h1
    omega
  have key : ∀ k, i + k ≤ b.length → ∀ j, j ≤ a.length → m < Pt sub b a (i + k) j := by
    intro k
    induction k with
    | zero =>
      intro _ j hj
      by_cases hj0 : j = 0
      · subst hj0; exact h0
      · exact h j (by omega) hj
    | succ k ih =>
      intro hk j hj
      have ih' := ih (by omega)
      induction j with
      | zero =>
        have h2 := ih' 0 (by omega)
        rw [Pt_zero _ _ _ (by omega)] at h2
        rw [Pt_zero _ _ _ hk]
        omega
      | succ j jh =>
        have hx : b[i + k]? = some b[i + k] := by simp [show i + k < b.length by omega]
        have hy : a[j]? = some a[j] := by simp [show j < a.length by omega]
        have h3 := Pt_step (sub := sub) hx hy
        have h4 := jh (by omega)
        have h5 := ih' (j + 1) hj
        have h6 := ih' j (by omega)
        have := P.pos b[i + k] a[j]
        have e : i + (k + 1) = i + k + 1 := by omega
        rw [e] at h4 ⊢
        rw [h3]
        omega
  have := key (b.length - i) (by omega) a.length (by omega)
  rw [show i + (b.length - i) = b.length by omega, Pt_full] at this
  exact this
end
end Mine
open PySem PySem.W PySem.Calls PyProof.Rows
namespace Mine

abbrev Ext (h h' : Heap) : Prop := ∀ b o, h.get? b = some o → h'.get? b = some o

theorem Ext.refl (h : Heap) : Ext h h := fun _ _ e => e
theorem Ext.trans {a b c : Heap} (x : Ext a b) (y : Ext b c) : Ext a c := fun p o e => y p o (x p o e)

/-- the text's statement at a place, and the def that it is -/
def stmtAt (i : Nat) : Stmt := PySem.Challenge.pw_rl0036_01.main.body.getD i (.Pass ⟨0, 0, 0, 0⟩)
def dName : Stmt → Str
  | .FunctionDef n .. => n
  | _ => Str.empty
def dParams : Stmt → Arguments
  | .FunctionDef _ a .. => a
  | _ => ⟨[], [], none, [], [], none, []⟩
def dBody : Stmt → List Stmt
  | .FunctionDef _ _ b .. => b
  | _ => []
def dScope : Stmt → Scope
  | .FunctionDef _ _ _ _ _ _ sc .. => sc
  | _ => { kind := .function, names := [], isGenerator := false, isCoroutine := false, more := [] }
def dPos : Stmt → Pos
  | .FunctionDef _ _ _ _ _ _ _ _ _ p => p
  | _ => ⟨0, 0, 0, 0⟩
def recAt (i : Nat) : DefRec := ⟨dName (stmtAt i), dParams (stmtAt i), dBody (stmtAt i), dScope (stmtAt i), dPos (stmtAt i)⟩

def fnIdx : List Nat := [2, 3, 8, 9, 11, 12, 13, 14, 15, 16]
def bltNames : List Str := ["sorted", "len", "list", "range", "min", "max", "sum", "enumerate", "isinstance", "bool", "int"]

/-- what the top has left, as far as it is asked -/
structure Glb (mg mb : Str → Option Value) (h : Heap) : Prop where
  g : h.Ns mainGlobals mg
  b : h.Ns builtinsNs mb
  nolimit : h.NoLimit
  blt : ∀ x : Str, x ≠ "__name__" → mb x = bootBuiltins x
  free : ∀ x ∈ bltNames, mg x = none
  fn : ∀ i ∈ fnIdx, ∃ a o pm code doc, mg (recAt i).name = some (.ref a) ∧ h.get? a = some o ∧ o.data = .func (docDef (recAt i).name (recAt i).params (recAt i).body (recAt i).scope pm code doc) ∧ h.CodeRec code (recAt i).name
  move : ∃ t, mg "_MOVE_COST" = some (.int 2 t)
  case1 : ∃ t, mg "_CASE_COST" = some (.int 1 t)
  most : ∃ t, mg "_MAX_STRING_SIZE" = some (.int 40 t)

theorem Glb.ext {mg mb : Str → Option Value} {h h' : Heap} (T : Glb mg mb h) (hk : Ext h h') : Glb mg mb h' where
  g := T.g.keeps hk
  b := T.b.keeps hk
  nolimit := T.nolimit.keeps hk
  blt := T.blt
  free := T.free
  fn := fun i hi => let ⟨a, o, pm, code, doc, h1, h2, h3, h4⟩ := T.fn i hi; ⟨a, o, pm, code, doc, h1, hk _ _ h2, h3, h4.keeps hk⟩
  move := T.move
  case1 := T.case1
  most := T.most

/-- what is known of a running frame: its names' values, the lists known, what must stay (K) -/
structure State (mg mb : Str → Option Value) (env : Env) (K : Addr → Obj → Prop) (h : Heap) (ρ : Str → Option Value) (ls : List (Addr × List Value)) : Prop where
  kind : env.scope.kind = .function
  gl : env.globals = mainGlobals
  bl : env.builtins = builtinsNs
  top : ∃ h₀, Glb mg mb h₀ ∧ ∀ b o, h₀.get? b = some o → K b o
  kept : ∀ b o, K b o → h.get? b = some o
  ns : ∃ m, h.Ns env.locals m ∧ ∀ x v, env.kindOf x = some .local → ρ x = some v → m x = some v
  cells : ∀ x c, env.cells.lookup x = some c → ∃ v, h.IsCell c v ∧ ∀ u, (env.kindOf x = some .cell ∨ env.kindOf x = some .free) → ρ x = some u → v = some u
  lists : ∀ p ∈ ls, h.PlainList p.1 p.2.toArray

structure Off (env : Env) (K : Addr → Obj → Prop) : Prop where
  loc : ∀ o, ¬ K env.locals o
  cel : ∀ x c o, env.cells.lookup x = some c → ¬ K c o
  apart : ∀ x y c, env.cells.lookup x = some c → env.cells.lookup y = some c → x = y

def upd (ρ : Str → Option Value) (x : Str) (v : Value) : Str → Option Value := fun y => if y = x then some v else ρ y

section
variable {mg mb : Str → Option Value} {env : Env} {K : Addr → Obj → Prop} {h h' : Heap} {ρ : Str → Option Value} {ls : List (Addr × List Value)}

theorem State.glb (S : State mg mb env K h ρ ls) : Glb mg mb h := let ⟨_, T, k⟩ := S.top; T.ext fun b o e => S.kept b o (k b o e)

theorem State.ext (S : State mg mb env K h ρ ls) (hk : Ext h h') : State mg mb env K h' ρ ls where
  kind := S.kind
  gl := S.gl
  bl := S.bl
  top := S.top
  kept := fun b o e => hk b o (S.kept b o e)
  ns := let ⟨m, a, b⟩ := S.ns; ⟨m, a.keeps hk, b⟩
  cells := fun x c e => let ⟨v, a, b⟩ := S.cells x c e; ⟨v, a.keeps hk, b⟩
  lists := fun p hp => (S.lists p hp).at fun o e => hk _ o e

theorem State.add (S : State mg mb env K h ρ ls) {l : Addr} {vs : List Value} (hl : h.PlainList l vs.toArray) : State mg mb env K h ρ ((l, vs) :: ls) :=
  { S with lists := fun p hp => (List.mem_cons.mp hp).elim (fun e => e ▸ hl) (fun e => S.lists p e) }

theorem State.sub {ls' : List (Addr × List Value)} (S : State mg mb env K h ρ ls) (hs : ∀ p ∈ ls', p ∈ ls) : State mg mb env K h ρ ls' :=
  { S with lists := fun p hp => S.lists p (hs p hp) }

theorem State.names {ρ' : Str → Option Value} (S : State mg mb env K h ρ ls) (hs : ∀ x v, ρ' x = some v → ρ x = some v) : State mg mb env K h ρ' ls :=
  { S with
    ns := let ⟨m, a, b⟩ := S.ns; ⟨m, a, fun x v hk hv => b x v hk (hs x v hv)⟩
    cells := fun x c e => let ⟨v, a, b⟩ := S.cells x c e; ⟨v, a, fun u hk hu => b u hk (hs x u hu)⟩ }

theorem list_ne_ns {a l : Addr} {m : Str → Option Value} {its : Array Value} (x : h.Ns a m) (y : h.IsList l its) : l ≠ a := by
  rintro rfl
  obtain ⟨o, es, ep, ho, hd, _⟩ := x
  obtain ⟨o', ho', _, n, hd'⟩ := y
  rw [ho] at ho'; cases ho'; rw [hd] at hd'; cases hd'
theorem list_ne_cell {c l : Addr} {v : Option Value} {its : Array Value} (x : h.IsCell c v) (y : h.IsList l its) : l ≠ c := by
  rintro rfl
  obtain ⟨o, ho, hd⟩ := x
  obtain ⟨o', ho', _, n, hd'⟩ := y
  rw [ho] at ho'; cases ho'; rw [hd] at hd'; cases hd'
theorem cell_ne_ns {a c : Addr} {m : Str → Option Value} {v : Option Value} (x : h.Ns a m) (y : h.IsCell c v) : c ≠ a := by
  rintro rfl
  obtain ⟨o, es, ep, ho, hd, _⟩ := x
  obtain ⟨o', ho', hd'⟩ := y
  rw [ho] at ho'; cases ho'; rw [hd] at hd'; cases hd'

theorem State.setLocal {x : Str} {v : Value} {m : Str → Option Value} (S : State mg mb env K h ρ ls) (O : Off env K) (hn : h.Ns env.locals m) (hm : ∀ x v, env.kindOf x = some .local → ρ x = some v → m x = some v)
    (hl : env.kindOf x = some .local) (hn' : h'.Ns env.locals (fun y => if y = x then some v else m y)) (hs : ∀ b o, b ≠ env.locals → h.get? b = some o → h'.get? b = some o) : State mg mb env K h' (upd ρ x v) ls where
  kind := S.kind
  gl := S.gl
  bl := S.bl
  top := S.top
  kept := fun b o e => hs b o (fun q => O.loc o (q ▸ e)) (S.kept b o e)
  ns := ⟨_, hn', fun y u hk hu => by
    unfold upd at hu
    by_cases hy : y = x
    · simp only [if_pos hy] at hu ⊢; exact hu
    · simp only [if_neg hy] at hu ⊢; exact hm y u hk hu⟩
  cells := fun y c e => by
    obtain ⟨u, hc, hu⟩ := S.cells y c e
    refine ⟨u, (let ⟨o, ho, hd⟩ := hc; ⟨o, hs c o (cell_ne_ns hn hc) ho, hd⟩), fun w hk hw => hu w hk ?_⟩
    unfold upd at hw
    by_cases hy : y = x
    · subst hy; rw [hl] at hk; rcases hk with hk | hk <;> cases hk
    · simpa only [if_neg hy] using hw
  lists := fun p hp => (S.lists p hp).at fun o e => hs _ o (list_ne_ns hn (S.lists p hp).isList) e

theorem State.setCell {x : Str} {v : Value} {c : Addr} {v₀ : Option Value} (S : State mg mb env K h ρ ls) (O : Off env K) (hl : env.kindOf x = some .cell) (hc : env.cells.lookup x = some c) (hc₀ : h.IsCell c v₀)
    (hc' : h'.IsCell c (some v)) (hs : Heap.SameBut c h h') : State mg mb env K h' (upd ρ x v) ls where
  kind := S.kind
  gl := S.gl
  bl := S.bl
  top := S.top
  kept := fun b o e => (hs.2 b (fun q => O.cel x c o hc (q ▸ e))).trans (S.kept b o e)
  ns := by
    obtain ⟨m, hn, hm⟩ := S.ns
    refine ⟨m, hn.sameBut hs (Ne.symm (cell_ne_ns hn hc₀)), fun y u hk hu => hm y u hk ?_⟩
    unfold upd at hu
    by_cases hy : y = x
    · subst hy; rw [hl] at hk; cases hk
    · simpa only [if_neg hy] using hu
  cells := fun y d e => by
    by_cases hy : y = x
    · subst hy
      rw [hc] at e; cases e
      refine ⟨some v, hc', fun u _ hu => ?_⟩
      simpa [upd] using hu
    · obtain ⟨u, hd, hu⟩ := S.cells y d e
      have hdc : d ≠ c := fun q => hy (O.apart y x c (q ▸ e) hc)
      refine ⟨u, hd.sameBut hs hdc, fun w hk hw => hu w hk ?_⟩
      simpa only [upd, if_neg hy] using hw
  lists := fun p hp => (S.lists p hp).extBut hs.extBut (list_ne_cell hc₀ (S.lists p hp).isList)

theorem State.setList {l : Addr} {its : Array Value} {vs' : List Value} (S : State mg mb env K h ρ ls) (hl : h.IsList l its) (hK : ∀ o, ¬ K l o) (hne : ∀ p ∈ ls, p.1 ≠ l) (hl' : h'.PlainList l vs'.toArray) (hs : Heap.SameBut l h h') :
    State mg mb env K h' ρ ((l, vs') :: ls) where
  kind := S.kind
  gl := S.gl
  bl := S.bl
  top := S.top
  kept := fun b o e => (hs.2 b (fun q => hK o (q ▸ e))).trans (S.kept b o e)
  ns := let ⟨m, a, b⟩ := S.ns; ⟨m, a.sameBut hs (Ne.symm (list_ne_ns a hl)), b⟩
  cells := fun x c e => let ⟨v, a, b⟩ := S.cells x c e; ⟨v, a.sameBut hs (Ne.symm (list_ne_cell a hl)), b⟩
  lists := fun p hp => by
    rcases List.mem_cons.mp hp with rfl | hp
    · exact hl'
    · exact (S.lists p hp).extBut hs.extBut (hne p hp)
end

section
variable {M : Model} {A : Around} {E : Value → Shared → Prop} {s : Shared} {mg mb : Str → Option Value} {env : Env} {K : Addr → Obj → Prop} {ρ : Str → Option Value} {ls : List (Addr × List Value)}

/-- a name of the frame, read -/
theorem nameL {x : Str} {pos : Pos} {v : Value} {Q : Value → Shared → Prop} (S : State mg mb env K s.heap ρ ls) (hl : env.kindOf x = some .local) (hv : ρ x = some v) (h : Q v s) (hd : (x == ("__debug__" : Str)) = false := by rfl) :
    wpAny M A (eval (.Name x pos) env) Q E s :=
  let ⟨_, a, b⟩ := S.ns
  wpAny_Name (wpAny_loadName_local S.kind hl a (b x v hl hv) h) hd
theorem nameC {x : Str} {pos : Pos} {c : Addr} {v : Value} {Q : Value → Shared → Prop} (S : State mg mb env K s.heap ρ ls) (hl : env.kindOf x = some .cell) (hc : env.cells.lookup x = some c) (hv : ρ x = some v) (h : Q v s) (hd : (x == ("__debug__" : Str)) = false := by rfl) :
    wpAny M A (eval (.Name x pos) env) Q E s := by
  obtain ⟨u, a, b⟩ := S.cells x c hc
  rw [b v (.inl hl) hv] at a
  exact wpAny_Name (wpAny_loadName_cell S.kind hl hc a h) hd
theorem nameB {x : Str} {pos : Pos} {v : Value} {Q : Value → Shared → Prop} (S : State mg mb env K s.heap ρ ls) (hl : env.kindOf x = some .globalImplicit) (hx : x ∈ bltNames) (hv : bootBuiltins x = some v) (h : Q v s)
    (hn : x ≠ "__name__" := by decide) (hd : (x == ("__debug__" : Str)) = false := by rfl) : wpAny M A (eval (.Name x pos) env) Q E s :=
  Name_function_global S.kind hl (loadGlobal_builtin (by rw [S.gl]; exact S.glb.g) (S.glb.free x hx) (by rw [S.bl]; exact S.glb.b) ((S.glb.blt x hn).trans hv) h) hd
theorem nameG {x : Str} {pos : Pos} {v : Value} {Q : Value → Shared → Prop} (S : State mg mb env K s.heap ρ ls) (hl : env.kindOf x = some .globalImplicit) (hx : mg x = some v) (h : Q v s) (hd : (x == ("__debug__" : Str)) = false := by rfl) :
    wpAny M A (eval (.Name x pos) env) Q E s :=
  Name_function_global S.kind hl (loadGlobal_global (by rw [S.gl]; exact S.glb.g) hx h) hd

/-- a name of the frame, stored -/
theorem storeL {x : Str} {v : Value} {Q : Unit → Shared → Prop} (S : State mg mb env K s.heap ρ ls) (O : Off env K) (hl : env.kindOf x = some .local)
    (h : ∀ h' tk, State mg mb env K h' (upd ρ x v) ls → Q () { s with heap := h', toks := tk }) : wpAny M A (storeName env x v) Q E s := by
  obtain ⟨m, a, b⟩ := S.ns
  exact wpAny_storeName_local hl a (fun h' hn hs => h h' _ (S.setLocal O a b hl hn fun b o hb e => hs.extBut b o hb e)) (by rw [S.kind]; rfl)
theorem storeC {x : Str} {v : Value} {c : Addr} {Q : Unit → Shared → Prop} (S : State mg mb env K s.heap ρ ls) (O : Off env K) (hl : env.kindOf x = some .cell) (hc : env.cells.lookup x = some c)
    (h : ∀ h' tk, State mg mb env K h' (upd ρ x v) ls → Q () { s with heap := h', toks := tk }) : wpAny M A (storeName env x v) Q E s := by
  obtain ⟨u, a, _⟩ := S.cells x c hc
  exact wpAny_storeName_cell S.kind hl hc a (fun h' hc' hs => h h' _ (S.setCell O hl hc a hc' hs))
end

/-- room for so many frames -/
structure Room (A : Around) (n : Nat) : Prop where
  handled : A.handled = none
  depth : A.depth + n ≤ 400
  units : A.units + 20 * n ≤ 5000

theorem Room.deeper {A : Around} {n : Nat} {env : Env} (R : Room A (n + 1)) : Room (A.deeper env) n :=
  ⟨R.handled, by have := R.depth; show A.depth + 1 + n ≤ 400; omega, by have := R.units; show A.units + 3 + 20 * n ≤ 5000; omega⟩
theorem Room.le {A : Around} {n m : Nat} (R : Room A n) (h : m ≤ n) : Room A m := ⟨R.handled, by have := R.depth; omega, by have := R.units; omega⟩
theorem Room.caller : Room callerA 10 := ⟨rfl, by decide, by decide⟩
theorem Room.lt {A : Around} {n : Nat} (R : Room A n) : A.depth < recursionLimit := by have := R.depth; show A.depth < 1000; omega
theorem Room.cl {A : Around} {n : Nat} (R : Room A n) : A.units + 1 < cLine := by have := R.units; show A.units + 1 < 9900; omega

theorem bindL_off {kindOf : Str → Option NameKind} {x : Str} : ∀ (binds : List (Str × Value)) (m : Str → Option Value), x ∉ binds.map (·.1) → bindL kindOf binds m x = m x
  | [], _, _ => rfl
  | (n, v) :: r, m, hx => by
    have h1 : x ≠ n := fun e => hx (by simp [e])
    have h2 : x ∉ r.map (·.1) := fun e => hx (List.mem_cons_of_mem _ e)
    unfold bindL
    rw [bindL_off r _ h2]
    split
    · simp [h1]
    · rfl
theorem bindC_off {kindOf : Str → Option NameKind} {x : Str} : ∀ (binds : List (Str × Value)) (m : Str → Option Value), x ∉ binds.map (·.1) → bindC kindOf binds m x = m x
  | [], _, _ => rfl
  | (n, v) :: r, m, hx => by
    have h1 : x ≠ n := fun e => hx (by simp [e])
    have h2 : x ∉ r.map (·.1) := fun e => hx (List.mem_cons_of_mem _ e)
    unfold bindC
    rw [bindC_off r _ h2]
    split
    · rfl
    · simp [h1]
theorem bindL_at {kindOf : Str → Option NameKind} {x : Str} {v : Value} : ∀ (binds : List (Str × Value)) (m : Str → Option Value), (binds.map (·.1)).Nodup → kindOf x = some .local → binds.lookup x = some v → bindL kindOf binds m x = some v
  | [], _, _, _, h => by cases h
  | (n, u) :: r, m, hnd, hk, h => by
    rw [List.map_cons, List.nodup_cons] at hnd
    rw [List.lookup_cons] at h
    unfold bindL
    by_cases hx : x = n
    · subst hx
      simp at h
      rw [bindL_off r _ hnd.1, if_pos hk, h]
      simp
    · have : (x == n) = false := by simpa using hx
      rw [this] at h
      exact bindL_at r _ hnd.2 hk h
theorem bindC_at {kindOf : Str → Option NameKind} {x : Str} {v : Value} : ∀ (binds : List (Str × Value)) (m : Str → Option Value), (binds.map (·.1)).Nodup → kindOf x ≠ some .local → binds.lookup x = some v → bindC kindOf binds m x = some v
  | [], _, _, _, h => by cases h
  | (n, u) :: r, m, hnd, hk, h => by
    rw [List.map_cons, List.nodup_cons] at hnd
    rw [List.lookup_cons] at h
    unfold bindC
    by_cases hx : x = n
    · subst hx
      simp at h
      rw [bindC_off r _ hnd.1, if_neg hk, h]
      simp
    · have : (x == n) = false := by simpa using hx
      rw [this] at h
      exact bindC_at r _ hnd.2 hk h

/-- a def's call: the frame at its start -/
theorem enter {prog : Program} {w : World} {A : Around} {s : Shared} {mg mb : Str → Option Value} {Q : Value → Shared → Prop} {E : Value → Shared → Prop} (i : Nat) (hi : i ∈ fnIdx) {n : Nat} {args : List Value} {binds : List (Str × Value)}
    (R : Room A (n + 1)) (T : Glb mg mb s.heap) {f : Addr} (hf : mg (recAt i).name = some (.ref f))
    (hbind : ∀ pm cd doc, bindArgs (docDef (recAt i).name (recAt i).params (recAt i).body (recAt i).scope pm cd doc) ⟨args, []⟩ = pure binds)
    (hkind : (binds.all fun y => (recAt i).scope.names.lookup y.1 == some .local || (recAt i).scope.names.lookup y.1 == some .cell) = true)
    (hnd : (binds.map (·.1)).Nodup)
    (h : ∀ L a cd h₁ tk, State mg mb (envOfC (recAt i).name (recAt i).scope L a cd) (fun b o => s.heap.get? b = some o) h₁ (fun x => binds.lookup x) [] → Off (envOfC (recAt i).name (recAt i).scope L a cd) (fun b o => s.heap.get? b = some o) →
      wpAny (model prog w) (A.deeper (envOfC (recAt i).name (recAt i).scope L a cd)) (execs (recAt i).body (envOfC (recAt i).name (recAt i).scope L a cd)) (fun f s' => Q (match f with | .ret v => v | _ => .none) s') (fun _ _ => False) { s with heap := h₁, toks := tk })
    (hco : (recAt i).scope.isCoroutine = false := by rfl) (hgen : (recAt i).scope.isGenerator = false := by rfl) (hk : (recAt i).scope.kind = .function := by rfl) :
    wpAny (model prog w) A (call (.ref f) args) Q E s := by
  obtain ⟨a, o, pm, cd, doc, h1, h2, h3, h4⟩ := T.fn i hi
  rw [hf] at h1; cases h1
  refine wpAny_call (call_cells_ret R.lt h2 h3 T.nolimit h4 (hbind pm cd doc) (kindsX hkind _) (fun h₁ tk F X => ?_) hco hgen hk)
  have hlow : ∀ b o, s.heap.get? b = some o → b < s.heap.objs.size := fun b o e => Heap.lt_size e
  refine h _ _ _ h₁ tk ?_ ?_
  · refine ⟨hk, rfl, rfl, ⟨s.heap, T, fun _ _ e => e⟩, F.keep, ⟨_, F.ns, fun x v hx hv => ?_⟩, fun x c e => ⟨_, X.cell x c e, fun u hx hu => ?_⟩, fun p hp => nomatch hp⟩
    · exact bindL_at binds _ hnd hx hv
    · exact bindC_at binds _ hnd (by rcases hx with hx | hx <;> rw [hx] <;> decide) hu
  · refine ⟨fun o e => Nat.lt_irrefl _ (hlow _ _ e), fun x c o hc e => ?_, fun x y c hx hy => name_of_addr X.apart (mem_of_lookup hx) (mem_of_lookup hy)⟩
    exact absurd (hlow _ _ e) (Nat.lt_asymm (X.above x c (mem_of_lookup hc)))

structure Bt (x : Str) (v : Value) : Prop where
  mem : x ∈ bltNames
  boot : bootBuiltins x = some v
  ne : x ≠ "__name__"
theorem bt1 : Bt "sorted" (.builtin "sorted") := ⟨by decide, by decide +kernel, by decide⟩
theorem bt2 : Bt "len" (.builtin "len") := ⟨by decide, by decide +kernel, by decide⟩
theorem bt3 : Bt "list" (.type "list") := ⟨by decide, by decide +kernel, by decide⟩
theorem bt4 : Bt "range" (.type "range") := ⟨by decide, by decide +kernel, by decide⟩
theorem bt5 : Bt "min" (.builtin "min") := ⟨by decide, by decide +kernel, by decide⟩
theorem bt6 : Bt "max" (.builtin "max") := ⟨by decide, by decide +kernel, by decide⟩
theorem bt7 : Bt "sum" (.builtin "sum") := ⟨by decide, by decide +kernel, by decide⟩
theorem bt8 : Bt "enumerate" (.type "enumerate") := ⟨by decide, by decide +kernel, by decide⟩
theorem bt9 : Bt "isinstance" (.builtin "isinstance") := ⟨by decide, by decide +kernel, by decide⟩
theorem bt10 : Bt "bool" (.type "bool") := ⟨by decide, by decide +kernel, by decide⟩
theorem bt11 : Bt "int" (.type "int") := ⟨by decide, by decide +kernel, by decide⟩

section
variable {M : Model} {A : Around} {E : Value → Shared → Prop} {s : Shared} {mg mb : Str → Option Value} {env : Env} {K : Addr → Obj → Prop} {ρ : Str → Option Value} {ls : List (Addr × List Value)}
theorem nameT {x : Str} {pos : Pos} {v : Value} {Q : Value → Shared → Prop} (S : State mg mb env K s.heap ρ ls) (B : Bt x v) (hl : env.kindOf x = some .globalImplicit) (h : Q v s) (hd : (x == ("__debug__" : Str)) = false := by rfl) :
    wpAny M A (eval (.Name x pos) env) Q E s := nameB S hl B.mem B.boot h B.ne hd
end

section
variable {prog : Program} {w : World} {A : Around} {E : Value → Shared → Prop} {s : Shared}

theorem sortedI {l : Addr} {vs : List Value} {ns : List Int} {Q : Value → Shared → Prop} (hl : s.heap.IsList l vs.toArray) (hI : IntsAre vs ns) (h64 : vs.length < 64)
    (h : ∀ (b : Addr) (vs' : List Value) (ns' : List Int) h' tk, Ext s.heap h' → h'.PlainList b vs'.toArray → IntsAre vs' ns' → ns'.Perm ns → ns'.Pairwise (· ≤ ·) → Q (.ref b) { s with heap := h', toks := tk }) :
    wpAny (model prog w) A (call (.builtin "sorted") [.ref l]) Q E s := by
  refine sorted_ints hl hI h64 fun out ns' a1 a2 a3 => ?_
  obtain ⟨e, he⟩ := sortedAll_at s.heap vs out
  exact h _ out.toList ns' _ s.toks (fun _ _ => sortedAll_old) ⟨e, he⟩ a1 a2 a3

theorem ext_push (h : Heap) (o : Obj) : Ext h (h.push o) := fun _ _ e => Heap.get?_push_of_some _ e

/-- a new list of written items -/
theorem newListI {vs : List Value} {Q : Value → Shared → Prop} (hsz : vs.length ≤ sizeLine)
    (h : ∀ (b : Addr) h' tk, Ext s.heap h' → s.heap.get? b = none → h'.PlainList b vs.toArray → Q (.ref b) { s with heap := h', toks := tk }) : wpAny (model prog w) A (newList vs) Q E s :=
  wpAny_newObj_type (h _ _ s.toks (ext_push _ _) (by
    cases e : s.heap.get? s.heap.objs.size with
    | none => rfl
    | some o => exact absurd (Heap.lt_size e) (Nat.lt_irrefl _)) ⟨0, Heap.get?_push_size _ rfl⟩) (by show vs.toArray.size ≤ sizeLine; rw [List.size_toArray]; exact hsz)

theorem fresh_size (h : Heap) : h.get? h.objs.size = none := by
  cases e : h.get? h.objs.size with
  | none => rfl
  | some o => exact absurd (Heap.lt_size e) (Nat.lt_irrefl _)

theorem addL {l b : Addr} {vs ws : List Value} {Q : Value → Shared → Prop} (hl : s.heap.IsList l vs.toArray) (hb : s.heap.IsList b ws.toArray) (hsz : vs.length + ws.length ≤ sizeLine)
    (h : ∀ (r : Addr) h' tk, Ext s.heap h' → s.heap.get? r = none → h'.PlainList r (vs ++ ws).toArray → Q (.ref r) { s with heap := h', toks := tk }) :
    wpAny (model prog w) A (binaryOp .Add (.ref l) (.ref b)) Q E s := by
  obtain ⟨⟨cls, dd, data, sl⟩, ho, hc, n, hd⟩ := id hl
  obtain ⟨⟨cls2, dd2, data2, sl2⟩, ho2, hc2, n2, hd2⟩ := id hb
  simp only at hc hd hc2 hd2
  subst hc hd hc2 hd2
  have e : vs.toArray ++ ws.toArray = (vs ++ ws).toArray := by simp
  refine concat_meets ⟨_, ho, rfl⟩ ⟨_, ho2, rfl⟩ noFill_list_add seq_list_add PySem.F.slot_list_add PySem.F.entry_list_add (PySem.F.args_list_add_2 _ _) (list_addW l b vs.toArray ws.toArray n n2 dd dd2 sl sl2 (by simpa using hsz)) ⟨ho, ho2, ?_⟩
  rw [e]
  exact h _ _ s.toks (ext_push _ _) (fresh_size _) ⟨0, Heap.get?_push_size _ rfl⟩

/-- a slice of a list, by its parts -/
theorem sliceL {value slice : PySem.Expr} {l : Addr} {items : List Value} {vl vu vst : Value} {lo hi st : Option Int} {Q : Value → Shared → Prop} {ops : List Value}
    (hl : s.heap.IsList l items.toArray) (pl : IsPart vl lo) (pu : IsPart vu hi) (pst : IsPart vst st) (h0 : st ≠ some 0) (hsz : items.length ≤ sizeLine)
    (h : ∀ (b : Addr) h' tk, Ext s.heap h' → s.heap.get? b = none → h'.PlainList b (slicePick items.toArray lo hi st).toList.toArray → Q (.ref b) { s with heap := h', toks := tk })
    (hs : subscripted slice false (.ref l) (.ref s.heap.objs.size) = operate ops (getItem (.ref l) (.ref s.heap.objs.size)))
    (ht : ∀ r, letTemporaryGo value (.ref l) r = pure () := by intro _; with_unfolding_all rfl) :
    wpAny (model prog w) A (subscriptTail value slice (.ref l) (.ref s.heap.objs.size)) Q E { s with heap := s.heap.push { cls := .type "slice", data := .fields #[vl, vu, vst] } } := by
  refine subscriptTail_ops (Heap.IsList.typeIs (s := { s with heap := s.heap.push { cls := .type "slice", data := .fields #[vl, vu, vst] } }) (hl.push _)) list_getitem_lookup
    (wpAny_getItem_list_slice (hl.push _) (Heap.IsSliceOf.new ..) pl pu pst h0 ?_ (by simpa using hsz)) hs ht
  refine h _ _ s.toks ((ext_push _ _).trans (ext_push _ _)) ?_ ⟨0, Heap.get?_push_size _ rfl⟩
  cases e : s.heap.get? (s.heap.push { cls := .type "slice", data := .fields #[vl, vu, vst] }).objs.size with
  | none => rfl
  | some o => exact absurd (Heap.lt_size e) (by rw [Heap.size_push]; exact Nat.not_lt.mpr (Nat.le_succ _))

theorem maxI {l : Addr} {vs : List Value} {ns : List Int} {Q : Value → Shared → Prop} (hh : A.handled = none) (hl : s.heap.IsList l vs.toArray) (hI : IntsAre vs ns) (hne : 0 < ns.length)
    (h : ∀ (v : Int) t h' tk, Ext s.heap h' → v ∈ ns → (∀ u ∈ ns, u ≤ v) → Q (.int v t) { s with heap := h', toks := tk }) :
    wpAny (model prog w) A (call (.builtin "max") [.ref l]) Q E s := by
  obtain ⟨xs, e⟩ := (hI.allInts).items
  rw [e] at hl
  have e2 : numsOf (vs.toArray).toList = ns := by simpa using hI.numsOf
  rw [e, nums_intItems] at e2
  have hlen : xs.size = ns.length := by rw [← e2]; simp
  refine max_intList hh hl (by omega) fun v h' tk hv hk => ?_
  obtain ⟨b1, b2⟩ := argBest_gt (numAt xs) (xs.size - 1)
  generalize argBest (fun i j => decide (numAt xs i > numAt xs j)) (xs.size - 1) = k at hv b1 b2
  have hk' : k < xs.size := by omega
  have hv' : v = .int (xs[k]).1 (xs[k]).2 := by
    simp [intItems, hk'] at hv
    exact hv.symm
  have hn : numAt xs k = (xs[k]).1 := by simp [numAt, hk']
  subst hv'
  refine h _ _ h' tk hk ?_ ?_
  · rw [← e2]; exact List.mem_map.mpr ⟨xs[k], by simp, rfl⟩
  · intro u hu
    rw [← e2] at hu
    obtain ⟨p, hp, rfl⟩ := List.mem_map.mp hu
    obtain ⟨j, hj, rfl⟩ := Array.mem_iff_getElem.mp (Array.mem_toList_iff.mp hp)
    have := b2 j (by omega)
    rw [hn] at this
    simpa [numAt, hj] using this

theorem sumI {l : Addr} {vs : List Value} {ns : List Int} {Q : Value → Shared → Prop} (hh : A.handled = none) (hl : s.heap.IsList l vs.toArray) (hI : IntsAre vs ns)
    (h : ∀ t h' tk, Ext s.heap h' → Q (.int ns.sum t) { s with heap := h', toks := tk }) :
    wpAny (model prog w) A (call (.builtin "sum") [.ref l]) Q E s := by
  obtain ⟨xs, e⟩ := (hI.allInts).items
  rw [e] at hl
  refine sum_intListG hh hl fun h' tk t' hk => ?_
  have := h t' h' tk hk
  rw [preSum_eq, List.take_of_length_le (by simp)]
  have e2 : numsOf (vs.toArray).toList = ns := by simpa using hI.numsOf
  rw [e, nums_intItems] at e2
  rw [e2]; exact this
end

/-- a name that can be stored -/
def Storable (env : Env) (x : Str) : Prop := env.kindOf x = some .local ∨ (env.kindOf x = some .cell ∧ ∃ c, env.cells.lookup x = some c)

section
variable {M : Model} {A : Around} {E : Value → Shared → Prop} {s : Shared} {mg mb : Str → Option Value} {env : Env} {K K' : Addr → Obj → Prop} {h h' : Heap} {ρ : Str → Option Value} {ls : List (Addr × List Value)}

theorem storeA {x : Str} {v : Value} {Q : Unit → Shared → Prop} (S : State mg mb env K s.heap ρ ls) (O : Off env K) (hl : Storable env x)
    (h : ∀ h' tk, State mg mb env K h' (upd ρ x v) ls → Q () { s with heap := h', toks := tk }) : wpAny M A (storeName env x v) Q E s := by
  rcases hl with hl | ⟨hl, c, hc⟩
  · exact storeL S O hl h
  · exact storeC S O hl hc h

theorem State.weak (S : State mg mb env K' h ρ ls) (hK : ∀ b o, K b o → K' b o) (ht : ∃ h₀, Glb mg mb h₀ ∧ ∀ b o, h₀.get? b = some o → K b o) : State mg mb env K h ρ ls :=
  { S with top := ht, kept := fun b o e => S.kept b o (hK b o e) }

/-- what is neither a frame's names nor a cell -/
def NotOwn (o : Obj) : Prop := (∀ es ep, o.data ≠ .dict es ep) ∧ ∀ v, o.data ≠ .cell v

/-- but for objects that are no lists, dicts or cells and that K does not hold, all stays -/
theorem State.but {wr : List Addr} (S : State mg mb env K h ρ ls) (hw : ∀ b ∈ wr, ∃ o vs, h.get? b = some o ∧ o.data = .fields vs) (hK : ∀ b ∈ wr, ∀ o, ¬ K b o)
    (hk : ∀ b o, b ∉ wr → h.get? b = some o → h'.get? b = some o) : State mg mb env K h' ρ ls where
  kind := S.kind
  gl := S.gl
  bl := S.bl
  top := S.top
  kept := fun b o e => hk b o (fun hb => hK b hb o e) (S.kept b o e)
  ns := by
    obtain ⟨m, hn, hm⟩ := S.ns
    refine ⟨m, hn.at' fun o e => hk _ o (fun hb => ?_) e, hm⟩
    obtain ⟨o', vs, ho', hd'⟩ := hw _ hb
    obtain ⟨o, es, ep, ho, hd, _⟩ := hn
    rw [ho] at ho'; cases ho'; rw [hd] at hd'; cases hd'
  cells := fun x c e => by
    obtain ⟨v, ⟨o, ho, hd⟩, hv⟩ := S.cells x c e
    refine ⟨v, ⟨o, hk c o (fun hb => ?_) ho, hd⟩, hv⟩
    obtain ⟨o', vs, ho', hd'⟩ := hw _ hb
    rw [ho] at ho'; cases ho'; rw [hd] at hd'; cases hd'
  lists := fun p hp => by
    obtain ⟨n, ho⟩ := S.lists p hp
    refine ⟨n, hk _ _ (fun hb => ?_) ho⟩
    obtain ⟨o', vs, ho', hd'⟩ := hw _ hb
    rw [ho] at ho'; cases ho'; cases hd'
end

abbrev Never : Value → Shared → Prop := fun _ _ => False
theorem never {α : Type} {M : Model} {A : Around} {t : Sem α} {Q : α → Shared → Prop} {E : Value → Shared → Prop} {s : Shared} (h : wpAny M A t Q Never s) : wpAny M A t Q E s := wpAny_mono h (fun _ _ x => x) fun _ _ x => x.elim

section
variable {prog : Program} {w : World} {A : Around} {s : Shared} {mg mb : Str → Option Value} {env : Env} {K : Addr → Obj → Prop} {ρ₀ : Str → Option Value} {ls₀ : List (Addr × List Value)} {Q : Flow → Shared → Prop}

/-- how a turn of a loop ends -/
def TurnEnd (mg mb : Str → Option Value) (env : Env) (K : Addr → Obj → Prop) (s : Shared) (Q : Flow → Shared → Prop) (J : (Str → Option Value) → List (Addr × List Value) → Prop) (f : Flow) (s' : Shared) : Prop :=
  match f with
  | .ret v => Q (.ret v) s'
  | .brk => Q .next s'
  | _ => ∃ ρ ls h tk, s' = { s with heap := h, toks := tk } ∧ State mg mb env K h ρ ls ∧ J ρ ls

theorem loop_walk {I : Addr} {fp wr lfp : List Addr} {n : Nat} {P : Nat → Value → Prop} {St : Nat → Heap → Prop} {x : Str} {px : Pos} {body : List Stmt} (W : Walks prog w A I fp wr n P St)
    (S : State mg mb env K s.heap ρ₀ ls₀) (O : Off env K) (hx : Storable env x) (h0 : St 0 s.heap)
    (hwK : ∀ b ∈ wr, ∀ o, ¬ K b o) (hwf : ∀ i h, St i h → ∀ b ∈ wr, ∃ o vs, h.get? b = some o ∧ o.data = .fields vs)
    (hfn : ∀ i h, St i h → ∀ b ∈ fp, ∃ o, h.get? b = some o ∧ NotOwn o) (hfl : ∀ b ∈ fp, b ∈ wr ∨ b ∈ lfp)
    (Inv : Nat → (Str → Option Value) → List (Addr × List Value) → Prop) (hI : Inv 0 ρ₀ ls₀)
    (turn : ∀ i v K' ρ ls h tk, i < n → P i v → (∀ b o, K b o → K' b o) → (∀ p ∈ ls, p.1 ∉ lfp → ∀ o, K' p.1 o → K p.1 o) → Inv i ρ ls →
      State mg mb env K' h (upd ρ x v) ls → Off env K' → wpAny (model prog w) A (execs body env) (TurnEnd mg mb env K' s Q (Inv (i + 1))) Never { s with heap := h, toks := tk })
    (done : ∀ ρ ls h tk, Inv n ρ ls → State mg mb env K h ρ ls → Q .next { s with heap := h, toks := tk }) :
    codeAny (model prog w) A (.forLoop (.Name x px) (.ref I) body [] env) (fun r s' => match r with | .ok f => Q f s' | .error e => cameBackBy (model prog w) A env Never e s') s := by
  refine codeAny_forLoop (fun k s' => ∃ i h tk ρ ls, s' = { s with heap := h, toks := tk } ∧ i ≤ n ∧ k = n + 1 - i ∧ St i h ∧ Inv i ρ ls ∧ State mg mb env K h ρ ls) ?_ (n + 1)
    ⟨0, s.heap, s.toks, ρ₀, ls₀, rfl, Nat.zero_le _, rfl, h0, hI, S⟩
  rintro k s' ⟨i, h, tk, ρ, ls, rfl, hi, rfl, hst, hJ, S'⟩
  by_cases hlt : i < n
  · refine W.item i _ _ _ hlt hst fun v h₁ tk₁ hPv hst₁ hk₁ => ?_
    have S₁ : State mg mb env K h₁ ρ ls := S'.but (hwf i h hst) hwK hk₁
    let K' : Addr → Obj → Prop := fun b o => K b o ∨ (b ∈ fp ∧ h₁.get? b = some o)
    have hKK' : ∀ b o, K b o → K' b o := fun b o e => .inl e
    have S₂ : State mg mb env K' h₁ ρ ls := { S₁ with top := (let ⟨h₀, a, b⟩ := S₁.top; ⟨h₀, a, fun c o e => .inl (b c o e)⟩), kept := fun b o e => e.elim (S₁.kept b o) (·.2) }
    have O' : Off env K' := by
      refine ⟨fun o e => ?_, fun y c o hc e => ?_, O.apart⟩
      · rcases e with e | ⟨hb, e⟩
        · exact O.loc o e
        · obtain ⟨m, ⟨o', es, ep, ho', hd', _⟩, _⟩ := S₁.ns
          obtain ⟨o'', ho'', hno⟩ := hfn _ _ hst₁ _ hb
          rw [ho'] at ho''; cases ho''
          exact hno.1 _ _ hd'
      · rcases e with e | ⟨hb, e⟩
        · exact O.cel y c o hc e
        · obtain ⟨u, ⟨o', ho', hd'⟩, _⟩ := S₁.cells y c hc
          obtain ⟨o'', ho'', hno⟩ := hfn _ _ hst₁ _ hb
          rw [ho'] at ho''; cases ho''
          exact hno.2 _ hd'
    refine wpAny_assign_Name (storeA (s := { s with heap := h₁, toks := tk₁ }) S₂ O' hx fun h₂ tk₂ S₃ => ?_)
    have hnl : ∀ p ∈ ls, p.1 ∉ lfp → ∀ o, K' p.1 o → K p.1 o := fun p hp hnl o e => by
      rcases e with e | ⟨hb, e⟩
      · exact e
      · rcases hfl _ hb with hw | hw
        · obtain ⟨o', vs, ho', hd'⟩ := hwf _ _ hst₁ _ hw
          obtain ⟨n'', ho''⟩ := S₁.lists p hp
          rw [ho'] at ho''; cases ho''; cases hd'
        · exact absurd hw hnl
    refine never (wpAny_mono (turn i v K' ρ ls h₂ tk₂ hlt hPv hKK' hnl hJ S₃ O') (fun f s₃ hf => ?_) fun _ _ e => e)
    have next : (∃ ρ ls h tk, s₃ = { s with heap := h, toks := tk } ∧ State mg mb env K' h ρ ls ∧ Inv (i + 1) ρ ls) →
        ∃ m, m < n + 1 - i ∧ ∃ i h tk ρ ls, s₃ = { s with heap := h, toks := tk } ∧ i ≤ n ∧ m = n + 1 - i ∧ St i h ∧ Inv i ρ ls ∧ State mg mb env K h ρ ls := by
      rintro ⟨ρ', ls', h', tk', rfl, S₄, hJ'⟩
      refine ⟨n + 1 - (i + 1), by omega, i + 1, h', tk', ρ', ls', rfl, hlt, rfl, ?_, hJ', S₄.weak hKK' S.top⟩
      exact W.frame _ _ _ hst₁ fun b hb o e => S₄.kept b o (.inr ⟨hb, e⟩)
    cases f with
    | ret v => exact hf
    | brk => exact hf
    | next => exact next hf
    | cont => exact next hf
  · have hin : i = n := by omega
    subst hin
    refine W.done _ _ _ hst fun h₁ tk₁ hk₁ => wpAny_execs_nil ?_
    exact done ρ ls h₁ tk₁ hJ (S'.but (hwf i h hst) hwK hk₁)

theorem notOwn_fields {o : Obj} {vs : Array Value} (h : o.data = .fields vs) : NotOwn o := ⟨fun _ _ e => (by rw [h] at e; cases e), fun _ e => (by rw [h] at e; cases e)⟩
theorem notOwn_seq {o : Obj} {vs : Array Value} {n : Nat} (h : o.data = .seq vs n) : NotOwn o := ⟨fun _ _ e => (by rw [h] at e; cases e), fun _ e => (by rw [h] at e; cases e)⟩

/-- for over a range -/
theorem loop_range {r : Addr} {a b c : Int} {t u v : Tok} {n : Nat} {x : Str} {px : Pos} {body : List Stmt} (hh : A.handled = none) (hr : IsRange s.heap r a b c t u v) (hsmall : Builtin.Range.small a b c = true) (hn : Builtin.Range.rangeSize a b c = (n : Int))
    (S : State mg mb env K s.heap ρ₀ ls₀) (O : Off env K) (hx : Storable env x)
    (Inv : Nat → (Str → Option Value) → List (Addr × List Value) → Prop) (hI : Inv 0 ρ₀ ls₀)
    (turn : ∀ i t K' ρ ls h tk, i < n → (∀ b o, K b o → K' b o) → (∀ p ∈ ls, ∀ o, K' p.1 o → K p.1 o) → Inv i ρ ls →
      State mg mb env K' h (upd ρ x (.int (a + (i : Int) * c) t)) ls → Off env K' → wpAny (model prog w) A (execs body env) (TurnEnd mg mb env K' s Q (Inv (i + 1))) Never { s with heap := h, toks := tk })
    (done : ∀ ρ ls h tk, Inv n ρ ls → State mg mb env K h ρ ls → Q .next { s with heap := h, toks := tk }) :
    wpAny (model prog w) A (pyIter (.ref r)) (fun it s₂ => codeAny (model prog w) A (.forLoop (.Name x px) it body [] env) (fun r s' => match r with | .ok f => Q f s' | .error e => cameBackBy (model prog w) A env Never e s') s₂) Never s := by
  refine wpAny_pyIter_range hr hsmall ?_
  have W := Walks.range (prog := prog) (w := w) hh s.heap.objs.size a c n
  refine loop_walk (s := { s with heap := s.heap.push _ }) (lfp := []) W (S.ext (ext_push _ _)) O hx ?_ ?_ ?_ ?_ ?_ Inv hI ?_ ?_
  · show IsRangeIter _ _ _ _ _
    rw [hn]
    simpa using Heap.get?_push_size _ rfl
  · intro b hb o e
    rw [List.mem_singleton.mp hb] at e
    exact absurd (Heap.lt_size (S.kept _ _ e)) (Nat.lt_irrefl _)
  · intro i h hst b hb
    rw [List.mem_singleton.mp hb]
    exact ⟨_, _, hst, rfl⟩
  · intro i h hst b hb
    rw [List.mem_singleton.mp hb]
    exact ⟨_, hst, notOwn_fields rfl⟩
  · intro b hb; exact .inl hb
  · rintro i v K' ρ ls h tk hi ⟨t, rfl⟩ hKK hnl hJ S' O'
    exact turn i t K' ρ ls h tk hi hKK (fun p hp o e => hnl p hp (fun h => nomatch h) o e) hJ S' O'
  · exact done

/-- for over a list -/
theorem loop_list {l : Addr} {vs : List Value} {x : Str} {px : Pos} {body : List Stmt} (hh : A.handled = none) (hl : s.heap.IsList l vs.toArray)
    (S : State mg mb env K s.heap ρ₀ ls₀) (O : Off env K) (hx : Storable env x)
    (Inv : Nat → (Str → Option Value) → List (Addr × List Value) → Prop) (hI : Inv 0 ρ₀ ls₀)
    (turn : ∀ i v K' ρ ls h tk, vs[i]? = some v → (∀ b o, K b o → K' b o) → (∀ p ∈ ls, p.1 ≠ l → ∀ o, K' p.1 o → K p.1 o) → Inv i ρ ls →
      State mg mb env K' h (upd ρ x v) ls → Off env K' → wpAny (model prog w) A (execs body env) (TurnEnd mg mb env K' s Q (Inv (i + 1))) Never { s with heap := h, toks := tk })
    (done : ∀ ρ ls h tk, Inv vs.length ρ ls → State mg mb env K h ρ ls → Q .next { s with heap := h, toks := tk }) :
    wpAny (model prog w) A (pyIter (.ref l)) (fun it s₂ => codeAny (model prog w) A (.forLoop (.Name x px) it body [] env) (fun r s' => match r with | .ok f => Q f s' | .error e => cameBackBy (model prog w) A env Never e s') s₂) Never s := by
  refine wpAny_pyIter_list hl ?_
  obtain ⟨ol, hol, hcl, nl, hdl⟩ := id hl
  have hlt : l < s.heap.objs.size := Heap.lt_size hol
  have W := Walks.list (prog := prog) (w := w) hh s.heap.objs.size l (Nat.ne_of_lt hlt) vs.toArray
  have hsz : vs.toArray.size = vs.length := by simp
  rw [hsz] at W
  refine loop_walk (s := { s with heap := s.heap.push _ }) (lfp := [l]) W (S.ext (ext_push _ _)) O hx ?_ ?_ ?_ ?_ ?_ Inv hI ?_ ?_
  · exact ⟨⟨_, Heap.get?_push_size _ rfl, rfl, rfl⟩, hl.push _⟩
  · intro b hb o e
    rw [List.mem_singleton.mp hb] at e
    exact absurd (Heap.lt_size (S.kept _ _ e)) (Nat.lt_irrefl _)
  · rintro i h ⟨⟨o, ho, _, hd⟩, _⟩ b hb
    rw [List.mem_singleton.mp hb]
    exact ⟨_, _, ho, hd⟩
  · rintro i h ⟨⟨o, ho, _, hd⟩, ⟨o', ho', _, n', hd'⟩⟩ b hb
    rcases List.mem_cons.mp hb with rfl | hb
    · exact ⟨_, ho, notOwn_fields hd⟩
    · rw [List.mem_singleton.mp hb]
      exact ⟨_, ho', notOwn_seq hd'⟩
  · intro b hb
    rcases List.mem_cons.mp hb with rfl | hb
    · exact .inl (List.mem_singleton.mpr rfl)
    · exact .inr hb
  · rintro i v K' ρ ls h tk hi hP hKK hnl hJ S' O'
    exact turn i v K' ρ ls h tk (by simpa using hP) hKK (fun p hp hne o e => hnl p hp (by simpa using hne) o e) hJ S' O'
  · exact done

/-- while -/
theorem loop_while {test : PySem.Expr} {body : List Stmt} {pos : Pos} (S : State mg mb env K s.heap ρ₀ ls₀)
    (Inv : Nat → (Str → Option Value) → List (Addr × List Value) → Prop) {k₀ : Nat} (hI : Inv k₀ ρ₀ ls₀)
    (turn : ∀ k ρ ls h tk, Inv k ρ ls → State mg mb env K h ρ ls → wpAny (model prog w) A (isTrue test env (eval test env)) (fun b s₂ =>
      if b then wpAny (model prog w) A (execs body env) (TurnEnd mg mb env K s Q (fun ρ ls => ∃ k', k' < k ∧ Inv k' ρ ls)) Never s₂ else Q .next s₂) Never { s with heap := h, toks := tk }) :
    wpAny (model prog w) A (exec (.While test body [] pos) env) Q Never s := by
  refine wpAny_While (codeAny_whileLoop (fun k s' => ∃ ρ ls h tk, s' = { s with heap := h, toks := tk } ∧ State mg mb env K h ρ ls ∧ Inv k ρ ls) ?_ k₀ ⟨ρ₀, ls₀, s.heap, s.toks, rfl, S, hI⟩)
  rintro k s' ⟨ρ, ls, h, tk, rfl, S', hJ⟩
  refine never (wpAny_mono (turn k ρ ls h tk hJ S') (fun b s₂ hb => ?_) fun _ _ e => e)
  cases b with
  | false =>
    simp only [Bool.false_eq_true, if_false] at hb ⊢
    exact wpAny_execs_nil hb
  | true =>
    simp only [if_true] at hb ⊢
    refine never (wpAny_mono hb (fun f s₃ hf => ?_) fun _ _ e => e)
    have next : (∃ ρ ls h tk, s₃ = { s with heap := h, toks := tk } ∧ State mg mb env K h ρ ls ∧ ∃ k', k' < k ∧ Inv k' ρ ls) →
        ∃ m, m < k ∧ ∃ ρ ls h tk, s₃ = { s with heap := h, toks := tk } ∧ State mg mb env K h ρ ls ∧ Inv m ρ ls := by
      rintro ⟨ρ', ls', h', tk', rfl, S₄, k', hk', hJ'⟩
      exact ⟨k', hk', ρ', ls', h', tk', rfl, S₄, hJ'⟩
    cases f with
    | ret v => exact hf
    | brk => exact hf
    | next => exact next hf
    | cont => exact next hf
end

def cloOf (cells : List (Str × Addr)) : List (Str × NameKind) → List (Str × Addr) → List (Str × Addr)
  | [], acc => acc
  | (n, k) :: r, acc => if k == .free then (match cells.lookup n with | some c => cloOf cells r ((n, c) :: acc) | none => cloOf cells r acc) else cloOf cells r acc

theorem closure_go {env : Env} : ∀ (names : List (Str × NameKind)) (acc : List (Str × Addr)), (∀ y ∈ names, y.2 = .free → (env.cells.lookup y.1).isSome = true) →
    (forIn names acc fun (x : Str × NameKind) (r : List (Str × Addr)) => (if x.2 == .free then do let a ← cellOf env x.1; pure (ForInStep.yield ((x.1, a) :: r)) else pure (ForInStep.yield r) : Sem _)) = pure (cloOf env.cells names acc)
  | [], acc, _ => rfl
  | (n, k) :: r, acc, h => by
    have ih := fun acc => closure_go (env := env) r acc fun y hy => h y (List.mem_cons_of_mem _ hy)
    rw [List.forIn_cons]
    unfold cloOf
    by_cases hk : (k == NameKind.free) = true
    · obtain ⟨c, hc⟩ := Option.isSome_iff_exists.mp (h (n, k) List.mem_cons_self (by simpa using hk))
      simp only at hc
      simp only [hk, if_true]
      unfold cellOf
      rw [hc]
      simp only [pure_bind]
      exact ih _
    · simp only [hk]
      exact ih _

theorem closure_eq {scope : Scope} {env : Env} (h : ∀ y ∈ scope.names, y.2 = .free → (env.cells.lookup y.1).isSome = true) : closureFor scope env = pure (cloOf env.cells scope.names []) := by
  unfold closureFor
  have := closure_go (env := env) scope.names [] h
  simp only [bind_pure]
  exact this

theorem cloOf_lookup {cells : List (Str × Addr)} {y : Str} {c : Addr} : ∀ (names : List (Str × NameKind)) (acc : List (Str × Addr)), (cloOf cells names acc).lookup y = some c →
    acc.lookup y = some c ∨ (cells.lookup y = some c ∧ (y, NameKind.free) ∈ names)
  | [], acc, h => .inl h
  | (n, k) :: r, acc, h => by
    unfold cloOf at h
    split at h
    · rename_i hk
      have hk' : k = .free := by simpa using hk
      subst hk'
      split at h
      · rename_i c' hc'
        rcases cloOf_lookup r _ h with h1 | h1
        · rw [List.lookup_cons] at h1
          by_cases hy : (y == n) = true
          · rw [hy] at h1
            have e : y = n := by simpa using hy
            subst e
            exact .inr ⟨by rw [hc']; exact h1, List.mem_cons_self⟩
          · simp only [hy] at h1
            exact .inl h1
        · exact .inr ⟨h1.1, List.mem_cons_of_mem _ h1.2⟩
      · rcases cloOf_lookup r _ h with h1 | h1
        · exact .inl h1
        · exact .inr ⟨h1.1, List.mem_cons_of_mem _ h1.2⟩
    · rcases cloOf_lookup r _ h with h1 | h1
      · exact .inl h1
      · exact .inr ⟨h1.1, List.mem_cons_of_mem _ h1.2⟩

theorem lookup_relabel {env : Env} {y : Str} : ∀ {names : List (Str × NameKind)},
    (names.map fun (n, k) => if (k == NameKind.free && env.scope.kind == .function && env.kindOf n == some .cell) then (n, NameKind.cell) else (n, k)).lookup y =
      (names.lookup y).map fun k => if (k == NameKind.free && env.scope.kind == .function && env.kindOf y == some .cell) then NameKind.cell else k
  | [] => rfl
  | (n, k) :: r => by
    rw [List.map_cons]
    by_cases hy : (y == n) = true
    · have e : y = n := by simpa using hy
      subst e
      show List.lookup y ((if (k == NameKind.free && env.scope.kind == .function && env.kindOf y == some .cell) = true then (y, NameKind.cell) else (y, k)) :: _) = _
      by_cases hc : (k == NameKind.free && env.scope.kind == .function && env.kindOf y == some .cell) = true
      · rw [if_pos hc, List.lookup_cons, List.lookup_cons, hy]
        show some NameKind.cell = some (if _ = true then NameKind.cell else k)
        rw [if_pos hc]
      · rw [if_neg hc, List.lookup_cons, List.lookup_cons, hy]
        show some k = some (if _ = true then NameKind.cell else k)
        rw [if_neg hc]
    · have ih := lookup_relabel (env := env) (y := y) (names := r)
      have hy' : (y == n) = false := by simpa using hy
      show List.lookup y ((if (k == NameKind.free && env.scope.kind == .function && env.kindOf n == some .cell) = true then (n, NameKind.cell) else (n, k)) :: _) = _
      rw [List.lookup_cons (as := r), hy']
      by_cases hc : (k == NameKind.free && env.scope.kind == .function && env.kindOf n == some .cell) = true
      · rw [if_pos hc, List.lookup_cons, hy']; exact ih
      · rw [if_neg hc, List.lookup_cons, hy']; exact ih

/-- the names within a comprehension -/
def compρ (scope : Scope) (x : Str) (v : Value) (ρ : Str → Option Value) : Str → Option Value := fun y => if y = x then some v else if scope.names.lookup y = some .free then ρ y else none

/-- a comprehension's block that this layer serves -/
structure CompOk (env : Env) (scope : Scope) (x : Str) : Prop where
  kind : scope.kind = .function
  cells : ∀ y ∈ scope.names, y.2 ≠ .cell
  names : ∀ y ∈ scope.names, y.2 = .local → scope.names.lookup y.1 = some .local
  isLoc : scope.names.lookup x = some .local
  xf : (x, NameKind.free) ∉ scope.names
  free : ∀ y ∈ scope.names, y.2 = .free → (env.cells.lookup y.1).isSome = true ∧ env.kindOf y.1 = some .cell

abbrev cEnv (scope : Scope) (env : Env) (C : Addr) : Env := compEnvC scope (cloOf env.cells scope.names []) C env

section
variable {mg mb : Str → Option Value} {env : Env} {K : Addr → Obj → Prop} {h h₃ : Heap} {ρ : Str → Option Value} {ls : List (Addr × List Value)} {scope : Scope} {x : Str} {v : Value} {C : Addr} {m₃ : Str → Option Value}

theorem State.comp (S : State mg mb env K h ρ ls) (B : CompOk env scope x) (hk : Ext h h₃) (hn : h₃.Ns C m₃) (hm : m₃ x = some v) :
    State mg mb (cEnv scope env C) (fun b o => h₃.get? b = some o) h₃ (compρ scope x v ρ) ls where
  kind := B.kind
  gl := S.gl
  bl := S.bl
  top := let ⟨h₀, a, b⟩ := S.top; ⟨h₀, a, fun c o e => hk c o (S.kept c o (b c o e))⟩
  kept := fun _ _ e => e
  ns := ⟨m₃, hn, fun y u hy hu => by
    unfold compρ at hu
    by_cases hyx : y = x
    · subst hyx
      simp only [if_true] at hu
      rw [hm]; exact hu
    · simp only [if_neg hyx] at hu
      split at hu
      · rename_i hf
        have hy' : (relabel scope env).names.lookup y = some .local := hy
        unfold relabel at hy'
        simp only at hy'
        rw [lookup_relabel, hf] at hy'
        simp only [Option.map_some] at hy'
        split at hy' <;> cases hy'
      · cases hu⟩
  cells := fun y c e => by
    rcases cloOf_lookup _ _ e with h1 | ⟨h1, h2⟩
    · cases h1
    · obtain ⟨u, hc, hu⟩ := S.cells y c h1
      refine ⟨u, hc.keeps hk, fun w _ hw => ?_⟩
      unfold compρ at hw
      have hyx : y ≠ x := fun q => B.xf (q ▸ h2)
      simp only [if_neg hyx] at hw
      split at hw
      · exact hu w (.inl (B.free _ h2 rfl).2) hw
      · cases hw
  lists := fun p hp => (S.lists p hp).at fun o e => hk _ o e
end

/-- the tests of a comprehension -/
abbrev testsOf (ifs : List PySem.Expr) (env : Env) : Sem Bool := forIn ifs true fun c r => if r = true then do let ok ← isTrue c env (eval c env); pure (ForInStep.yield ok) else pure (ForInStep.yield r)

section
variable {prog : Program} {w : World} {A : Around} {s : Shared} {mg mb : Str → Option Value} {env : Env} {K : Addr → Obj → Prop} {ρ : Str → Option Value} {ls : List (Addr × List Value)} {scope : Scope} {x : Str} {ifs : List PySem.Expr} {elt : PySem.Expr}

def numOf : Value → Int
  | .int k _ => k
  | _ => 0

theorem paired_map {F : Value → Value → Prop} {G : Int → Value → Prop} : ∀ {l ys : List Value}, Paired F l ys → (∀ v ∈ l, ∀ y, F v y → G (numOf v) y) → Paired G (l.map numOf) ys
  | _, _, .nil, _ => .nil
  | _, _, .cons hd tl, h => .cons (h _ List.mem_cons_self _ hd) (paired_map tl fun v hv => h v (List.mem_cons_of_mem _ hv))

theorem filter_map_num (q : Int → Bool) : ∀ (l : List Value), (l.filter fun v => q (numOf v)).map numOf = (l.map numOf).filter q
  | [] => rfl
  | v :: r => by
    rw [List.filter_cons, List.map_cons, List.filter_cons]
    split
    · rw [List.map_cons, filter_map_num q r]
    · exact filter_map_num q r

/-- the ints of a range -/
def rng (a c : Int) (n : Nat) : List Int := (List.range n).map fun (i : Nat) => a + (i : Int) * c

theorem nums_of_walk {a c : Int} {n : Nat} {vs : List Value} (hlen : vs.length = n) (hP : ∀ (j : Nat) (v : Value), vs[j]? = some v → ∃ t, v = .int (a + (j : Int) * c) t) : vs.map numOf = rng a c n := by
  subst hlen
  apply List.ext_getElem
  · simp [rng]
  · intro j h1 h2
    simp only [List.length_map] at h1
    obtain ⟨t, e⟩ := hP j vs[j] (by simp [h1])
    simp [rng, e, numOf]

theorem quiet {P : Nat → Value → Prop} {p : Value → Bool} {F : Value → Value → Prop} {o : Obj} (S : State mg mb env K s.heap ρ ls) (B : CompOk env scope x)
    (tests : ∀ C i v s₃, P i v → Ext s.heap s₃.heap → State mg mb (cEnv scope env C) (fun b o => s₃.heap.get? b = some o) s₃.heap (compρ scope x v ρ) ls →
      wpAny (model prog w) A (testsOf ifs (cEnv scope env C)) (fun ok s₄ => ok = p v ∧ Keeps s₃ s₄) Never s₃)
    (helt : ∀ C i v s₃, P i v → p v = true → Ext s.heap s₃.heap → State mg mb (cEnv scope env C) (fun b o => s₃.heap.get? b = some o) s₃.heap (compρ scope x v ρ) ls →
      wpAny (model prog w) A (eval elt (cEnv scope env C)) (fun y s₄ => F v y ∧ Keeps s₃ s₄) Never s₃) :
    QuietOnC prog w A env scope (cloOf env.cells scope.names []) x ifs elt [s.heap.objs.size] P p F { s with heap := s.heap.push o } := by
  have hfree : ∀ b o, s.heap.get? b = some o → b ∉ [s.heap.objs.size] := fun b o e hb => by rw [List.mem_singleton.mp hb] at e; rw [fresh_size] at e; cases e
  refine ⟨fun C i v s₃ m₃ E' hC hP hns hm hk htk => ?_, fun C i v s₃ m₃ E' hC hP hp hns hm hk htk => ?_⟩
  all_goals
    have hx : Ext s.heap s₃.heap := fun b o e => hk b o (hfree b o e) (Heap.get?_push_of_some _ e)
  · exact never (tests C i v s₃ hP hx (S.comp B hx hns hm))
  · exact never (helt C i v s₃ hP hp hx (S.comp B hx hns hm))

theorem fresh_of {h : Heap} {o : Obj} {D : Addr} (e : (h.push o).get? D = none) : h.get? D = none := by
  cases q : h.get? D with
  | none => rfl
  | some o' => rw [Heap.get?_push_of_some _ q] at e; cases e
theorem kept_of {h h' : Heap} {o : Obj} (hk : ∀ b o', b ∉ [h.objs.size] → (h.push o).get? b = some o' → h'.get? b = some o') : Ext h h' := fun b o' e =>
  hk b o' (fun hb => by rw [List.mem_singleton.mp hb] at e; rw [fresh_size] at e; cases e) (Heap.get?_push_of_some _ e)

/-- what a comprehension asks of its source's iterator -/
def CGoal (prog : Program) (w : World) (A : Around) (env : Env) (scope : Scope) (x : Str) (ifs : List PySem.Expr) (elt : PySem.Expr) (p : Value → Bool) (F : Value → Value → Prop) (Q : Value → Shared → Prop) (it : Value) (s₂ : Shared) : Prop :=
  ∃ I fp wr n P St, it = .ref I ∧ Walks prog w A I fp wr n P St ∧ n ≤ sizeLine ∧ St 0 s₂.heap ∧ (∀ b ∈ fp, b < s₂.heap.objs.size) ∧
      QuietOnC prog w A env scope (cloOf env.cells scope.names []) x ifs elt wr P p F s₂ ∧
      (∀ D h' tk ys (vs : List Value), s₂.heap.get? D = none → h'.IsList D ys → h'.PlainList D ys → vs.length = n → (∀ j v, vs[j]? = some v → P j v) → Paired F (vs.filter p) ys.toList →
        (∀ b o, b ∉ wr → s₂.heap.get? b = some o → h'.get? b = some o) → Q (.ref D) { s₂ with heap := h', toks := tk })
def CGoalA (prog : Program) (w : World) (A : Around) (env : Env) (scope : Scope) (x : Str) (ifs : List PySem.Expr) (elt : PySem.Expr) (p : Value → Bool) (F : Value → Value → Prop) (y : Str) (Q : Flow → Shared → Prop) (it : Value) (s₂ : Shared) : Prop :=
  ∃ I fp wr n P St m, it = .ref I ∧ Walks prog w A I fp wr n P St ∧ n ≤ sizeLine ∧ St 0 s₂.heap ∧ (∀ b ∈ fp, b < s₂.heap.objs.size) ∧
      env.locals ∉ wr ∧ s₂.heap.Ns env.locals m ∧ QuietOnC prog w A env scope (cloOf env.cells scope.names []) x ifs elt wr P p F s₂ ∧
      (∀ D h' tk ys (vs : List Value), s₂.heap.get? D = none → h'.IsList D ys → h'.PlainList D ys → vs.length = n → (∀ j v, vs[j]? = some v → P j v) → Paired F (vs.filter p) ys.toList →
        h'.Ns env.locals (fun z => if z = y then some (.ref D) else m z) → (∀ b o, b ≠ env.locals → b ∉ wr → s₂.heap.get? b = some o → h'.get? b = some o) → Q .next { s₂ with heap := h', toks := tk })

/-- a comprehension over a range, behind its source -/
theorem comp_range {r : Addr} {a b c : Int} {t u v : Tok} {n : Nat} {Q : Value → Shared → Prop} {E : Value → Shared → Prop} (q : Int → Bool) (G : Int → Value → Prop)
    (hh : A.handled = none) (hr : IsRange s.heap r a b c t u v) (hsmall : Builtin.Range.small a b c = true) (hn : Builtin.Range.rangeSize a b c = (n : Int)) (hsz : n ≤ sizeLine)
    (S : State mg mb env K s.heap ρ ls) (B : CompOk env scope x)
    (tests : ∀ C k t s₃, k ∈ rng a c n → Ext s.heap s₃.heap → State mg mb (cEnv scope env C) (fun b o => s₃.heap.get? b = some o) s₃.heap (compρ scope x (.int k t) ρ) ls →
      wpAny (model prog w) A (testsOf ifs (cEnv scope env C)) (fun ok s₄ => ok = q k ∧ Keeps s₃ s₄) Never s₃)
    (helt : ∀ C k t s₃, k ∈ rng a c n → q k = true → Ext s.heap s₃.heap → State mg mb (cEnv scope env C) (fun b o => s₃.heap.get? b = some o) s₃.heap (compρ scope x (.int k t) ρ) ls →
      wpAny (model prog w) A (eval elt (cEnv scope env C)) (fun y s₄ => G k y ∧ Keeps s₃ s₄) Never s₃)
    (done : ∀ D h' tk ys, Ext s.heap h' → s.heap.get? D = none → h'.PlainList D ys.toArray → Paired G ((rng a c n).filter q) ys → Q (.ref D) { s with heap := h', toks := tk }) :
    wpAny (model prog w) A (pyIter (.ref r)) (fun it s₂ => CGoal prog w A env scope x ifs elt (fun v => q (numOf v)) (fun v y => G (numOf v) y) Q it s₂) E s := by
  refine wpAny_pyIter_range hr hsmall ?_
  refine ⟨s.heap.objs.size, [s.heap.objs.size], [s.heap.objs.size], n, fun i v => i < n ∧ ∃ t, v = .int (a + (i : Int) * c) t, _, rfl, (Walks.range (prog := prog) (w := w) hh s.heap.objs.size a c n).bound, hsz, ?_, ?_, ?_, ?_⟩
  · show IsRangeIter _ _ _ _ _
    rw [hn]
    simpa using Heap.get?_push_size _ rfl
  · intro b hb
    rw [List.mem_singleton.mp hb]
    show _ < (s.heap.push _).objs.size
    rw [Heap.size_push]; exact Nat.lt_succ_self _
  · refine quiet S B ?_ ?_
    · rintro C i v s₃ ⟨hi, t, rfl⟩ hx S'
      exact tests C _ t s₃ (List.mem_map.mpr ⟨i, List.mem_range.mpr hi, rfl⟩) hx S'
    · rintro C i v s₃ ⟨hi, t, rfl⟩ hp hx S'
      exact helt C _ t s₃ (List.mem_map.mpr ⟨i, List.mem_range.mpr hi, rfl⟩) hp hx S'
  · intro D h' tk ys vs hD hl hpl hlen hP hF hk
    refine done D h' tk ys.toList (kept_of hk) (fresh_of hD) (by simpa using hpl) ?_
    have := paired_map (G := G) hF fun v hv y hy => hy
    rw [filter_map_num, nums_of_walk hlen fun j v hv => (hP j v hv).2] at this
    exact this

/-- the same, stored at once under a name of the frame -/
theorem comp_rangeA {y : Str} {r : Addr} {a b c : Int} {t u v : Tok} {n : Nat} {Q : Flow → Shared → Prop} {E : Value → Shared → Prop} (q : Int → Bool) (G : Int → Value → Prop)
    (hh : A.handled = none) (hr : IsRange s.heap r a b c t u v) (hsmall : Builtin.Range.small a b c = true) (hn : Builtin.Range.rangeSize a b c = (n : Int)) (hsz : n ≤ sizeLine)
    (S : State mg mb env K s.heap ρ ls) (O : Off env K) (hy : env.kindOf y = some .local) (B : CompOk env scope x)
    (tests : ∀ C k t s₃, k ∈ rng a c n → Ext s.heap s₃.heap → State mg mb (cEnv scope env C) (fun b o => s₃.heap.get? b = some o) s₃.heap (compρ scope x (.int k t) ρ) ls →
      wpAny (model prog w) A (testsOf ifs (cEnv scope env C)) (fun ok s₄ => ok = q k ∧ Keeps s₃ s₄) Never s₃)
    (helt : ∀ C k t s₃, k ∈ rng a c n → q k = true → Ext s.heap s₃.heap → State mg mb (cEnv scope env C) (fun b o => s₃.heap.get? b = some o) s₃.heap (compρ scope x (.int k t) ρ) ls →
      wpAny (model prog w) A (eval elt (cEnv scope env C)) (fun y s₄ => G k y ∧ Keeps s₃ s₄) Never s₃)
    (done : ∀ D h' tk ys, s.heap.get? D = none → h'.PlainList D ys.toArray → Paired G ((rng a c n).filter q) ys → State mg mb env K h' (upd ρ y (.ref D)) ls → Q .next { s with heap := h', toks := tk }) :
    wpAny (model prog w) A (pyIter (.ref r)) (fun it s₂ => CGoalA prog w A env scope x ifs elt (fun v => q (numOf v)) (fun v y => G (numOf v) y) y Q it s₂) E s := by
  refine wpAny_pyIter_range hr hsmall ?_
  obtain ⟨m, hns, hm⟩ := S.ns
  refine ⟨s.heap.objs.size, [s.heap.objs.size], [s.heap.objs.size], n, fun i v => i < n ∧ ∃ t, v = .int (a + (i : Int) * c) t, _, m, rfl, (Walks.range (prog := prog) (w := w) hh s.heap.objs.size a c n).bound, hsz, ?_, ?_, ?_, hns.push _, ?_, ?_⟩
  · show IsRangeIter _ _ _ _ _
    rw [hn]
    simpa using Heap.get?_push_size _ rfl
  · intro b hb
    rw [List.mem_singleton.mp hb]
    show _ < (s.heap.push _).objs.size
    rw [Heap.size_push]; exact Nat.lt_succ_self _
  · intro hb
    exact absurd hns.lt (by rw [List.mem_singleton.mp hb]; exact Nat.lt_irrefl _)
  · refine quiet S B ?_ ?_
    · rintro C i v s₃ ⟨hi, t, rfl⟩ hx S'
      exact tests C _ t s₃ (List.mem_map.mpr ⟨i, List.mem_range.mpr hi, rfl⟩) hx S'
    · rintro C i v s₃ ⟨hi, t, rfl⟩ hp hx S'
      exact helt C _ t s₃ (List.mem_map.mpr ⟨i, List.mem_range.mpr hi, rfl⟩) hp hx S'
  · intro D h' tk ys vs hD hl hpl hlen hP hF hns' hk
    have hF' := paired_map (G := G) hF fun v hv y hy => hy
    rw [filter_map_num, nums_of_walk hlen fun j v hv => (hP j v hv).2] at hF'
    refine done D h' tk ys.toList (fresh_of hD) (by simpa using hpl) hF' (S.setLocal O hns hm hy hns' fun b o hb e => hk b o hb (fun hb' => ?_) (Heap.get?_push_of_some _ e))
    rw [List.mem_singleton.mp hb', fresh_size] at e; cases e

/-- a comprehension over a list, behind its source -/
theorem comp_list {l : Addr} {vs : List Value} {Q : Value → Shared → Prop} {E : Value → Shared → Prop} (p : Value → Bool) (F : Value → Value → Prop)
    (hh : A.handled = none) (hl : s.heap.IsList l vs.toArray) (hsz : vs.length ≤ sizeLine)
    (S : State mg mb env K s.heap ρ ls) (B : CompOk env scope x)
    (tests : ∀ C v s₃, v ∈ vs → Ext s.heap s₃.heap → State mg mb (cEnv scope env C) (fun b o => s₃.heap.get? b = some o) s₃.heap (compρ scope x v ρ) ls →
      wpAny (model prog w) A (testsOf ifs (cEnv scope env C)) (fun ok s₄ => ok = p v ∧ Keeps s₃ s₄) Never s₃)
    (helt : ∀ C v s₃, v ∈ vs → p v = true → Ext s.heap s₃.heap → State mg mb (cEnv scope env C) (fun b o => s₃.heap.get? b = some o) s₃.heap (compρ scope x v ρ) ls →
      wpAny (model prog w) A (eval elt (cEnv scope env C)) (fun y s₄ => F v y ∧ Keeps s₃ s₄) Never s₃)
    (done : ∀ D h' tk ys, Ext s.heap h' → s.heap.get? D = none → h'.PlainList D ys.toArray → Paired F (vs.filter p) ys → Q (.ref D) { s with heap := h', toks := tk }) :
    wpAny (model prog w) A (pyIter (.ref l)) (fun it s₂ => CGoal prog w A env scope x ifs elt p F Q it s₂) E s := by
  refine wpAny_pyIter_list hl ?_
  obtain ⟨ol, hol, hcl, nl, hdl⟩ := id hl
  have hlt : l < s.heap.objs.size := Heap.lt_size hol
  refine ⟨s.heap.objs.size, [s.heap.objs.size, l], [s.heap.objs.size], vs.toArray.size, fun i v => vs.toArray[i]? = some v, _, rfl, Walks.list (prog := prog) (w := w) hh s.heap.objs.size l (Nat.ne_of_lt hlt) vs.toArray, by simpa using hsz, ?_, ?_, ?_, ?_⟩
  · exact ⟨⟨_, Heap.get?_push_size _ rfl, rfl, rfl⟩, hl.push _⟩
  · intro b hb
    show _ < (s.heap.push _).objs.size
    rw [Heap.size_push]
    rcases List.mem_cons.mp hb with rfl | hb
    · exact Nat.lt_succ_self _
    · rw [List.mem_singleton.mp hb]; exact Nat.lt_succ_of_lt hlt
  · refine quiet S B ?_ ?_
    · intro C i v s₃ hP hx S'
      exact tests C v s₃ (List.mem_of_getElem? (by simpa using hP)) hx S'
    · intro C i v s₃ hP hp hx S'
      exact helt C v s₃ (List.mem_of_getElem? (by simpa using hP)) hp hx S'
  · intro D h' tk ys us hD hl' hpl hlen hP hF hk
    have e : us = vs := list_of_places (items := vs.toArray) hlen hP
    subst e
    exact done D h' tk ys.toList (kept_of hk) (fresh_of hD) (by simpa using hpl) hF

theorem comp_listA {y : Str} {l : Addr} {vs : List Value} {Q : Flow → Shared → Prop} {E : Value → Shared → Prop} (p : Value → Bool) (F : Value → Value → Prop)
    (hh : A.handled = none) (hl : s.heap.IsList l vs.toArray) (hsz : vs.length ≤ sizeLine)
    (S : State mg mb env K s.heap ρ ls) (O : Off env K) (hy : env.kindOf y = some .local) (B : CompOk env scope x)
    (tests : ∀ C v s₃, v ∈ vs → Ext s.heap s₃.heap → State mg mb (cEnv scope env C) (fun b o => s₃.heap.get? b = some o) s₃.heap (compρ scope x v ρ) ls →
      wpAny (model prog w) A (testsOf ifs (cEnv scope env C)) (fun ok s₄ => ok = p v ∧ Keeps s₃ s₄) Never s₃)
    (helt : ∀ C v s₃, v ∈ vs → p v = true → Ext s.heap s₃.heap → State mg mb (cEnv scope env C) (fun b o => s₃.heap.get? b = some o) s₃.heap (compρ scope x v ρ) ls →
      wpAny (model prog w) A (eval elt (cEnv scope env C)) (fun y s₄ => F v y ∧ Keeps s₃ s₄) Never s₃)
    (done : ∀ D h' tk ys, s.heap.get? D = none → h'.PlainList D ys.toArray → Paired F (vs.filter p) ys → State mg mb env K h' (upd ρ y (.ref D)) ls → Q .next { s with heap := h', toks := tk }) :
    wpAny (model prog w) A (pyIter (.ref l)) (fun it s₂ => CGoalA prog w A env scope x ifs elt p F y Q it s₂) E s := by
  refine wpAny_pyIter_list hl ?_
  obtain ⟨ol, hol, hcl, nl, hdl⟩ := id hl
  obtain ⟨m, hns, hm⟩ := S.ns
  have hlt : l < s.heap.objs.size := Heap.lt_size hol
  refine ⟨s.heap.objs.size, [s.heap.objs.size, l], [s.heap.objs.size], vs.toArray.size, fun i v => vs.toArray[i]? = some v, _, m, rfl, Walks.list (prog := prog) (w := w) hh s.heap.objs.size l (Nat.ne_of_lt hlt) vs.toArray, by simpa using hsz, ?_, ?_, ?_, hns.push _, ?_, ?_⟩
  · exact ⟨⟨_, Heap.get?_push_size _ rfl, rfl, rfl⟩, hl.push _⟩
  · intro b hb
    show _ < (s.heap.push _).objs.size
    rw [Heap.size_push]
    rcases List.mem_cons.mp hb with rfl | hb
    · exact Nat.lt_succ_self _
    · rw [List.mem_singleton.mp hb]; exact Nat.lt_succ_of_lt hlt
  · intro hb
    exact absurd hns.lt (by rw [List.mem_singleton.mp hb]; exact Nat.lt_irrefl _)
  · refine quiet S B ?_ ?_
    · intro C i v s₃ hP hx S'
      exact tests C v s₃ (List.mem_of_getElem? (by simpa using hP)) hx S'
    · intro C i v s₃ hP hp hx S'
      exact helt C v s₃ (List.mem_of_getElem? (by simpa using hP)) hp hx S'
  · intro D h' tk ys us hD hl' hpl hlen hP hF hns' hk
    have e : us = vs := list_of_places (items := vs.toArray) hlen hP
    subst e
    refine done D h' tk ys.toList (fresh_of hD) (by simpa using hpl) hF (S.setLocal O hns hm hy hns' fun b o hb e => hk b o hb (fun hb' => ?_) (Heap.get?_push_of_some _ e))
    rw [List.mem_singleton.mp hb', fresh_size] at e; cases e
end

theorem iteT {P Q : Prop} {b : Bool} (h : P) (hb : b = true) : if b = true then P else Q := by rw [if_pos hb]; exact h
theorem iteF {P Q : Prop} {b : Bool} (h : Q) (hb : b = false) : if b = true then P else Q := by rw [if_neg (by rw [hb]; exact Bool.false_ne_true)]; exact h

section
variable {M : Model} {A : Around} {E : Value → Shared → Prop} {s : Shared} {mg mb : Str → Option Value} {env : Env} {K : Addr → Obj → Prop} {ρ : Str → Option Value} {ls : List (Addr × List Value)}
theorem loadL {x : Str} {v : Value} {Q : Value → Shared → Prop} (S : State mg mb env K s.heap ρ ls) (hl : env.kindOf x = some .local) (hv : ρ x = some v) (h : Q v s) : wpAny M A (loadName env x) Q E s :=
  let ⟨_, a, b⟩ := S.ns
  wpAny_loadName_local S.kind hl a (b x v hl hv) h
theorem loadC {x : Str} {c : Addr} {v : Value} {Q : Value → Shared → Prop} (S : State mg mb env K s.heap ρ ls) (hl : env.kindOf x = some .cell) (hc : env.cells.lookup x = some c) (hv : ρ x = some v) (h : Q v s) : wpAny M A (loadName env x) Q E s := by
  obtain ⟨u, a, b⟩ := S.cells x c hc
  rw [b v (.inl hl) hv] at a
  exact wpAny_loadName_cell S.kind hl hc a h
end

/-- a text of such signs -/
abbrev Tx (cs : List Nat) : Str := ⟨cs.toArray⟩
theorem tx_len (cs : List Nat) : (Tx cs).length = cs.length := by simp [Str.length]
theorem tx_list (cs : List Nat) : (Tx cs).cps.toList = cs := by simp

section
variable {prog : Program} {w : World} {A : Around} {E : Value → Shared → Prop} {s : Shared}

theorem setItemL {l : Addr} {vs : List Value} {k : Int} {t : Tok} {v : Value} {Q : Unit → Shared → Prop} (hl : s.heap.PlainList l vs.toArray) (h0 : 0 ≤ k) (hfit : k < 2 ^ 63) (hn : k < vs.length)
    (h : ∀ h', h'.PlainList l (vs.set k.toNat v).toArray → Heap.SameBut l s.heap h' → Q () { s with heap := h' }) : wpAny (model prog w) A (setItem (.ref l) (.int k t) v) Q E s := by
  obtain ⟨n, ho⟩ := hl
  refine ki_setAt (n := n) ho h0 hfit (by simpa using hn) (h _ ⟨n, ?_⟩ (Heap.SameBut.update ..))
  have e : Obj.mapSeq (·.setIfInBounds k.toNat v) { cls := .type "list", data := .seq vs.toArray n } = { cls := .type "list", data := .seq (vs.set k.toNat v).toArray n } := by
    simp [Obj.mapSeq]
  rw [← e]
  exact Heap.get?_update_self _ ho (by rw [e]; rfl)

theorem appendMeth {l : Addr} {vs : List Value} {pl : Sem Bool} {Q : Value × List Value → Shared → Prop} (hl : s.heap.PlainList l vs.toArray) (h : Q (.builtin "list.append", [.ref l]) s) :
    wpAny (model prog w) A (getMethod (.ref l) "append" pl) Q E s := by
  obtain ⟨n, ho⟩ := hl
  refine getMethod_builtin (T := "list") ⟨_, ho, rfl⟩ F.plainAttrs_list slot_list_append ?_ (fun a e => by cases e; exact ⟨_, ho, rfl⟩) h
  show builtinType _ = _
  rw [builtinType_eq_fast]; kernel_rfl

theorem appendL {l : Addr} {vs : List Value} {v : Value} {Q : Value → Shared → Prop} (hl : s.heap.PlainList l vs.toArray) (hsz : vs.length ≤ sizeLine)
    (h : ∀ h', h'.PlainList l (vs ++ [v]).toArray → Heap.SameBut l s.heap h' → Q .none { s with heap := h' }) : wpAny (model prog w) A (call (.builtin "list.append") [.ref l, v]) Q E s := by
  refine wpAny_list_append_plain hl (fun h' hp hs => h h' ?_ hs) (by simpa using hsz)
  simpa using hp

theorem strItem {value slice : PySem.Expr} {cs : List Nat} {t u : Tok} {i : Int} {c : Nat} {Q : Value → Shared → Prop} (h0 : 0 ≤ i) (hc : cs[i.toNat]? = some c) (hfit : i < 2 ^ 63)
    (h : ∀ t', Q (.str (Tx [c]) t') { s with toks := s.toks + 1 })
    (hs : subscripted slice false (.str (Tx cs) t) (.int i u) = operate [.str (Tx cs) t, .int i u] (getItem (.str (Tx cs) t) (.int i u)) := by with_unfolding_all rfl)
    (ht : ∀ r, letTemporaryGo value (.str (Tx cs) t) r = pure () := by intro _; with_unfolding_all rfl) :
    wpAny (model prog w) A (subscriptTail value slice (.str (Tx cs) t) (.int i u)) Q E s := by
  have hlt : i.toNat < cs.length := (List.getElem?_eq_some_iff.mp hc).1
  refine item_str (by simp [fitsSsize]; omega) (by rw [tx_len]; omega) (by rw [tx_len]; omega) (fun _ => ?_) hs ht
  rw [item_meets (n := c) h0 (by simpa using hc)]
  exact h _

theorem strItemNeg {value slice : PySem.Expr} {cs : List Nat} {t u : Tok} {i : Int} {c : Nat} {Q : Value → Shared → Prop} (h0 : i < 0) (h1 : -(cs.length : Int) ≤ i) (hc : cs[(i + cs.length).toNat]? = some c) (hfit : -2 ^ 63 ≤ i)
    (h : ∀ t', Q (.str (Tx [c]) t') { s with toks := s.toks + 1 })
    (hs : subscripted slice false (.str (Tx cs) t) (.int i u) = operate [.str (Tx cs) t, .int i u] (getItem (.str (Tx cs) t) (.int i u)) := by with_unfolding_all rfl)
    (ht : ∀ r, letTemporaryGo value (.str (Tx cs) t) r = pure () := by intro _; with_unfolding_all rfl) :
    wpAny (model prog w) A (subscriptTail value slice (.str (Tx cs) t) (.int i u)) Q E s := by
  refine item_str (by simp [fitsSsize]; omega) (by rw [tx_len]; omega) (by rw [tx_len]; omega) (fun _ => ?_) hs ht
  have e := item_closes_neg (x := Tx cs) (i := i) (j := i + cs.length) h0 (by rw [tx_len]; exact h1) (by rw [tx_len])
  have e' : Txt.item (Tx cs) i = ⟨#[c]⟩ := by
    have := beq_iff_eq.mp e
    rw [this]
    congr 1
    simp [Array.getD_eq_getD_getElem?, hc]
  rw [e']
  exact h _

theorem strFrom {value slice : PySem.Expr} {cs : List Nat} {t u : Tok} {i : Int} {Q : Value → Shared → Prop} (h0 : 0 ≤ i) (h1 : i ≤ cs.length) (hsz : cs.length ≤ sizeLine)
    (h : ∀ t' h' tk, Ext s.heap h' → Q (.str (Tx (cs.drop i.toNat)) t') { s with heap := h', toks := tk })
    (hs : subscripted slice false (.str (Tx cs) t) (.ref s.heap.objs.size) = operate [.ref s.heap.objs.size, .str (Tx cs) t] (getItem (.str (Tx cs) t) (.ref s.heap.objs.size)) := by with_unfolding_all rfl)
    (ht : ∀ r, letTemporaryGo value (.str (Tx cs) t) r = pure () := by intro _; with_unfolding_all rfl) :
    wpAny (model prog w) A (subscriptTail value slice (.str (Tx cs) t) (.ref s.heap.objs.size)) Q E { s with heap := s.heap.push { cls := .type "slice", data := .fields #[.int i u, .none, .none] } } := by
  refine tail_of_ItemOn (SBH.sliceItem_sn (P := fun h' => Ext s.heap h') (fun h ob hp b o e => Heap.get?_push_of_some _ (hp b o e)) (Ext.refl _) (fun h' t' k hx => ?_) (by rw [tx_len]; exact hsz)) hs ht
  rw [slice_from_eq (b := cs.length) h0 (by rw [tx_len]; exact h1) (by rw [tx_len])]
  have e : ((Tx cs).cps.toList.drop i.toNat).take ((cs.length : Int) - i).toNat = cs.drop i.toNat := by
    rw [tx_list]
    apply List.take_of_length_le
    simp; omega
  rw [e]
  exact h t' h' k hx

theorem strTo {value slice : PySem.Expr} {cs : List Nat} {t u : Tok} {i : Int} {Q : Value → Shared → Prop} (h0 : i < 0) (h1 : -(cs.length : Int) ≤ i) (hsz : cs.length ≤ sizeLine)
    (h : ∀ t' h' tk, Ext s.heap h' → Q (.str (Tx (cs.take (i + cs.length).toNat)) t') { s with heap := h', toks := tk })
    (hs : subscripted slice false (.str (Tx cs) t) (.ref s.heap.objs.size) = operate [.ref s.heap.objs.size, .str (Tx cs) t] (getItem (.str (Tx cs) t) (.ref s.heap.objs.size)) := by with_unfolding_all rfl)
    (ht : ∀ r, letTemporaryGo value (.str (Tx cs) t) r = pure () := by intro _; with_unfolding_all rfl) :
    wpAny (model prog w) A (subscriptTail value slice (.str (Tx cs) t) (.ref s.heap.objs.size)) Q E { s with heap := s.heap.push { cls := .type "slice", data := .fields #[.none, .int i u, .none] } } := by
  refine tail_of_ItemOn (SBH.sliceItem_ns (P := fun h' => Ext s.heap h') (fun h ob hp b o e => Heap.get?_push_of_some _ (hp b o e)) (Ext.refl _) (fun h' t' k hx => ?_) (by rw [tx_len]; exact hsz)) hs ht
  have e := beq_iff_eq.mp (slice_closes_to_neg (x := Tx cs) (j := i) (k := i + cs.length) h0 (by rw [tx_len]; exact h1) (by rw [tx_len]))
  rw [e]
  have e2 : ((Tx cs).cps.toList.drop (0 : Int).toNat).take (i + (cs.length : Int) - 0).toNat = cs.take (i + cs.length).toNat := by
    rw [tx_list]; simp
  rw [e2]
  exact h t' h' k hx

theorem strAll {value slice : PySem.Expr} {cs : List Nat} {t : Tok} {Q : Value → Shared → Prop} (hsz : cs.length ≤ sizeLine)
    (h : ∀ t' h' tk, Ext s.heap h' → Q (.str (Tx cs) t') { s with heap := h', toks := tk })
    (hs : subscripted slice false (.str (Tx cs) t) (.ref s.heap.objs.size) = operate [.ref s.heap.objs.size, .str (Tx cs) t] (getItem (.str (Tx cs) t) (.ref s.heap.objs.size)) := by with_unfolding_all rfl)
    (ht : ∀ r, letTemporaryGo value (.str (Tx cs) t) r = pure () := by intro _; with_unfolding_all rfl) :
    wpAny (model prog w) A (subscriptTail value slice (.str (Tx cs) t) (.ref s.heap.objs.size)) Q E { s with heap := s.heap.push { cls := .type "slice", data := .fields #[.none, .none, .none] } } := by
  refine tail_of_ItemOn (SBH.sliceItem_nn (P := fun h' => Ext s.heap h') (fun h ob hp b o e => Heap.get?_push_of_some _ (hp b o e)) (Ext.refl _) (fun h' t' k hx => ?_) (by rw [tx_len]; exact hsz)) hs ht
  have e : Txt.slice (Tx cs) none none = Tx cs := by
    unfold Txt.slice
    rw [if_pos]
    have e0 : (Builtin.Str.strSliceIndices none none 1 (Tx cs).length).length = (Tx cs).length := by
      unfold Builtin.Str.strSliceIndices sliceRange
      simp
      omega
    simp [e0]
  rw [e]
  exact h t' h' k hx

theorem lenStr {cs : List Nat} {t : Tok} {Q : Value → Shared → Prop} (hsz : cs.length ≤ sizeLine) (h : ∀ t' tk, Q (.int cs.length t') { s with toks := tk }) : wpAny (model prog w) A (call (.builtin "len") [.str (Tx cs) t]) Q E s := by
  have e := sizeLine_eq
  refine P.len_str (by rw [tx_len]; omega) ?_
  rw [tx_len]; exact h _ _
theorem truthyStr {cs : List Nat} {t : Tok} {Q : Bool → Shared → Prop} (hsz : cs.length ≤ sizeLine) (h : ∀ tk, Q (!cs.isEmpty) { s with toks := tk }) : wpAny (model prog w) A (truthy (.str (Tx cs) t)) Q E s := by
  have e := sizeLine_eq
  refine P.truthy_str (by rw [tx_len]; omega) ?_
  rw [tx_len]
  have e2 : ((cs.length : Int) != 0) = !cs.isEmpty := by cases cs <;> simp; omega
  rw [e2]; exact h _
theorem eqStr {cs ds : List Nat} {t u : Tok} {Q : Value → Shared → Prop} (h : Q (.bool (decide (cs = ds))) s) : wpAny (model prog w) A (compareOp .Eq (.str (Tx cs) t) (.str (Tx ds) u)) Q E s := by
  refine P.eq_str ?_
  rw [tx_list, tx_list]
  have e : (cs == ds) = decide (cs = ds) := by
    by_cases hq : cs = ds
    · simp [hq]
    · simp [hq]
  rw [e]; exact h

theorem lenList {l : Addr} {vs : List Value} {Q : Value → Shared → Prop} (hl : s.heap.IsList l vs.toArray) (hsz : vs.length ≤ sizeLine) (h : ∀ t tk, Q (.int vs.length t) { s with toks := tk }) : wpAny (model prog w) A (call (.builtin "len") [.ref l]) Q E s := by
  have e := sizeLine_eq
  refine len_list hl (by simp; omega) ?_
  simp only [List.size_toArray]
  exact h _ _

theorem min2 {a b : Int} {t u : Tok} {Q : Value → Shared → Prop} (hh : A.handled = none) (h : ∀ t' h' tk, Ext s.heap h' → Q (.int (min a b) t') { s with heap := h', toks := tk }) :
    wpAny (model prog w) A (call (.builtin "min") [.int a t, .int b u]) Q E s := by
  refine min_two_ints hh fun h' tk hk => ?_
  by_cases hb : b < a
  · rw [if_pos hb, ← show min a b = b by omega]; exact h _ _ _ hk
  · rw [if_neg hb]; have e : a = min a b := by omega
    have := h t h' tk hk
    rwa [← e] at this
theorem min3 {a b c : Int} {t u x : Tok} {Q : Value → Shared → Prop} (hh : A.handled = none) (h : ∀ t' h' tk, Ext s.heap h' → Q (.int (min (min a b) c) t') { s with heap := h', toks := tk }) :
    wpAny (model prog w) A (call (.builtin "min") [.int a t, .int b u, .int c x]) Q E s := by
  refine min_three_ints hh fun h' tk hk => ?_
  have hq : ∀ (v : Int) (t' : Tok), v = min (min a b) c → Q (.int v t') { s with heap := h', toks := tk } := fun v t' e => by rw [e]; exact h t' h' tk hk
  split
  · split
    · exact hq _ _ (by omega)
    · exact hq _ _ (by omega)
  · split
    · exact hq _ _ (by omega)
    · exact hq _ _ (by omega)
end

/-- names with their values -/
def Has (ρ : Str → Option Value) (bs : List (Str × Value)) : Prop := ∀ p ∈ bs, ρ p.1 = some p.2
theorem has_nil {ρ : Str → Option Value} : Has ρ [] := fun _ h => nomatch h
theorem has_cons {ρ : Str → Option Value} {x : Str} {v : Value} {bs : List (Str × Value)} (h : ρ x = some v) (H : Has ρ bs) : Has ρ ((x, v) :: bs) := fun p hp => by
  rcases List.mem_cons.mp hp with rfl | hp
  · exact h
  · exact H p hp
theorem Has.upd {ρ : Str → Option Value} {x : Str} {v : Value} {bs : List (Str × Value)} (H : Has ρ bs) (hx : x ∉ bs.map (·.1)) : Has (upd ρ x v) ((x, v) :: bs) := fun p hp => by
  rcases List.mem_cons.mp hp with rfl | hp
  · simp [Mine.upd]
  · have : p.1 ≠ x := fun e => hx (List.mem_map.mpr ⟨p, hp, e⟩)
    simp only [Mine.upd, if_neg this]
    exact H p hp
theorem State.has {mg mb : Str → Option Value} {env : Env} {K : Addr → Obj → Prop} {h : Heap} {ρ : Str → Option Value} {ls : List (Addr × List Value)} {bs : List (Str × Value)} (S : State mg mb env K h ρ ls) (H : Has ρ bs) :
    State mg mb env K h (fun x => bs.lookup x) ls := S.names fun x v hv => H (x, v) (mem_of_lookup hv)

theorem rs_up {a b : Int} (h : a ≤ b) : Builtin.Range.rangeSize a b 1 = ((b - a).toNat : Int) := by
  unfold Builtin.Range.rangeSize
  simp only [show (1 : Int) > 0 by decide, if_true]
  split <;> omega
theorem rs_down {a : Int} (h : -1 ≤ a) : Builtin.Range.rangeSize a (-1) (-1) = ((a + 1).toNat : Int) := by
  unfold Builtin.Range.rangeSize
  simp only [show ¬ ((-1 : Int) > 0) by decide, if_false]
  split
  · have e : (a - -1 - 1) / (- -1) = a := by simp
    rw [e]; omega
  · omega
theorem small_up {a b : Int} (h0 : 0 ≤ a) (h : a ≤ b) (hb : b < 1000000) : Builtin.Range.small a b 1 = true := by
  unfold Builtin.Range.small
  rw [rs_up h]
  simp [Builtin.Range.rangeFitsLong]
  omega
theorem small_down {a : Int} (h : -1 ≤ a) (hb : a < 1000000) : Builtin.Range.small a (-1) (-1) = true := by
  unfold Builtin.Range.small
  rw [rs_down h]
  simp [Builtin.Range.rangeFitsLong]
  omega

section
variable {prog : Program} {w : World} {A : Around} {E : Value → Shared → Prop} {s : Shared}
theorem range1 {b : Int} {u : Tok} {Q : Value → Shared → Prop} (h : ∀ r h' tk t₁ u₁ v₁, Ext s.heap h' → IsRange h' r 0 b 1 t₁ u₁ v₁ → Q (.ref r) { s with heap := h', toks := tk }) :
    wpAny (model prog w) A (call (.type "range") [.int b u]) Q E s := call_range_1 (h _ _ _ _ _ _ (ext_push _ _) (IsRange.new ..))
theorem range2 {a b : Int} {t u : Tok} {Q : Value → Shared → Prop} (h : ∀ r h' tk t₁ u₁ v₁, Ext s.heap h' → IsRange h' r a b 1 t₁ u₁ v₁ → Q (.ref r) { s with heap := h', toks := tk }) :
    wpAny (model prog w) A (call (.type "range") [.int a t, .int b u]) Q E s := call_range_2 (h _ _ _ _ _ _ (ext_push _ _) (IsRange.new ..))
theorem range3 {a b c : Int} {t u v : Tok} {Q : Value → Shared → Prop} (hc : c ≠ 0) (hc2 : c.natAbs < 1000) (h : ∀ r h' tk t₁ u₁ v₁, Ext s.heap h' → IsRange h' r a b c t₁ u₁ v₁ → Q (.ref r) { s with heap := h', toks := tk }) :
    wpAny (model prog w) A (call (.type "range") [.int a t, .int b u, .int c v]) Q E s := call_range_3 hc (h _ _ _ _ _ _ (ext_push _ _) (IsRange.new ..)) (.inl (PyProof.noPylong_small (by omega)))
theorem mul2l {a b : Int} {t u : Tok} {Q : Value → Shared → Prop} (hb : -1000000 < b ∧ b < 1000000) (h : ∀ t' tk, Q (.int (a * b) t') { s with toks := tk }) : wpAny (model prog w) A (binaryOp .Mult (.int a t) (.int b u)) Q E s :=
  P.mul_int (h _ _) (IntMulOk.of_right (intBits_le_64 (by omega) (by omega)))
end

def compChk (sc scope : Scope) (x : Str) : Bool :=
  scope.names.all (fun y => y.2 != .cell) && scope.names.all (fun y => y.2 != .local || scope.names.lookup y.1 == some .local) && (scope.names.lookup x == some .local) &&
    scope.names.all (fun y => y.2 != .free || y.1 != x) && scope.names.all (fun y => y.2 != .free || sc.names.lookup y.1 == some .cell)
theorem CompOk.of {nm : Str} {sc scope : Scope} {L a : Addr} {cd : Value} {x : Str} (hk : scope.kind = .function) (h : compChk sc scope x = true) : CompOk (envOfC nm sc L a cd) scope x := by
  unfold compChk at h
  simp only [Bool.and_eq_true, List.all_eq_true, Bool.or_eq_true, bne_iff_ne, beq_iff_eq, ne_eq] at h
  obtain ⟨⟨⟨⟨h1, h2⟩, h3⟩, h4⟩, h5⟩ := h
  refine ⟨hk, h1, fun y hy hl => (h2 y hy).resolve_left fun q => q hl, h3, fun hm => ?_, fun y hy hf => ?_⟩
  · exact ((h4 _ hm).resolve_left fun q => q rfl) rfl
  · have := (h5 y hy).resolve_left fun q => q hf
    exact ⟨cellsFrom_some _ _ _ (.inl this), this⟩

section
variable {prog : Program} {w : World} {A : Around} {E : Value → Shared → Prop} {s : Shared} {env : Env} {scope : Scope} {x : Str} {px : Pos} {elt iter : PySem.Expr} {ifs : List PySem.Expr} {pos : Pos}
theorem compE {Q : Value → Shared → Prop} (p : Value → Bool) (F : Value → Value → Prop) (B : CompOk env scope x)
    (h : wpAny (model prog w) A (eval iter env) (fun xv s₁ => wpAny (model prog w) A (pyIter xv) (fun it s₂ => CGoal prog w A env scope x ifs elt p F Q it s₂) E s₁) E s)
    (hs : ∀ x, foldedSetIterable iter env x = pure x := by intro _; rfl) :
    wpAny (model prog w) A (eval (.ListComp elt [⟨.Name x px, iter, ifs, 0⟩] scope pos) env) Q E s :=
  wpAny_ListComp_free p F (closure_eq fun y hy hf => (B.free y hy hf).1) B.cells B.kind B.names B.isLoc h hs
theorem compA {y : Str} {py spos : Pos} {Q : Flow → Shared → Prop} (p : Value → Bool) (F : Value → Value → Prop) (B : CompOk env scope x) (hk : env.scope.kind = .function)
    (hsw : swapsWith (.ListComp elt [⟨.Name x px, iter, ifs, 0⟩] scope pos) (some (.Name y py)) spos.line env = pure true) (hy : env.kindOf y = some .local)
    (h : wpAny (model prog w) A (eval iter env) (fun xv s₁ => wpAny (model prog w) A (pyIter xv) (fun it s₂ => CGoalA prog w A env scope x ifs elt p F y Q it s₂) E s₁) E s)
    (hs : ∀ x, foldedSetIterable iter env x = pure x := by intro _; rfl) :
    wpAny (model prog w) A (exec (.Assign [.Name y py] (.ListComp elt [⟨.Name x px, iter, ifs, 0⟩] scope pos) spos) env) Q E s :=
  wpAny_Assign_ListComp_free p F hsw (closure_eq fun y hy hf => (B.free y hy hf).1) B.cells B.kind B.names B.isLoc hy (by rw [hk]; rfl) h hs
end

section
variable {prog : Program} {w : World} {A : Around} {E : Value → Shared → Prop} {s : Shared} {env : Env}
theorem part_some {M : Model} {e : PySem.Expr} {Q : Value → Shared → Prop} (h : wpAny M A (eval e env) Q E s) : wpAny M A (evalPart (some e) env) Q E s := h
theorem part_none {M : Model} {Q : Value → Shared → Prop} (h : Q .none s) : wpAny M A (evalPart none env) Q E s := wpAny_pure h

variable {h : Heap} {g : Array GenState} {dr : Drawn} {tk : Nat} {os : OsState}
theorem strFromH {value slice : PySem.Expr} {cs : List Nat} {t u : Tok} {i : Int} {Q : Value → Shared → Prop} (h0 : 0 ≤ i) (h1 : i ≤ cs.length) (hsz : cs.length ≤ sizeLine)
    (hq : ∀ t' h' tk, Ext h h' → Q (.str (Tx (cs.drop i.toNat)) t') ⟨h', g, dr, tk, os⟩)
    (hs : subscripted slice false (.str (Tx cs) t) (.ref h.objs.size) = operate [.ref h.objs.size, .str (Tx cs) t] (getItem (.str (Tx cs) t) (.ref h.objs.size)) := by with_unfolding_all rfl)
    (ht : ∀ r, letTemporaryGo value (.str (Tx cs) t) r = pure () := by intro _; with_unfolding_all rfl) :
    wpAny (model prog w) A (subscriptTail value slice (.str (Tx cs) t) (.ref h.objs.size)) Q E ⟨h.push { cls := .type "slice", data := .fields #[.int i u, .none, .none] }, g, dr, tk, os⟩ :=
  strFrom (s := ⟨h, g, dr, tk, os⟩) h0 h1 hsz hq hs ht
theorem strToH {value slice : PySem.Expr} {cs : List Nat} {t u : Tok} {i : Int} {Q : Value → Shared → Prop} (h0 : i < 0) (h1 : -(cs.length : Int) ≤ i) (hsz : cs.length ≤ sizeLine)
    (hq : ∀ t' h' tk, Ext h h' → Q (.str (Tx (cs.take (i + cs.length).toNat)) t') ⟨h', g, dr, tk, os⟩)
    (hs : subscripted slice false (.str (Tx cs) t) (.ref h.objs.size) = operate [.ref h.objs.size, .str (Tx cs) t] (getItem (.str (Tx cs) t) (.ref h.objs.size)) := by with_unfolding_all rfl)
    (ht : ∀ r, letTemporaryGo value (.str (Tx cs) t) r = pure () := by intro _; with_unfolding_all rfl) :
    wpAny (model prog w) A (subscriptTail value slice (.str (Tx cs) t) (.ref h.objs.size)) Q E ⟨h.push { cls := .type "slice", data := .fields #[.none, .int i u, .none] }, g, dr, tk, os⟩ :=
  strTo (s := ⟨h, g, dr, tk, os⟩) h0 h1 hsz hq hs ht
theorem strAllH {value slice : PySem.Expr} {cs : List Nat} {t : Tok} {Q : Value → Shared → Prop} (hsz : cs.length ≤ sizeLine)
    (hq : ∀ t' h' tk, Ext h h' → Q (.str (Tx cs) t') ⟨h', g, dr, tk, os⟩)
    (hs : subscripted slice false (.str (Tx cs) t) (.ref h.objs.size) = operate [.ref h.objs.size, .str (Tx cs) t] (getItem (.str (Tx cs) t) (.ref h.objs.size)) := by with_unfolding_all rfl)
    (ht : ∀ r, letTemporaryGo value (.str (Tx cs) t) r = pure () := by intro _; with_unfolding_all rfl) :
    wpAny (model prog w) A (subscriptTail value slice (.str (Tx cs) t) (.ref h.objs.size)) Q E ⟨h.push { cls := .type "slice", data := .fields #[.none, .none, .none] }, g, dr, tk, os⟩ :=
  strAll (s := ⟨h, g, dr, tk, os⟩) hsz hq hs ht
theorem sliceLH {value slice : PySem.Expr} {l : Addr} {items : List Value} {vl vu vst : Value} {lo hi st : Option Int} {Q : Value → Shared → Prop} {ops : List Value}
    (hl : h.IsList l items.toArray) (pl : IsPart vl lo) (pu : IsPart vu hi) (pst : IsPart vst st) (h0 : st ≠ some 0) (hsz : items.length ≤ sizeLine)
    (hq : ∀ (b : Addr) h' tk, Ext h h' → h.get? b = none → h'.PlainList b (slicePick items.toArray lo hi st).toList.toArray → Q (.ref b) ⟨h', g, dr, tk, os⟩)
    (hs : subscripted slice false (.ref l) (.ref h.objs.size) = operate ops (getItem (.ref l) (.ref h.objs.size)))
    (ht : ∀ r, letTemporaryGo value (.ref l) r = pure () := by intro _; with_unfolding_all rfl) :
    wpAny (model prog w) A (subscriptTail value slice (.ref l) (.ref h.objs.size)) Q E ⟨h.push { cls := .type "slice", data := .fields #[vl, vu, vst] }, g, dr, tk, os⟩ :=
  sliceL (s := ⟨h, g, dr, tk, os⟩) hl pl pu pst h0 hsz hq hs ht
end

theorem ints_of_get : ∀ {vs : List Value} {ns : List Int}, vs.length = ns.length → (∀ (j : Nat) (v : Value) (n : Int), vs[j]? = some v → ns[j]? = some n → ∃ t, v = .int n t) → IntsAre vs ns
  | [], [], _, _ => .nil
  | [], _ :: _, h, _ => by cases h
  | _ :: _, [], h, _ => by cases h
  | v :: vs, n :: ns, h, g => by
    obtain ⟨t, rfl⟩ := g 0 v n rfl rfl
    exact .cons _ _ (ints_of_get (by simpa using h) fun j v' n' h1 h2 => g (j + 1) v' n' (by simpa using h1) (by simpa using h2))

section
variable {prog : Program} {w : World} {A : Around} {E : Value → Shared → Prop} {s : Shared} {env : Env}
theorem listRange {r : Addr} {a b c : Int} {t u v : Tok} {n : Nat} {Q : Value → Shared → Prop} (hh : A.handled = none) (hr : IsRange s.heap r a b c t u v) (hsmall : Builtin.Range.small a b c = true) (hn : Builtin.Range.rangeSize a b c = (n : Int)) (hlen : n ≤ 1000000)
    (h : ∀ l vs h' tk, Ext s.heap h' → s.heap.get? l = none → h'.PlainList l vs.toArray → IntsAre vs (rng a c n) → Q (.ref l) { s with heap := h', toks := tk }) :
    wpAny (model prog w) A (call (.type "list") [.ref r]) Q E s := by
  refine call_list_range hh hr hsmall hn (by omega) fun h' tk acc c' hk hl hI => ?_
  refine h _ acc.toList h' tk hk (fresh_size _) ⟨c', by simpa using hl⟩ (ints_of_get (by simp [rng, hI.1]) fun j v n' h1 h2 => ?_)
  obtain ⟨t, e⟩ := hI.2 j v (by simpa using h1)
  have hj : j < n := by
    have := (List.getElem?_eq_some_iff.mp h2).1
    simpa [rng] using this
  have e2 : n' = a + (j : Int) * c := by
    simp [rng, hj] at h2
    exact h2.symm
  exact ⟨t, by rw [e, e2]⟩

theorem callDef {mg mb : Str → Option Value} {pos : Pos} {f : Addr} {e : PySem.Expr} {rest : List PySem.Expr} {Q : Value → Shared → Prop} (i : Nat) (hi : i ∈ fnIdx) (hf : mg (recAt i).name = some (.ref f)) (T : Glb mg mb s.heap)
    (h : wpAny (model prog w) A (spliced (backTo pos (starEach (e :: rest) env))) (fun vs s₁ => Ext s.heap s₁.heap ∧ wpAny (model prog w) A (call (.ref f) vs) Q E s₁) E s)
    (he : starEach (e :: rest) env = (false, eval e env) :: starEach rest env := by rfl) :
    wpAny (model prog w) A (callWith pos (.ref f) [] (backTo pos (starEach (e :: rest) env)) []) Q E s := by
  obtain ⟨a, o, pm, cd, doc, h1, h2, h3, h4⟩ := T.fn i hi
  rw [hf] at h1; cases h1
  exact callWith_def h3 (wpAny_mono h (fun vs s₁ h₁ => ⟨h₁.1 _ _ h2, h₁.2⟩) fun _ _ x => x) he

/-- a, b = b, a -/
theorem unpack2 {t : Addr} {x y : Value} {Q : List Value → Shared → Prop} (hh : A.handled = none) (ht : s.heap.IsTuple t #[x, y]) (h : ∀ h' tk, Ext s.heap h' → Q [x, y] { s with heap := h', toks := tk }) :
    wpAny (model prog w) A (unpackItems (.ref t) 2 none) Q E s := by
  have := wpAny_unpackItems_tuple (prog := prog) (w := w) (E := E) (Q := Q) hh ht fun h' he => h h' s.toks fun b o e => he b o (Nat.ne_of_lt (Heap.lt_size e)) e
  exact this
end
theorem small_n {n : Nat} (h : n < 1000000) : Builtin.Range.small 0 (n : Int) 1 = true := small_up (by omega) (by omega) (by omega)
theorem rs_n {n : Nat} : Builtin.Range.rangeSize 0 (n : Int) 1 = (n : Int) := by rw [rs_up (by omega)]; omega
section
variable {prog : Program} {w : World} {A : Around} {E : Value → Shared → Prop} {s : Shared}
theorem itemN {value slice : PySem.Expr} {l : Addr} {items : List Value} {i : Nat} {u : Tok} {x : Value} {Q : Value → Shared → Prop} (hl : s.heap.IsList l items.toArray)
    (hi : i < 1000000) (hx : items[i]? = some x) (h : Q x s)
    (hs : subscripted slice false (.ref l) (.int (i : Int) u) = operate [.ref l, .int (i : Int) u] (getItem (.ref l) (.int (i : Int) u)) := by with_unfolding_all rfl) :
    wpAny (model prog w) A (subscriptTail value slice (.ref l) (.int (i : Int) u)) Q E s :=
  item_listR hl (by omega) (by omega) (by simpa using hx) h hs
end

/-- a list of texts -/
def TxAre (vs : List Value) (ws : List (List Nat)) : Prop := vs.length = ws.length ∧ ∀ (k : Nat) (cs : List Nat), ws[k]? = some cs → ∃ t, vs[k]? = some (.str (Tx cs) t)
/-- a square table of ints: its list of rows -/
def MatAt (h : Heap) (l : Addr) (n : Nat) (X : Nat → Nat → Int) : Prop :=
  ∃ rs : List Addr, rs.length = n ∧ h.PlainList l (rs.map Value.ref).toArray ∧ ∀ (k : Nat) (r : Addr), rs[k]? = some r → r ≠ l ∧ ∃ vs, h.PlainList r vs.toArray ∧ IntsAre vs ((List.range n).map (X k))
theorem MatAt.ext {h h' : Heap} {l : Addr} {n : Nat} {X : Nat → Nat → Int} (x : MatAt h l n X) (hk : Ext h h') : MatAt h' l n X := by
  obtain ⟨rs, h1, h2, h3⟩ := x
  refine ⟨rs, h1, h2.at fun o e => hk _ o e, fun k r hr => ?_⟩
  obtain ⟨h4, vs, h5, h6⟩ := h3 k r hr
  exact ⟨h4, vs, h5.at fun o e => hk _ o e, h6⟩

theorem paired_rel {P : Int → Int → Prop} : ∀ {ks : List Int} {ys : List Value}, Paired (fun k y => ∃ x t, y = Value.int x t ∧ P k x) ks ys →
    ∃ zs : List Int, IntsAre ys zs ∧ zs.length = ks.length ∧ ∀ (j : Nat) (k z : Int), ks[j]? = some k → zs[j]? = some z → P k z
  | _, _, .nil => ⟨[], .nil, rfl, fun j k z h => by simp at h⟩
  | k :: ks, _, .cons ⟨x, t, e, hp⟩ tl => by
    obtain ⟨zs, h1, h2, h3⟩ := paired_rel tl
    subst e
    refine ⟨x :: zs, .cons x t h1, by simp [h2], fun j k' z hk hz => ?_⟩
    cases j with
    | zero =>
      simp at hk hz
      subst hk hz
      exact hp
    | succ j => exact h3 j k' z (by simpa using hk) (by simpa using hz)

theorem ints_append : ∀ {vs ws : List Value} {ns ms : List Int}, IntsAre vs ns → IntsAre ws ms → IntsAre (vs ++ ws) (ns ++ ms)
  | _, _, _, _, .nil, h => h
  | _, _, _, _, .cons n t tl, h => .cons n t (ints_append tl h)

theorem rng_get {a c : Int} {n j : Nat} (h : j < n) : (rng a c n)[j]? = some (a + (j : Int) * c) := by simp [rng, h]
theorem rng_len (a c : Int) (n : Nat) : (rng a c n).length = n := by simp [rng]

/-- the table with one more row -/
def addRow (X : Nat → Nat → Int) (i : Nat) (zs : List Int) : Nat → Nat → Int := fun k j => if k = i then (if j < i then X j i else zs.getD (j - i) 0) else X k j
theorem addRow_row {X : Nat → Nat → Int} {i n : Nat} {zs : List Int} (hi : i ≤ n) (hz : zs.length = n - i) :
    ((rng 0 1 i).map fun k => X k.toNat i) ++ zs = (List.range n).map (addRow X i zs i) := by
  apply List.ext_getElem?
  intro j
  by_cases h1 : j < i
  · rw [List.getElem?_append_left (by simp [rng]; exact h1)]
    simp [rng, h1, addRow, show j < n by omega]
  · rw [List.getElem?_append_right (by simp [rng]; omega)]
    simp only [List.length_map, rng_len]
    by_cases h2 : j < n
    · have : zs[j - i]? = some zs[j - i] := by simp [show j - i < zs.length by omega]
      rw [this]
      simp [h2, addRow, h1, List.getD_eq_getElem?_getD, this]
    · rw [List.getElem?_eq_none (by omega), List.getElem?_eq_none (by simp; omega)]
theorem addRow_old {X : Nat → Nat → Int} {i n k : Nat} {zs : List Int} (h : k < i) : (List.range n).map (addRow X i zs k) = (List.range n).map (X k) := by
  apply List.map_congr_left
  intro j _
  simp [addRow, show k ≠ i by omega]
local macro_rules | `(tactic| walk_at "m.n") => `(tactic| first
  | refine nameL (by with_reducible assumption) (by with_unfolding_all rfl) (by with_unfolding_all rfl) ?_ (by with_unfolding_all rfl)
  | refine nameC (by with_reducible assumption) (by with_unfolding_all rfl) (by with_unfolding_all rfl) (by with_unfolding_all rfl) ?_ (by with_unfolding_all rfl)
  | refine nameT (by with_reducible assumption) bt2 (by with_unfolding_all rfl) ?_ (by with_unfolding_all rfl)
  | refine nameT (by with_reducible assumption) bt4 (by with_unfolding_all rfl) ?_ (by with_unfolding_all rfl)
  | refine nameT (by with_reducible assumption) bt1 (by with_unfolding_all rfl) ?_ (by with_unfolding_all rfl)
  | refine nameT (by with_reducible assumption) bt3 (by with_unfolding_all rfl) ?_ (by with_unfolding_all rfl)
  | refine nameT (by with_reducible assumption) bt5 (by with_unfolding_all rfl) ?_ (by with_unfolding_all rfl)
  | refine nameT (by with_reducible assumption) bt6 (by with_unfolding_all rfl) ?_ (by with_unfolding_all rfl)
  | refine nameT (by with_reducible assumption) bt7 (by with_unfolding_all rfl) ?_ (by with_unfolding_all rfl)
  | refine nameT (by with_reducible assumption) bt8 (by with_unfolding_all rfl) ?_ (by with_unfolding_all rfl)
  | refine nameT (by with_reducible assumption) bt9 (by with_unfolding_all rfl) ?_ (by with_unfolding_all rfl)
  | refine nameT (by with_reducible assumption) bt10 (by with_unfolding_all rfl) ?_ (by with_unfolding_all rfl)
  | refine nameT (by with_reducible assumption) bt11 (by with_unfolding_all rfl) ?_ (by with_unfolding_all rfl))
local macro_rules | `(tactic| walk_at "m.eval") => `(tactic| first
  | ((show wpAny _ _ (eval (PySem.Expr.Name _ _) _) _ _ _); walk_at "m.n")
  | ((show wpAny _ _ (eval (PySem.Expr.Constant (PySem.Const.int _) _ _) _) _ _ _); refine wpAny_Constant_int ?_)
  | ((show wpAny _ _ (eval (PySem.Expr.BinOp _ _ _ _) _) _ _ _); refine wpAny_BinOp ?_)
  | ((show wpAny _ _ (eval (PySem.Expr.Subscript _ _ _) _) _ _ _); refine Subscript_ ?_)
  | ((show wpAny _ _ (eval (PySem.Expr.Call (PySem.Expr.Name _ _) _ _ _) _) _ _ _); refine Call_ ?_ (by with_unfolding_all rfl))
  | ((show wpAny _ _ (eval (PySem.Expr.Constant (PySem.Const.str _) _ _) _) _ _ _); refine wpAny_Constant_str ?_)
  | ((show wpAny _ _ (eval (PySem.Expr.Constant PySem.Const.none _ _) _) _ _ _); refine wpAny_Constant_none ?_)
  | ((show wpAny _ _ (eval (PySem.Expr.Constant (PySem.Const.bool _) _ _) _) _ _ _); refine wpAny_Constant_bool ?_)
  | ((show wpAny _ _ (eval (PySem.Expr.Compare _ _ _ _) _) _ _ _); refine wpAny_Compare1 ?_ (by with_unfolding_all rfl))
  | ((show wpAny _ _ (eval (PySem.Expr.UnaryOp _ _ _) _) _ _ _); refine wpAny_UnaryOp ?_)
  | ((show wpAny _ _ (eval (PySem.Expr.BoolOp _ _ _) _) _ _ _); refine wpAny_Or2 ?_)
  | ((show wpAny _ _ (eval (PySem.Expr.IfExp _ _ _ _) _) _ _ _); refine wpAny_IfExp ?_)
  | ((show wpAny _ _ (eval (PySem.Expr.Slice _ _ _ _) _) _ _ _); refine wpAny_Slice ?_))
local macro_rules | `(tactic| walk_at "m.exec") => `(tactic| first
  | refine wpAny_Assign_Name ?_ (by with_unfolding_all rfl)
  | refine wpAny_Return_some ?_
  | refine wpAny_If ?_
  | refine wpAny_AugAssign_Name ?_)
local macro_rules | `(tactic| walk_at "m.is") => `(tactic| first
  | refine wpAny_isTrue_Compare1 ?_ (by with_unfolding_all rfl)
  | refine wpAny_isTrue_Not ?_
  | refine wpAny_isTrue_BoolOp ?_
  | refine wpAny_isTrue_value ?_ (by with_unfolding_all rfl))
local macro_rules | `(tactic| walk_at "m.all") => `(tactic| first
  | refine wpAny_allTrue_And_nil ?_
  | refine wpAny_allTrue_Or_nil ?_
  | refine wpAny_allTrue_And_cons ?_
  | refine wpAny_allTrue_Or_cons ?_)
local macro_rules | `(tactic| walk_at "m.bin") => `(tactic| first
  | refine P.add_int ?_
  | refine P.sub_int ?_)
local macro_rules | `(tactic| walk_at "m.cmp") => `(tactic| first
  | refine P.eq_int ?_
  | refine P.le_int ?_
  | refine P.gt_int ?_
  | refine P.lt_int ?_
  | refine P.ne_int ?_
  | refine P.ge_int ?_
  | refine eqStr ?_)
local macro_rules | `(tactic| walk_at "m") => `(tactic| with_reducible first
  | ((show wpAny _ _ (eval _ _) _ _ _); walk_at "m.eval")
  | ((show wpAny _ _ (exec _ _) _ _ _); walk_at "m.exec")
  | ((show wpAny _ _ (isTrue _ _ _) _ _ _); walk_at "m.is")
  | ((show wpAny _ _ (allTrue _ _ _) _ _ _); walk_at "m.all")
  | ((show wpAny _ _ (binaryOp _ _ _) _ _ _); walk_at "m.bin")
  | ((show wpAny _ _ (compareOp _ _ _) _ _ _); walk_at "m.cmp")
  | ((show wpAny _ _ (spliced _) _ _ _); first | refine args_cons ?_ (by with_unfolding_all rfl) | refine args_nil ?_)
  | ((show wpAny _ _ (execs _ _) _ _ _); first | refine wpAny_execs_cons ?_ | refine wpAny_execs_nil ?_)
  | ((show wpAny _ _ (callWith _ (Value.builtin _) _ _ _) _ _ _); refine callWith_builtin1 ?_ (by with_unfolding_all rfl) (by with_unfolding_all rfl))
  | ((show wpAny _ _ (callWith _ (Value.type _) _ _ _) _ _ _); refine PyProof.Rows.callWith_type1 ?_ (by with_unfolding_all rfl) (by with_unfolding_all rfl))
  | ((show wpAny _ _ (loadName _ _) _ _ _); first
      | refine loadL (by with_reducible assumption) (by with_unfolding_all rfl) (by with_unfolding_all rfl) ?_
      | refine loadC (by with_reducible assumption) (by with_unfolding_all rfl) (by with_unfolding_all rfl) (by with_unfolding_all rfl) ?_)
  | ((show wpAny _ _ (inplaceOp PySem.Operator.Add (Value.int _ _) (Value.int _ _)) _ _ _); refine P.iadd_int ?_)
  | ((show wpAny _ _ (inplaceOp PySem.Operator.Sub (Value.int _ _) (Value.int _ _)) _ _ _); refine P.isub_int ?_)
  | ((show wpAny _ _ (evalPart _ _) _ _ _); first | refine part_some ?_ | refine part_none ?_)
  | ((show wpAny _ _ (truthy (Value.bool _)) _ _ _); refine wpAny_truthy_bool ?_)
  | ((show wpAny _ _ (truthy (Value.int _ _)) _ _ _); refine P.truthy_int ?_)
  | ((show wpAny _ _ (unaryOp PySem.UnaryOp.USub _) _ _ _); refine P.neg_int ?_)
  | ((show ite (_ = true) _ _); first | refine iteT ?_ (by with_unfolding_all exact Eq.refl true) | refine iteF ?_ (by with_unfolding_all exact Eq.refl false)))

theorem floordiv2 {prog : Program} {w : World} {A : Around} {E : Value → Shared → Prop} {s : Shared} {a b : Int} {t u : Tok} {Q : Value → Shared → Prop} (hb : 0 < b) (hb2 : b < 1000000) (h : ∀ t' tk, Q (.int (a / b) t') { s with toks := tk }) :
    wpAny (model prog w) A (binaryOp .FloorDiv (.int a t) (.int b u)) Q E s := by
  refine floordiv_int (by omega) ?_ (.inl (PyProof.noPylong_small (by omega)))
  rw [Int.fdiv_eq_ediv_of_nonneg _ (by omega)]
  exact h _ _
theorem mod2 {prog : Program} {w : World} {A : Around} {E : Value → Shared → Prop} {s : Shared} {a b : Int} {t u : Tok} {Q : Value → Shared → Prop} (hb : 0 < b) (h : ∀ t' tk, Q (.int (a % b) t') { s with toks := tk }) :
    wpAny (model prog w) A (binaryOp .Mod (.int a t) (.int b u)) Q E s := by
  refine mod_int' (by omega) ?_
  rw [Int.fmod_eq_emod_of_nonneg _ (by omega)]
  exact h _ _

theorem intsAt {vs : List Value} {ns : List Int} (hI : IntsAre vs ns) {k : Nat} {v : Int} (h : ns[k]? = some v) : ∃ t, vs[k]? = some (.int v t) := hI.get k v h

theorem nz {n : Nat} (h : 0 < n) : ¬ (((n : Int) == 0) = true) := by simp; omega

/-- median_high -/
theorem median_high_call {prog : Program} {w : World} {A : Around} {s : Shared} {mg mb : Str → Option Value} {Q : Value → Shared → Prop} {E : Value → Shared → Prop} {n : Nat} {f l : Addr} {vs : List Value} {ns : List Int}
    (R : Room A (n + 1)) (T : Glb mg mb s.heap) (hf : mg (recAt 3).name = some (.ref f)) (hl : s.heap.IsList l vs.toArray) (hI : IntsAre vs ns) (h64 : vs.length < 64) (hne : 0 < ns.length)
    (h : ∀ (ns' : List Int) (v : Int) t h' tk, Ext s.heap h' → ns'.Perm ns → ns'.Pairwise (· ≤ ·) → ns'[ns.length / 2]? = some v → Q (.int v t) { s with heap := h', toks := tk }) :
    wpAny (model prog w) A (call (.ref f) [.ref l]) Q E s := by
  refine enter 3 (by decide) R T hf (binds := [("data", .ref l)]) (fun _ _ _ => rfl) (by rfl) (by simp) (fun L a cd h₁ tk S O => ?_)
  show wpAny _ _ (execs (_ :: _ :: _) _) _ _ _
  have hsl := sizeLine_eq
  repeat (walk_at "m")
  try dsimp only
  have hl₁ : h₁.IsList l vs.toArray := hl.at fun o e => S.kept _ _ e
  with_reducible refine sortedI hl₁ hI h64 fun b vs' ns' h₂ tk₂ hx hb hI' hp hs => ?_
  replace S := (S.ext hx).add hb
  have hlen : vs'.length = ns.length := by rw [hI'.length, hp.length_eq]
  have hlen' : vs.length = ns.length := hI.length
  dsimp only
  refine storeL S O (by with_unfolding_all rfl) ?_
  clear S; intro h₁ tk S; dsimp only at S ⊢
  repeat (walk_at "m")
  try dsimp only
  with_reducible refine lenList (vs := vs') (S.lists _ (List.Mem.head _)).isList (by omega) fun t₁ tk₁ => ?_
  dsimp only
  refine storeL S O (by with_unfolding_all rfl) ?_
  clear S; intro h₁ tk S; dsimp only at S ⊢
  repeat (walk_at "m")
  try dsimp only
  rw [if_neg (nz (by omega))]
  repeat (walk_at "m")
  try dsimp only
  with_reducible refine floordiv2 (by omega) (by omega) fun t₂ tk₂ => ?_
  have hk : ns.length / 2 < ns'.length := by rw [hp.length_eq]; omega
  obtain ⟨v, hv⟩ : ∃ v, ns'[ns.length / 2]? = some v := ⟨ns'[ns.length / 2], by simp [hk]⟩
  obtain ⟨t, ht⟩ := intsAt hI' hv
  with_reducible refine item_listL (l := vs') (x := .int v t) (S.lists _ (List.Mem.head _)).isList (by omega) (by omega) ?_ ?_
  · rw [hlen]
    have e : ((ns.length : Int) / 2).toNat = ns.length / 2 := by omega
    rw [e]; exact ht
  exact h ns' v t _ _ (fun b o e => S.kept b o e) hp hs hv
/-- median_low -/
theorem median_low_call {prog : Program} {w : World} {A : Around} {s : Shared} {mg mb : Str → Option Value} {Q : Value → Shared → Prop} {E : Value → Shared → Prop} {n : Nat} {f l : Addr} {vs : List Value} {ns : List Int}
    (R : Room A (n + 1)) (T : Glb mg mb s.heap) (hf : mg (recAt 2).name = some (.ref f)) (hl : s.heap.IsList l vs.toArray) (hI : IntsAre vs ns) (h64 : vs.length < 64) (hne : 0 < ns.length)
    (h : ∀ (ns' : List Int) (v : Int) t h' tk, Ext s.heap h' → ns'.Perm ns → ns'.Pairwise (· ≤ ·) → ns'[(ns.length - 1) / 2]? = some v → Q (.int v t) { s with heap := h', toks := tk }) :
    wpAny (model prog w) A (call (.ref f) [.ref l]) Q E s := by
  refine enter 2 (by decide) R T hf (binds := [("data", .ref l)]) (fun _ _ _ => rfl) (by rfl) (by simp) (fun L a cd h₁ tk S O => ?_)
  show wpAny _ _ (execs (_ :: _ :: _) _) _ _ _
  have hsl := sizeLine_eq
  repeat (walk_at "m")
  try dsimp only
  have hl₁ : h₁.IsList l vs.toArray := hl.at fun o e => S.kept _ _ e
  with_reducible refine sortedI hl₁ hI h64 fun b vs' ns' h₂ tk₂ hx hb hI' hp hs => ?_
  replace S := (S.ext hx).add hb
  have hlen : vs'.length = ns.length := by rw [hI'.length, hp.length_eq]
  have hlen' : vs.length = ns.length := hI.length
  dsimp only
  refine storeL S O (by with_unfolding_all rfl) ?_
  clear S; intro h₁ tk S; dsimp only at S ⊢
  repeat (walk_at "m")
  try dsimp only
  with_reducible refine lenList (vs := vs') (S.lists _ (List.Mem.head _)).isList (by omega) fun t₁ tk₁ => ?_
  dsimp only
  refine storeL S O (by with_unfolding_all rfl) ?_
  clear S; intro h₁ tk S; dsimp only at S ⊢
  repeat (walk_at "m")
  try dsimp only
  rw [if_neg (nz (by omega))]
  repeat (walk_at "m")
  try dsimp only
  with_reducible refine mod2 (by omega) fun t₂ tk₂ => ?_
  repeat (walk_at "m")
  try dsimp only
  have hk : (ns.length - 1) / 2 < ns'.length := by rw [hp.length_eq]; omega
  obtain ⟨v, hv⟩ : ∃ v, ns'[(ns.length - 1) / 2]? = some v := ⟨ns'[(ns.length - 1) / 2], by simp [hk]⟩
  obtain ⟨t, ht⟩ := intsAt hI' hv
  rw [hlen]
  split
  · rename_i hodd
    have hodd' : (ns.length : Int) % 2 = 1 := by simpa using hodd
    repeat (walk_at "m")
    try dsimp only
    rw [hlen]
    with_reducible refine floordiv2 (by omega) (by omega) fun t₂ tk₂ => ?_
    with_reducible refine item_listL (l := vs') (x := .int v t) (S.lists _ (List.Mem.head _)).isList (by omega) (by omega) ?_ ?_
    · have e : ((ns.length : Int) / 2).toNat = (ns.length - 1) / 2 := by omega
      rw [e]; exact ht
    exact h ns' v t _ _ (fun b o e => S.kept b o e) hp hs hv
  · rename_i hodd
    have hodd' : (ns.length : Int) % 2 = 0 := by
      have : ¬ (ns.length : Int) % 2 = 1 := by simpa using hodd
      omega
    repeat (walk_at "m")
    try dsimp only
    rw [hlen]
    with_reducible refine floordiv2 (by omega) (by omega) fun t₂ tk₂ => ?_
    repeat (walk_at "m")
    try dsimp only
    with_reducible refine item_listL (l := vs') (x := .int v t) (S.lists _ (List.Mem.head _)).isList (by omega) (by omega) ?_ ?_
    · have e : ((ns.length : Int) / 2 - 1).toNat = (ns.length - 1) / 2 := by omega
      rw [e]; exact ht
    exact h ns' v t _ _ (fun b o e => S.kept b o e) hp hs hv

/-- what a told distance must be -/
def Same (r d b : Int) : Prop := (d ≤ b → r = d) ∧ (b < d → b < r)
def sameB (r d b : Int) : Bool := if d ≤ b then r == d else decide (b < r)
theorem sameB_iff {r d b : Int} : sameB r d b = true ↔ Same r d b := by
  unfold sameB Same
  split
  · constructor
    · intro h; exact ⟨fun _ => by simpa using h, fun _ => by omega⟩
    · rintro ⟨h, _⟩; simpa using h (by assumption)
  · constructor
    · intro h; exact ⟨fun _ => by omega, fun _ => by simpa using h⟩
    · rintro ⟨_, h⟩; simpa using h (by omega)

/-- _law_same -/
theorem law_same_call {prog : Program} {w : World} {A : Around} {s : Shared} {mg mb : Str → Option Value} {Q : Value → Shared → Prop} {E : Value → Shared → Prop} {n : Nat} {f : Addr} {r d b : Int} {t u v : Tok}
    (R : Room A (n + 1)) (T : Glb mg mb s.heap) (hf : mg (recAt 16).name = some (.ref f))
    (h : ∀ h' tk, Ext s.heap h' → Q (.bool (sameB r d b)) { s with heap := h', toks := tk }) :
    wpAny (model prog w) A (call (.ref f) [.int r t, .int d u, .int b v]) Q E s := by
  refine enter 16 (by decide) R T hf (binds := [("told", .int r t), ("due", .int d u), ("bound", .int b v)]) (fun _ _ _ => rfl) (by rfl) (show (["told", "due", "bound"] : List Str).Nodup by decide) (fun L a cd h₁ tk S O => ?_)
  show wpAny _ _ (execs (_ :: _ :: _) _) _ _ _
  repeat (walk_at "m")
  try dsimp only
  with_reducible refine IsiPair.int_bool ?_
  repeat (walk_at "m")
  try dsimp only
  with_reducible refine IsiPair.int_int ?_
  repeat (walk_at "m")
  try dsimp only
  by_cases hd : d ≤ b
  · rw [if_pos (by simpa using hd)]
    repeat (walk_at "m")
    try dsimp only
    have e : sameB r d b = (r == d) := by unfold sameB; rw [if_pos hd]
    rw [← e]
    exact h _ _ (fun b o e => S.kept b o e)
  · rw [if_neg (by simpa using hd)]
    repeat (walk_at "m")
    try dsimp only
    have e : sameB r d b = decide (r > b) := by unfold sameB; rw [if_neg hd]
    rw [← e]
    exact h _ _ (fun b o e => S.kept b o e)

/-- the price of one sign for another -/
def subC (p q : Nat) : Int := if p = q then 0 else if Txt.lower (Tx [p]) = Txt.lower (Tx [q]) then 1 else 2

section
variable {prog : Program} {w : World} {A : Around} {E : Value → Shared → Prop} {s : Shared}
theorem eqStrG {x y : Str} {t u : Tok} {Q : Value → Shared → Prop} (h : Q (.bool (decide (x = y))) s) : wpAny (model prog w) A (compareOp .Eq (.str x t) (.str y u)) Q E s := by
  refine P.eq_str ?_
  have e : (x.cps.toList == y.cps.toList) = decide (x = y) := by
    by_cases hq : x = y
    · simp [hq]
    · have : ¬ x.cps = y.cps := fun e => hq (by cases x; cases y; cases e; rfl)
      simp [hq, this]
  rw [e]; exact h
theorem lowerCall {c : Nat} {t : Tok} {Q : Value → Shared → Prop} (h : ∀ t' tk, Q (.str (Txt.lower (Tx [c])) t') { s with toks := tk }) : wpAny (model prog w) A (call (.builtin "str.lower") [.str (Tx [c]) t]) Q E s :=
  SC.lower (fit_lower (by rw [tx_len]; simp)) (h _ _)
theorem addStr {cs ds : List Nat} {t u : Tok} {Q : Value → Shared → Prop} (hsz : cs.length + ds.length ≤ sizeLine) (h : ∀ t' tk, Q (.str (Tx (cs ++ ds)) t') { s with toks := tk }) : wpAny (model prog w) A (binaryOp .Add (.str (Tx cs) t) (.str (Tx ds) u)) Q E s := by
  refine P.add_str ?_
  rw [tx_len, tx_len]
  by_cases h1 : cs = []
  · subst h1
    exact h u s.toks
  · by_cases h2 : ds = []
    · subst h2
      have e : ((cs.length == 0) = true) = False := by simp [h1]
      simp only [e, if_false]
      have := h t s.toks
      simpa [Made.post] using this
    · have e : ((cs.length == 0) = true) = False := by simp [h1]
      have e2 : ((ds.length == 0) = true) = False := by simp [h2]
      simp only [e, e2, if_false]
      have e3 : Tx cs ++ Tx ds = Tx (cs ++ ds) := by
        show (⟨_⟩ : Str) = _
        simp
      rw [e3]
      exact ⟨by rw [tx_len]; simpa using hsz, h _ _⟩
end

/-- _substitution_cost -/
theorem subst_call {prog : Program} {w : World} {A : Around} {s : Shared} {mg mb : Str → Option Value} {Q : Value → Shared → Prop} {E : Value → Shared → Prop} {n : Nat} {f : Addr} {p q : Nat} {t u : Tok}
    (R : Room A (n + 1)) (T : Glb mg mb s.heap) (hf : mg (recAt 8).name = some (.ref f))
    (h : ∀ t' h' tk, Ext s.heap h' → Q (.int (subC p q) t') { s with heap := h', toks := tk }) :
    wpAny (model prog w) A (call (.ref f) [.str (Tx [p]) t, .str (Tx [q]) u]) Q E s := by
  refine enter 8 (by decide) R T hf (binds := [("ch_a", .str (Tx [p]) t), ("ch_b", .str (Tx [q]) u)]) (fun _ _ _ => rfl) (by rfl) (show (["ch_a", "ch_b"] : List Str).Nodup by decide) (fun L a cd h₁ tk S O => ?_)
  show wpAny _ _ (execs (_ :: _ :: _) _) _ _ _
  repeat (walk_at "m")
  try dsimp only
  by_cases hpq : p = q
  · rw [if_pos (by simp [hpq])]
    repeat (walk_at "m")
    try dsimp only
    have e : subC p q = 0 := by simp [subC, hpq]
    rw [← e]
    exact h _ _ _ (fun b o e => S.kept b o e)
  · rw [if_neg (by simp [hpq])]
    repeat (walk_at "m")
    try dsimp only
    with_reducible refine MethodCall_ ?_ (by with_unfolding_all rfl)
    repeat (walk_at "m")
    try dsimp only
    refine GM.lower ?_
    refine callWith_method0 ?_
    refine lowerCall fun t₁ tk₁ => ?_
    with_reducible refine MethodCall_ ?_ (by with_unfolding_all rfl)
    repeat (walk_at "m")
    try dsimp only
    refine GM.lower ?_
    refine callWith_method0 ?_
    refine lowerCall fun t₂ tk₂ => ?_
    refine eqStrG ?_
    repeat (walk_at "m")
    try dsimp only
    by_cases hl : Txt.lower (Tx [p]) = Txt.lower (Tx [q])
    · rw [if_pos (by simp [hl])]
      repeat (walk_at "m")
      try dsimp only
      obtain ⟨tc, hc⟩ := T.case1
      refine nameG S (by with_unfolding_all rfl) hc ?_
      have e : subC p q = 1 := by simp [subC, hpq, hl]
      rw [← e]
      exact h _ _ _ (fun b o e => S.kept b o e)
    · rw [if_neg (by simp [hl])]
      repeat (walk_at "m")
      try dsimp only
      obtain ⟨tc, hc⟩ := T.move
      refine nameG S (by with_unfolding_all rfl) hc ?_
      have e : subC p q = 2 := by simp [subC, hpq, hl]
      rw [← e]
      exact h _ _ _ (fun b o e => S.kept b o e)

/-- the law's words -/
def WordOk (cs : List Nat) : Prop := cs.length ≤ 3 ∧ ∀ c ∈ cs, c = 97 ∨ c = 65 ∨ c = 98 ∨ c = 66
/-- a value that is a short text of those signs -/
def SignAt (v : Value) : Prop := ∃ cs t, v = .str (Tx cs) t ∧ cs.length ≤ 1 ∧ ∀ c ∈ cs, c = 97 ∨ c = 65 ∨ c = 98 ∨ c = 66

theorem sign_items (t0 t1 t2 t3 t4 : Tok) (k : Int) (h0 : 0 ≤ k) (h1 : k < 5) :
    ∃ v, ([Value.str (Str.ofString "") t0, .str (Str.ofString "a") t1, .str (Str.ofString "A") t2, .str (Str.ofString "b") t3, .str (Str.ofString "B") t4] : List Value)[k.toNat]? = some v ∧ SignAt v := by
  have e0 : Str.ofString "" = Tx [] := by decide
  have e1 : Str.ofString "a" = Tx [97] := by decide
  have e2 : Str.ofString "A" = Tx [65] := by decide
  have e3 : Str.ofString "b" = Tx [98] := by decide
  have e4 : Str.ofString "B" = Tx [66] := by decide
  rw [e0, e1, e2, e3, e4]
  have hk : k = 0 ∨ k = 1 ∨ k = 2 ∨ k = 3 ∨ k = 4 := by omega
  rcases hk with rfl | rfl | rfl | rfl | rfl
  · exact ⟨_, rfl, [], t0, rfl, by simp, by simp⟩
  · exact ⟨_, rfl, [97], t1, rfl, by simp, by simp⟩
  · exact ⟨_, rfl, [65], t2, rfl, by simp, by simp⟩
  · exact ⟨_, rfl, [98], t3, rfl, by simp, by simp⟩
  · exact ⟨_, rfl, [66], t4, rfl, by simp, by simp⟩

/-- _law_word -/
theorem word_call {prog : Program} {w : World} {A : Around} {s : Shared} {mg mb : Str → Option Value} {Q : Value → Shared → Prop} {E : Value → Shared → Prop} {n : Nat} {f : Addr} {i : Int} {t : Tok}
    (R : Room A (n + 1)) (T : Glb mg mb s.heap) (hf : mg (recAt 11).name = some (.ref f))
    (h : ∀ cs t' h' tk, Ext s.heap h' → WordOk cs → Q (.str (Tx cs) t') { s with heap := h', toks := tk }) :
    wpAny (model prog w) A (call (.ref f) [.int i t]) Q E s := by
  refine enter 11 (by decide) R T hf (binds := [("number", .int i t)]) (fun _ _ _ => rfl) (by rfl) (by simp) (fun L a cd h₁ tk S O => ?_)
  show wpAny _ _ (execs (_ :: _ :: _) _) _ _ _
  have hsl := sizeLine_eq
  repeat (walk_at "m")
  try dsimp only
  with_reducible refine List_ ?_
  repeat (walk_at "m")
  try dsimp only
  with_reducible refine newListI (by simp; omega) fun b h₂ tk₂ hx hb hl => ?_
  replace S := (S.ext hx).add hl
  dsimp only at S ⊢
  refine storeL S O (by with_unfolding_all rfl) ?_
  clear S; intro h₁ tk S; dsimp only at S ⊢
  repeat (walk_at "m")
  try dsimp only
  with_reducible refine mod2 (by omega) fun t₃ tk₃ => ?_
  obtain ⟨v1, hv1, cs1, u1, rfl, hl1, hc1⟩ := sign_items _ _ _ _ _ (i % 5) (by omega) (by omega)
  with_reducible refine item_listL (S.lists _ (List.Mem.head _)).isList (by omega) (by omega) hv1 ?_
  repeat (walk_at "m")
  try dsimp only
  with_reducible refine floordiv2 (by omega) (by omega) fun t₄ tk₄ => ?_
  repeat (walk_at "m")
  try dsimp only
  with_reducible refine mod2 (by omega) fun t₅ tk₅ => ?_
  obtain ⟨v2, hv2, cs2, u2, rfl, hl2, hc2⟩ := sign_items _ _ _ _ _ (i / 5 % 5) (by omega) (by omega)
  with_reducible refine item_listL (S.lists _ (List.Mem.head _)).isList (by omega) (by omega) hv2 ?_
  with_reducible refine addStr (by omega) fun t₆ tk₆ => ?_
  repeat (walk_at "m")
  try dsimp only
  with_reducible refine floordiv2 (by omega) (by omega) fun t₇ tk₇ => ?_
  repeat (walk_at "m")
  try dsimp only
  with_reducible refine mod2 (by omega) fun t₈ tk₈ => ?_
  obtain ⟨v3, hv3, cs3, u3, rfl, hl3, hc3⟩ := sign_items _ _ _ _ _ (i / 25 % 5) (by omega) (by omega)
  with_reducible refine item_listL (S.lists _ (List.Mem.head _)).isList (by omega) (by omega) hv3 ?_
  with_reducible refine addStr (by simp; omega) fun t₉ tk₉ => ?_
  refine h _ _ _ _ (fun b o e => S.kept b o e) ⟨by simp; omega, fun c hc => ?_⟩
  simp only [List.mem_append] at hc
  rcases hc with (hc | hc) | hc
  · exact hc1 c hc
  · exact hc2 c hc
  · exact hc3 c hc

theorem price_subC : Price subC where
  self := fun x => by simp [subC]
  pos := fun x y => by unfold subC; split; omega; split <;> omega
  le := fun x y => by unfold subC; split; omega; split <;> omega
  symm := fun x y => by
    unfold subC
    by_cases h : x = y
    · simp [h]
    · have h' : ¬ y = x := fun e => h e.symm
      simp only [if_neg h, if_neg h']
      by_cases hl : Txt.lower (Tx [x]) = Txt.lower (Tx [y])
      · rw [if_pos hl, if_pos hl.symm]
      · rw [if_neg hl, if_neg fun e => hl e.symm]

/-- the distances to all that is left of a text -/
def rowT (u : List Nat) : List Nat → List Int
  | [] => [D subC u []]
  | y :: v => D subC u (y :: v) :: rowT u v
theorem rowT_get (u : List Nat) : ∀ (v : List Nat) (j : Nat), j ≤ v.length → (rowT u v)[j]? = some (D subC u (v.drop j))
  | [], j, h => by
    have : j = 0 := by simpa using h
    subst this; rfl
  | y :: v, 0, _ => rfl
  | y :: v, j + 1, h => by
    show (rowT u v)[j]? = _
    rw [rowT_get u v j (by simpa using h)]; rfl
theorem rowT_len (u : List Nat) : ∀ v : List Nat, (rowT u v).length = v.length + 1
  | [] => rfl
  | y :: v => by show (rowT u v).length + 1 = _; rw [rowT_len u v]; rfl

theorem rowT_nil (v : List Nat) : ((rng (v.length : Int) (-1) (v.length + 1)).map fun k => 2 * k) = rowT [] v := by
  apply List.ext_getElem?
  intro j
  by_cases hj : j ≤ v.length
  · rw [rowT_get _ _ _ hj, D_nil, List.length_drop]
    simp [rng, show j < v.length + 1 by omega]
    omega
  · rw [List.getElem?_eq_none (by simp [rng]; omega), List.getElem?_eq_none (by rw [rowT_len]; omega)]

theorem ints_of_paired {g : Int → Int} : ∀ {ks : List Int} {ys : List Value}, Paired (fun k y => ∃ t, y = .int (g k) t) ks ys → IntsAre ys (ks.map g)
  | _, _, .nil => .nil
  | _, _, .cons ⟨t, e⟩ tl => by subst e; exact .cons _ t (ints_of_paired tl)

theorem rng_mem {a c : Int} {n : Nat} {k : Int} (h : k ∈ rng a c n) : ∃ i : Nat, i < n ∧ k = a + (i : Int) * c := by
  obtain ⟨i, hi, rfl⟩ := List.mem_map.mp h
  exact ⟨i, List.mem_range.mp hi, rfl⟩

theorem filter_true {α : Type} (l : List α) : (l.filter fun _ => true) = l := List.filter_eq_self.mpr fun _ _ => rfl

theorem keeps_of {s s' : Shared} {h' : Heap} {tk : Nat} (e : s' = { s with heap := h', toks := tk }) (hx : Ext s.heap h') : Keeps s s' := ⟨h', tk, e, hx⟩

theorem ints_len {vs : List Value} {ns : List Int} (h : IntsAre vs ns) : vs.length = ns.length := h.length

/-- _law_cost -/
theorem cost_call {prog : Program} {w : World} {A : Around} {s : Shared} {mg mb : Str → Option Value} {Q : Value → Shared → Prop} {E : Value → Shared → Prop} {n : Nat} {f : Addr} {one other : List Nat} {t u : Tok}
    (R : Room A (n + 1)) (T : Glb mg mb s.heap) (hf : mg (recAt 12).name = some (.ref f)) (h1 : one.length ≤ 1000) (h2 : other.length ≤ 1000)
    (h : ∀ t' h' tk, Ext s.heap h' → Q (.int (D subC one other) t') { s with heap := h', toks := tk }) :
    wpAny (model prog w) A (call (.ref f) [.str (Tx one) t, .str (Tx other) u]) Q E s := by
  refine enter 12 (by decide) R T hf (binds := [("one", .str (Tx one) t), ("other", .str (Tx other) u)]) (fun _ _ _ => rfl) (by rfl) (show (["one", "other"] : List Str).Nodup by decide) (fun L a cd h₁ tk S O => ?_)
  show wpAny _ _ (execs (_ :: _ :: _) _) _ _ _
  have hsl := sizeLine_eq
  have R' := (R.deeper (env := envOfC (recAt 12).name (recAt 12).scope L a cd)).handled
  refine wpAny_execs_cons ?_
  refine compA (fun v => (fun _ => true) (numOf v)) (fun v y => (fun k y => ∃ t, y = Value.int (2 * k) t) (numOf v) y) (CompOk.of (by with_unfolding_all rfl) (by with_unfolding_all rfl)) S.kind (by with_unfolding_all rfl) (by with_unfolding_all rfl) ?_
  repeat (walk_at "m")
  try dsimp only
  with_reducible refine lenStr (by omega) fun t₁ tk₁ => ?_
  repeat (walk_at "m")
  try dsimp only
  with_reducible refine range3 (by decide) (by decide) fun r h₂ tk₂ a₂ b₂ c₂ hx hr => ?_
  replace S := S.ext hx
  dsimp only
  refine comp_rangeA (n := other.length + 1) (fun _ => true) (fun k y => ∃ t, y = Value.int (2 * k) t) R' hr (small_down (by omega) (by omega)) (by rw [rs_down (by omega)]; omega) (by omega) S O (by with_unfolding_all rfl) (CompOk.of (by with_unfolding_all rfl) (by with_unfolding_all rfl)) ?_ ?_ ?_
  · intro C k t s₃ hk hx₃ S₃
    exact wpAny_tests_nil ⟨rfl, _, _, rfl, Ext.refl _⟩
  · intro C k t s₃ hk _ hx₃ S₃
    obtain ⟨i, hi, rfl⟩ := rng_mem hk
    repeat (walk_at "m")
    try dsimp only
    with_reducible refine mul2l (by omega) fun t₁ tk₁ => ?_
    exact ⟨⟨_, rfl⟩, _, _, rfl, Ext.refl _⟩
  intro D₀ h₃ tk₃ ys hD hl hP S
  have hI := ints_of_paired hP
  rw [filter_true, rowT_nil] at hI
  replace S := (S.add hl).has (bs := [("below", .ref D₀), ("one", .str (Tx one) t), ("other", .str (Tx other) u)]) (has_cons (by with_unfolding_all rfl) (has_cons (by with_unfolding_all rfl) (has_cons (by with_unfolding_all rfl) has_nil)))
  dsimp only
  refine wpAny_execs_cons ?_
  refine wpAny_For ?_
  repeat (walk_at "m")
  try dsimp only
  with_reducible refine lenStr (by omega) fun t₁ tk₁ => ?_
  repeat (walk_at "m")
  try dsimp only
  with_reducible refine range3 (by decide) (by decide) fun r h₂ tk₂ a₂ b₂ c₂ hx hr => ?_
  replace S := S.ext hx
  dsimp only
  refine loop_range (n := one.length) R' hr (small_down (by omega) (by omega)) (by rw [rs_down (by omega)]; omega) S O (.inl (by with_unfolding_all rfl))
    (fun i ρ ls => ∃ b vals, Has ρ [("below", .ref b), ("one", .str (Tx one) t), ("other", .str (Tx other) u)] ∧ (b, vals) ∈ ls ∧ IntsAre vals (rowT (one.drop (one.length - i)) other))
    ⟨D₀, ys, (has_cons (by with_unfolding_all rfl) (has_cons (by with_unfolding_all rfl) (has_cons (by with_unfolding_all rfl) has_nil))), List.Mem.head _, by simpa using hI⟩ ?_ ?_
  · clear S hI hP hl O hx hr
    rintro i ti K' ρ ls h₅ tk₅ hi hKK hnl ⟨b, vals, hH, hm, hI⟩ S O
    replace S := (S.sub (ls' := [(b, vals)]) (by simpa using hm)).has (hH.upd (x := "i") (show ("i" : Str) ∉ (["below", "one", "other"] : List Str) by decide))
    obtain ⟨m, hm'⟩ : ∃ m : Nat, m = one.length - 1 - i := ⟨_, rfl⟩
    have e1 : (one.length : Int) - 1 + (i : Int) * (-1) = (m : Int) := by omega
    rw [e1] at S
    have e2 : one.length - i = m + 1 := by omega
    rw [e2] at hI
    have hmlt : m < one.length := by omega
    obtain ⟨x, hx⟩ : ∃ x, one[m]? = some x := ⟨one[m], by simp [hmlt]⟩
    have hdrop : one.drop m = x :: one.drop (m + 1) := by
      rw [List.drop_eq_getElem_cons hmlt]
      have : one[m] = x := by simpa [hmlt] using hx
      rw [this]
    have hvl := hI.length
    rw [rowT_len] at hvl
    repeat (walk_at "m")
    try dsimp only
    with_reducible refine List_ ?_
    repeat (walk_at "m")
    try dsimp only
    with_reducible refine lenStr (by omega) fun t₁ tk₁ => ?_
    repeat (walk_at "m")
    try dsimp only
    with_reducible refine mul2l (by omega) fun t₂ tk₂ => ?_
    repeat (walk_at "m")
    try dsimp only
    with_reducible refine newListI (by simp; omega) fun hb h₆ tk₆ hx₆ hbn hbl => ?_
    replace S := (S.ext hx₆).add hbl
    dsimp only at S ⊢
    refine storeL S O (by with_unfolding_all rfl) ?_
    clear S; intro h₁ tk S; dsimp only at S ⊢
    refine wpAny_execs_cons ?_
    refine wpAny_For ?_
    repeat (walk_at "m")
    try dsimp only
    with_reducible refine lenStr (by omega) fun t₃ tk₃ => ?_
    repeat (walk_at "m")
    try dsimp only
    with_reducible refine range3 (by decide) (by decide) fun r h₂ tk₂ a₂ b₂ c₂ hx hr => ?_
    replace S := S.ext hx
    dsimp only
    refine loop_range (n := other.length) R' hr (small_down (by omega) (by omega)) (by rw [rs_down (by omega)]; omega) S O (.inl (by with_unfolding_all rfl))
      (fun k ρ ls => ∃ hb hv, Has ρ [("here", .ref hb), ("i", .int m ti), ("below", .ref b), ("one", .str (Tx one) t), ("other", .str (Tx other) u)] ∧ (hb, hv) ∈ ls ∧ (b, vals) ∈ ls ∧ IntsAre hv (rowT (one.drop m) (other.drop (other.length - k))))
      ⟨hb, _, (has_cons (by with_unfolding_all rfl) (has_cons (by with_unfolding_all rfl) (has_cons (by with_unfolding_all rfl) (has_cons (by with_unfolding_all rfl) (has_cons (by with_unfolding_all rfl) has_nil))))), List.Mem.head _, List.Mem.tail _ (List.Mem.head _), ?_⟩ ?_ ?_
    · have e3 : other.drop (other.length - 0) = [] := by simp
      rw [e3]
      show IntsAre _ [D subC (one.drop m) []]
      rw [D_nil', List.length_drop]
      have e4 : 2 * ((one.length : Int) - (m : Int)) = 2 * ((one.length - m : Nat) : Int) := by omega
      rw [e4]
      exact .cons _ _ .nil
    · clear S O hx hr hbl hbn hx₆ hKK hnl hH hm
      rintro k tj K'' ρ ls h₇ tk₇ hk hKK hnl ⟨hb', hv, hH, hm1, hm2, hIh⟩ S O
      replace S := (S.sub (ls' := [(hb', hv), (b, vals)]) (by simp [hm1, hm2])).has (hH.upd (x := "j") (show ("j" : Str) ∉ (["here", "i", "below", "one", "other"] : List Str) by decide))
      obtain ⟨j, hj'⟩ : ∃ j : Nat, j = other.length - 1 - k := ⟨_, rfl⟩
      have e3 : (other.length : Int) - 1 + (k : Int) * (-1) = (j : Int) := by omega
      rw [e3] at S
      have e4 : other.length - k = j + 1 := by omega
      rw [e4] at hIh
      have hjlt : j < other.length := by omega
      obtain ⟨y, hy⟩ : ∃ y, other[j]? = some y := ⟨other[j], by simp [hjlt]⟩
      have hdropj : other.drop j = y :: other.drop (j + 1) := by
        rw [List.drop_eq_getElem_cons hjlt]
        have : other[j] = y := by simpa [hjlt] using hy
        rw [this]
      have hhl := hIh.length
      rw [rowT_len, List.length_drop] at hhl
      repeat (walk_at "m")
      try dsimp only
      refine storeL S O (by with_unfolding_all rfl) ?_
      clear S; intro h₁ tk S; dsimp only at S ⊢
      refine wpAny_execs_cons (wpAny_mono (Q := fun f s' => f = .next ∧ ∃ h tk tp, s' = { s with heap := h, toks := tk } ∧ State mg mb (envOfC (recAt 12).name (recAt 12).scope L a cd) K'' h (fun z => List.lookup z [("price", Value.int (subC x y) tp), ("j", .int j tj), ("here", .ref hb'), ("i", .int m ti), ("below", .ref b), ("one", .str (Tx one) t), ("other", .str (Tx other) u)]) [(hb', hv), (b, vals)]) ?_ ?_ (fun _ _ e => e))
      · skip
        repeat (walk_at "m")
        try dsimp only
        with_reducible refine strItem (by omega) (by simpa using hx) (by omega) fun t₄ => ?_
        repeat (walk_at "m")
        try dsimp only
        with_reducible refine strItem (by omega) (by simpa using hy) (by omega) fun t₅ => ?_
        repeat (walk_at "m")
        try dsimp only
        by_cases hxy : x = y
        · rw [if_pos (by simp [hxy])]
          repeat (walk_at "m")
          try dsimp only
          refine storeL S O (by with_unfolding_all rfl) ?_
          clear S; intro h₁ tk S; dsimp only at S ⊢
          repeat (walk_at "m")
          try dsimp only
          rw [show subC x y = 0 by simp [subC, hxy]]
          exact ⟨rfl, _, _, _, rfl, S.has (has_cons (by with_unfolding_all rfl) (has_cons (by with_unfolding_all rfl) (has_cons (by with_unfolding_all rfl) (has_cons (by with_unfolding_all rfl) (has_cons (by with_unfolding_all rfl) (has_cons (by with_unfolding_all rfl) (has_cons (by with_unfolding_all rfl) has_nil)))))))⟩
        · rw [if_neg (by simp [hxy])]
          repeat (walk_at "m")
          try dsimp only
          with_reducible refine MethodCall_ ?_ (by with_unfolding_all rfl)
          repeat (walk_at "m")
          try dsimp only
          with_reducible refine strItem (by omega) (by simpa using hx) (by omega) fun t₆ => ?_
          refine GM.lower ?_
          refine callWith_method0 ?_
          refine lowerCall fun t₇ tk₇ => ?_
          with_reducible refine MethodCall_ ?_ (by with_unfolding_all rfl)
          repeat (walk_at "m")
          try dsimp only
          with_reducible refine strItem (by omega) (by simpa using hy) (by omega) fun t₈ => ?_
          refine GM.lower ?_
          refine callWith_method0 ?_
          refine lowerCall fun t₉ tk₉ => ?_
          refine eqStrG ?_
          repeat (walk_at "m")
          try dsimp only
          by_cases hl : Txt.lower (Tx [x]) = Txt.lower (Tx [y])
          · rw [if_pos (by simp [hl])]
            repeat (walk_at "m")
            try dsimp only
            refine storeL S O (by with_unfolding_all rfl) ?_
            clear S; intro h₁ tk S; dsimp only at S ⊢
            repeat (walk_at "m")
            try dsimp only
            rw [show subC x y = 1 by simp [subC, hxy, hl]]
            exact ⟨rfl, _, _, _, rfl, S.has (has_cons (by with_unfolding_all rfl) (has_cons (by with_unfolding_all rfl) (has_cons (by with_unfolding_all rfl) (has_cons (by with_unfolding_all rfl) (has_cons (by with_unfolding_all rfl) (has_cons (by with_unfolding_all rfl) (has_cons (by with_unfolding_all rfl) has_nil)))))))⟩
          · rw [if_neg (by simp [hl])]
            repeat (walk_at "m")
            try dsimp only
            rw [show subC x y = 2 by simp [subC, hxy, hl]]
            exact ⟨rfl, _, _, _, rfl, S.has (has_cons (by with_unfolding_all rfl) (has_cons (by with_unfolding_all rfl) (has_cons (by with_unfolding_all rfl) (has_cons (by with_unfolding_all rfl) (has_cons (by with_unfolding_all rfl) (has_cons (by with_unfolding_all rfl) (has_cons (by with_unfolding_all rfl) has_nil)))))))⟩
      · clear S
        rintro f' s' ⟨rfl, h₈, tk₈, tp, rfl, S⟩
        dsimp only
        repeat (walk_at "m")
        try dsimp only
        with_reducible refine List_ ?_
        repeat (walk_at "m")
        try dsimp only
        obtain ⟨u1, hu1⟩ := intsAt hI (rowT_get _ other j (by omega))
        with_reducible refine item_listL (S.lists _ (List.Mem.tail _ (List.Mem.head _))).isList (by omega) (by omega) (by simpa using hu1) ?_
        repeat (walk_at "m")
        try dsimp only
        obtain ⟨u2, hu2⟩ := intsAt hIh (rowT_get _ _ 0 (by omega))
        with_reducible refine item_listL (S.lists _ (List.Mem.head _)).isList (by omega) (by omega) (by simpa using hu2) ?_
        repeat (walk_at "m")
        try dsimp only
        obtain ⟨u3, hu3⟩ := intsAt hI (rowT_get _ other (j + 1) (by omega))
        with_reducible refine item_listL (S.lists _ (List.Mem.tail _ (List.Mem.head _))).isList (by omega) (by omega) (by
          have e : ((j : Int) + 1).toNat = j + 1 := by omega
          show vals[_]? = _
          rw [e]; exact hu3) ?_
        repeat (walk_at "m")
        try dsimp only
        with_reducible refine min3 R' fun t₆ h₉ tk₉ hx₉ => ?_
        replace S := S.ext hx₉
        repeat (walk_at "m")
        try dsimp only
        with_reducible refine newListI (by simp; omega) fun b1 h₉ tk₉ hx₉ _ hbl => ?_
        replace S := (S.ext hx₉).add hbl
        repeat (walk_at "m")
        try dsimp only
        with_reducible refine addL (S.lists _ (List.Mem.head _)).isList (S.lists _ (List.Mem.tail _ (List.Mem.head _))).isList (by simp; omega) fun b2 h₉ tk₉ hx₉ _ hbl => ?_
        replace S := (S.ext hx₉).add hbl
        dsimp only at S ⊢
        refine storeL S O (by with_unfolding_all rfl) ?_
        clear S; intro h₁ tk S; dsimp only at S ⊢
        repeat (walk_at "m")
        try dsimp only
        refine ⟨_, _, _, _, rfl, S, b2, _, (has_cons (by with_unfolding_all rfl) (has_cons (by with_unfolding_all rfl) (has_cons (by with_unfolding_all rfl) (has_cons (by with_unfolding_all rfl) (has_cons (by with_unfolding_all rfl) has_nil))))), List.Mem.head _, List.Mem.tail _ (List.Mem.tail _ (List.Mem.tail _ (List.Mem.head _))), ?_⟩
        have e5 : other.length - (k + 1) = j := by omega
        rw [e5, hdropj]
        show IntsAre _ (D subC (one.drop m) (y :: other.drop (j + 1)) :: rowT (one.drop m) (other.drop (j + 1)))
        have key : D subC (one.drop m) (y :: other.drop (j + 1)) = min (min (D subC (one.drop (m + 1)) (y :: other.drop (j + 1)) + 2) (D subC (one.drop m) (other.drop (j + 1)) + 2)) (D subC (one.drop (m + 1)) (other.drop (j + 1)) + subC x y) := by
          rw [hdrop, D_cons]
        rw [key]
        exact .cons _ _ hIh
    · rintro ρ' ls' h₇ tk₇ ⟨hb', hv', hH', hm1, hm2, hI'⟩ S
      replace S := (S.sub (ls' := [(hb', hv')]) (by simpa using hm1)).has hH'
      dsimp only
      repeat (walk_at "m")
      try dsimp only
      refine storeL S O (by with_unfolding_all rfl) ?_
      clear S; intro h₁ tk S; dsimp only at S ⊢
      repeat (walk_at "m")
      try dsimp only
      refine ⟨_, _, _, _, rfl, S, hb', hv', (has_cons (by with_unfolding_all rfl) (has_cons (by with_unfolding_all rfl) (has_cons (by with_unfolding_all rfl) has_nil))), List.Mem.head _, ?_⟩
      have e6 : one.length - (i + 1) = m := by omega
      rw [e6]
      simpa using hI'
  · rintro ρ ls h₅ tk₅ ⟨b, vals, hH, hm, hI⟩ S
    replace S := (S.sub (ls' := [(b, vals)]) (by simpa using hm)).has hH
    dsimp only
    repeat (walk_at "m")
    try dsimp only
    rw [Nat.sub_self] at hI
    obtain ⟨u1, hu1⟩ := intsAt hI (rowT_get _ other 0 (by omega))
    with_reducible refine item_listL (S.lists _ (List.Mem.head _)).isList (by omega) (by omega) (by simpa using hu1) ?_
    exact h _ _ _ (fun b o e => S.kept b o e)

theorem rs_two {n : Nat} (h : 0 < n) : Builtin.Range.rangeSize 2 (2 * ((n : Int) + 1)) 2 = (n : Int) := by
  unfold Builtin.Range.rangeSize
  simp only [show (2 : Int) > 0 by decide, if_true]
  split <;> omega
theorem small_two {n : Nat} (h : 0 < n) (hn : n < 1000) : Builtin.Range.small 2 (2 * ((n : Int) + 1)) 2 = true := by
  unfold Builtin.Range.small
  rw [rs_two h]
  simp [Builtin.Range.rangeFitsLong]
  omega

/-- the row of the table, its first j places of the next row -/
def mixR (y x : List Nat) (i j : Nat) : List Int := (List.range x.length).map fun k => if k < j then Pt subC y x (i + 1) (k + 1) else Pt subC y x i (k + 1)
theorem mixR_len (y x : List Nat) (i j : Nat) : (mixR y x i j).length = x.length := by simp [mixR]
theorem mixR_get {y x : List Nat} {i j k : Nat} (hk : k < x.length) : (mixR y x i j)[k]? = some (if k < j then Pt subC y x (i + 1) (k + 1) else Pt subC y x i (k + 1)) := by simp [mixR, hk]
theorem mixR_set {y x : List Nat} {i j : Nat} (hj : j < x.length) : (mixR y x i j).set j (Pt subC y x (i + 1) (j + 1)) = mixR y x i (j + 1) := by
  apply List.ext_getElem?
  intro k
  by_cases hk : k < x.length
  · rw [mixR_get hk, List.getElem?_set]
    by_cases hkj : j = k
    · subst hkj
      simp [mixR_len, hk]
    · rw [if_neg hkj, mixR_get hk]
      congr 1
      by_cases h1 : k < j
      · rw [if_pos h1, if_pos (by omega)]
      · rw [if_neg h1, if_neg (by omega)]
  · rw [List.getElem?_eq_none (by simp [mixR_len]; omega), List.getElem?_eq_none (by simp [mixR_len]; omega)]
theorem mixR_next {y x : List Nat} {i : Nat} : mixR y x i x.length = mixR y x (i + 1) 0 := by
  unfold mixR
  apply List.map_congr_left
  intro k hk
  have : k < x.length := List.mem_range.mp hk
  rw [if_pos this, if_neg (by omega)]
theorem mixR_start {y x : List Nat} : rng 2 2 x.length = mixR y x 0 0 := by
  unfold mixR rng
  apply List.map_congr_left
  intro k hk
  have : k < x.length := List.mem_range.mp hk
  rw [if_neg (by omega), Pt_zero' _ _ _ (by omega)]
  omega

theorem ints_set' {x : Int} {u : Tok} : ∀ {vs : List Value} {ns : List Int}, IntsAre vs ns → ∀ j : Nat, IntsAre (vs.set j (.int x u)) (ns.set j x)
  | _, _, h, j => PySem.W.ints_set h j

theorem lev_tail {prog : Program} {w : World} {A : Around} {s : Shared} {mg mb : Str → Option Value} {K : Addr → Obj → Prop} {Q : Flow → Shared → Prop} {n : Nat} {x y : List Nat} {m : Int} {ta tb tm : Tok} {L a : Addr} {cd : Value}
    (R : Room A (n + 1)) (S : State mg mb (envOfC (recAt 9).name (recAt 9).scope L a cd) K s.heap (fun z => List.lookup z [("a", Value.str (Tx x) ta), ("b", .str (Tx y) tb), ("max_cost", .int m tm)]) [])
    (O : Off (envOfC (recAt 9).name (recAt 9).scope L a cd) K) (hx : 0 < x.length) (hxy : x.length ≤ y.length) (hy : y.length ≤ 40)
    (h : ∀ r t' h' tk, (∀ b o, K b o → h'.get? b = some o) → Same r (D subC y x) m → Q (.ret (.int r t')) { s with heap := h', toks := tk }) :
    wpAny (model prog w) A (execs ((recAt 9).body.drop 12) (envOfC (recAt 9).name (recAt 9).scope L a cd)) Q Never s := by
  show wpAny _ _ (execs (_ :: _ :: _) _) _ _ _
  have hsl := sizeLine_eq
  have R' := R.handled
  have PS := price_subC
  obtain ⟨hp, g, dr, tk, os⟩ := s
  dsimp only at S h
  repeat (walk_at "m")
  try dsimp only
  with_reducible refine lenStr (by omega) fun t₁ tk₁ => ?_
  repeat (walk_at "m")
  try dsimp only
  with_reducible refine lenStr (by omega) fun t₂ tk₂ => ?_
  repeat (walk_at "m")
  try dsimp only
  obtain ⟨tmv, hmv⟩ := S.glb.move
  refine nameG S (by with_unfolding_all rfl) hmv ?_
  with_reducible refine mul2l (by omega) fun t₃ tk₃ => ?_
  repeat (walk_at "m")
  try dsimp only
  by_cases hlen : ((y.length : Int) - x.length) * 2 > m
  · rw [if_pos (by simpa using hlen)]
    repeat (walk_at "m")
    try dsimp only
    refine h _ _ _ _ S.kept ⟨fun hle => ?_, fun _ => by omega⟩
    have := D_lower PS x y
    rw [D_symm PS y x] at hle
    omega
  rw [if_neg (by simpa using hlen)]
  repeat (walk_at "m")
  try dsimp only
  refine nameG S (by with_unfolding_all rfl) hmv ?_
  repeat (walk_at "m")
  try dsimp only
  refine nameG S (by with_unfolding_all rfl) hmv ?_
  repeat (walk_at "m")
  try dsimp only
  with_reducible refine lenStr (by omega) fun t₂ tk₂ => ?_
  repeat (walk_at "m")
  try dsimp only
  with_reducible refine mul2l (by omega) fun t₃ tk₃ => ?_
  repeat (walk_at "m")
  try dsimp only
  refine nameG S (by with_unfolding_all rfl) hmv ?_
  repeat (walk_at "m")
  try dsimp only
  with_reducible refine range3 (by decide) (by decide) fun r h₂ tk₂ a₂ b₂ c₂ hx₂ hr => ?_
  replace S := S.ext hx₂
  repeat (walk_at "m")
  try dsimp only
  refine listRange (n := x.length) R' hr (small_two hx (by omega)) (rs_two hx) (by omega) fun row vs h₃ tk₃ hx₃ hrow hl hI => ?_
  have hK : ∀ o, ¬ K row o := fun o e => by
    have := S.kept row o e
    rw [hrow] at this; cases this
  replace S := (S.ext hx₃).add hl
  rw [mixR_start (y := y)] at hI
  dsimp only at S ⊢
  refine storeL S O (by with_unfolding_all rfl) ?_
  clear S; intro h₁ tk S; dsimp only at S ⊢
  repeat (walk_at "m")
  try dsimp only
  refine storeL S O (by with_unfolding_all rfl) ?_
  clear S; intro h₁ tk S; dsimp only at S ⊢
  refine wpAny_execs_cons ?_
  refine wpAny_For ?_
  repeat (walk_at "m")
  try dsimp only
  with_reducible refine lenStr (by omega) fun t₂ tk₂ => ?_
  repeat (walk_at "m")
  try dsimp only
  with_reducible refine range1 fun r h₂ tk₂ a₂ b₂ c₂ hx₂ hr => ?_
  replace S := S.ext hx₂
  dsimp only
  refine loop_range (n := y.length) R' hr (small_n (by omega)) rs_n S O (.inl (by with_unfolding_all rfl))
    (fun i ρ ls => ∃ vals res tr, Has ρ [("row", .ref row), ("result", .int res tr), ("a", .str (Tx x) ta), ("b", .str (Tx y) tb), ("max_cost", .int m tm)] ∧ ls = [(row, vals)] ∧ IntsAre vals (mixR y x i 0) ∧ (0 < i → res = Pt subC y x i x.length))
    ⟨vs, _, _, (has_cons (by with_unfolding_all rfl) (has_cons (by with_unfolding_all rfl) (has_cons (by with_unfolding_all rfl) (has_cons (by with_unfolding_all rfl) (has_cons (by with_unfolding_all rfl) has_nil))))), rfl, hI, fun h => by omega⟩ ?_ ?_
  · clear S hI hl hx₂ hr hx₃ hrow O
    rintro i ti K' ρ ls h₅ tk₅ hi hKK hnl ⟨vals, res, tr, hH, rfl, hI, -⟩ S O
    have hK' : ∀ o, ¬ K' row o := fun o e => hK o (hnl _ (List.Mem.head _) o e)
    replace S := S.has (hH.upd (x := "bindex") (show ("bindex" : Str) ∉ (["row", "result", "a", "b", "max_cost"] : List Str) by decide))
    have e1 : (0 : Int) + (i : Int) * 1 = (i : Int) := by omega
    rw [e1] at S
    obtain ⟨c, hc⟩ : ∃ c, y[i]? = some c := ⟨y[i], by simp [hi]⟩
    repeat (walk_at "m")
    try dsimp only
    with_reducible refine strItem (by omega) (by simpa using hc) (by omega) fun t₄ => ?_
    refine storeL S O (by with_unfolding_all rfl) ?_
    clear S; intro h₁ tk S; dsimp only at S ⊢
    refine wpAny_execs_cons ?_
    refine wpAny_Assign_two ?_ (by with_unfolding_all rfl) (by with_unfolding_all rfl)
    repeat (walk_at "m")
    try dsimp only
    refine nameG S (by with_unfolding_all rfl) hmv ?_
    with_reducible refine mul2l (by omega) fun t₃ tk₃ => ?_
    refine wpAny_assign_Name ?_
    refine storeL S O (by with_unfolding_all rfl) ?_
    clear S; intro h₁ tk S; dsimp only at S ⊢
    refine wpAny_assign_Name ?_
    refine storeL S O (by with_unfolding_all rfl) ?_
    clear S; intro h₁ tk S; dsimp only at S ⊢
    repeat (walk_at "m")
    try dsimp only
    refine storeL S O (by with_unfolding_all rfl) ?_
    clear S; intro h₁ tk S; dsimp only at S ⊢
    refine wpAny_execs_cons ?_
    refine wpAny_For ?_
    repeat (walk_at "m")
    try dsimp only
    with_reducible refine lenStr (by omega) fun t₂ tk₂ => ?_
    repeat (walk_at "m")
    try dsimp only
    with_reducible refine range1 fun r h₂ tk₂ a₂ b₂ c₂ hx₂ hr => ?_
    replace S := S.ext hx₂
    dsimp only
    refine loop_range (n := x.length) R' hr (small_n (by omega)) rs_n S O (.inl (by with_unfolding_all rfl))
      (fun j ρ ls => ∃ vals dist td res tr mn tmn, Has ρ [("distance", .int dist td), ("result", .int res tr), ("minimum", .int mn tmn), ("bchar", .str (Tx [c]) t₄), ("row", .ref row), ("a", .str (Tx x) ta), ("b", .str (Tx y) tb), ("max_cost", .int m tm)] ∧ ls = [(row, vals)] ∧
        IntsAre vals (mixR y x i j) ∧ dist = Pt subC y x i j ∧ (j = 0 → res = 2 * (i : Int)) ∧ (0 < j → res = Pt subC y x (i + 1) j) ∧ ∀ k, 0 < k → k ≤ j → mn ≤ Pt subC y x (i + 1) k)
      ⟨vals, _, _, _, _, _, _, (has_cons (by with_unfolding_all rfl) (has_cons (by with_unfolding_all rfl) (has_cons (by with_unfolding_all rfl) (has_cons (by with_unfolding_all rfl) (has_cons (by with_unfolding_all rfl) (has_cons (by with_unfolding_all rfl) (has_cons (by with_unfolding_all rfl) (has_cons (by with_unfolding_all rfl) has_nil)))))))), rfl, hI, by rw [Pt_zero _ _ _ (by omega)]; omega, fun _ => by omega, fun h => by omega, fun k h1 h2 => by omega⟩ ?_ ?_
    · clear S hx₂ hr O hI hH
      rintro j tj K'' ρ ls h₇ tk₇ hj hKK hnl ⟨vals, dist, td, res, tr, mn, tmn, hH, rfl, hI, hdist, hres0, hres1, hmn⟩ S O
      have hK'' : ∀ o, ¬ K'' row o := fun o e => hK' o (hnl _ (List.Mem.head _) o e)
      replace S := S.has (hH.upd (x := "index") (show ("index" : Str) ∉ (["distance", "result", "minimum", "bchar", "row", "a", "b", "max_cost"] : List Str) by decide))
      have e2 : (0 : Int) + (j : Int) * 1 = (j : Int) := by omega
      rw [e2] at S
      obtain ⟨d, hd⟩ : ∃ d, x[j]? = some d := ⟨x[j], by simp [hj]⟩
      have hvl := hI.length
      rw [mixR_len] at hvl
      obtain ⟨fs, os, pms, cds, docs, hfs, -, -, -⟩ := S.glb.fn 8 (by decide)
      repeat (walk_at "m")
      try dsimp only
      refine nameG S (by with_unfolding_all rfl) hfs ?_
      refine callDef 8 (by decide) hfs S.glb ?_
      repeat (walk_at "m")
      try dsimp only
      with_reducible refine strItem (by omega) (by simpa using hd) (by omega) fun t₅ => ?_
      repeat (walk_at "m")
      try dsimp only
      refine ⟨Ext.refl _, ?_⟩
      refine subst_call R S.glb hfs fun t₆ h₈ tk₈ hx₈ => ?_
      replace S := S.ext hx₈
      repeat (walk_at "m")
      try dsimp only
      refine storeL S O (by with_unfolding_all rfl) ?_
      clear S; intro h₁ tk S; dsimp only at S ⊢
      repeat (walk_at "m")
      try dsimp only
      obtain ⟨u1, hu1⟩ := intsAt hI (mixR_get hj)
      rw [if_neg (by omega)] at hu1
      with_reducible refine item_listL (S.lists _ (List.Mem.head _)).isList (by omega) (by omega) (by simpa using hu1) ?_
      refine storeL S O (by with_unfolding_all rfl) ?_
      clear S; intro h₁ tk S; dsimp only at S ⊢
      repeat (walk_at "m")
      try dsimp only
      with_reducible refine min2 R' fun t₆ h₉ tk₉ hx₉ => ?_
      replace S := S.ext hx₉
      repeat (walk_at "m")
      try dsimp only
      refine nameG S (by with_unfolding_all rfl) hmv ?_
      repeat (walk_at "m")
      try dsimp only
      refine storeL S O (by with_unfolding_all rfl) ?_
      clear S; intro h₁ tk S; dsimp only at S ⊢
      repeat (walk_at "m")
      try dsimp only
      with_reducible refine min2 R' fun t₆ h₉ tk₉ hx₉ => ?_
      replace S := S.ext hx₉
      repeat (walk_at "m")
      try dsimp only
      have hnew : min (min res (Pt subC y x i (j + 1)) + 2) (dist + subC c d) = Pt subC y x (i + 1) (j + 1) := by
        rw [Pt_step hc hd, ← hdist]
        have hle := PS.le c d
        by_cases hj0 : j = 0
        · have := hres0 hj0
          subst hj0
          rw [Pt_zero _ _ _ (by omega)] at hdist ⊢
          omega
        · have := hres1 (by omega)
          omega
      rw [hnew]
      refine storeL S O (by with_unfolding_all rfl) ?_
      clear S; intro h₁ tk S; dsimp only at S ⊢
      refine wpAny_execs_cons ?_
      refine wpAny_Assign_Subscript ?_ (by with_unfolding_all rfl)
      repeat (walk_at "m")
      try dsimp only
      refine setItemL (vs := vals) (S.lists _ (List.Mem.head _)) (by omega) (by omega) (by omega) fun h₉ hl₉ hs₉ => ?_
      replace S := (S.sub (ls' := []) (by simp)).setList (S.lists _ (List.Mem.head _)).isList hK'' (by simp) hl₉ hs₉
      have hI2 := ints_set' (x := Pt subC y x (i + 1) (j + 1)) (u := t₆) hI j
      rw [mixR_set hj] at hI2
      repeat (walk_at "m")
      try dsimp only
      by_cases hlt : Pt subC y x (i + 1) (j + 1) < mn
      · rw [if_pos (by simpa using hlt)]
        repeat (walk_at "m")
        try dsimp only
        refine storeL S O (by with_unfolding_all rfl) ?_
        clear S; intro h₁ tk S; dsimp only at S ⊢
        repeat (walk_at "m")
        try dsimp only
        refine ⟨_, _, _, _, rfl, S, _, _, _, _, _, _, _, (has_cons (by with_unfolding_all rfl) (has_cons (by with_unfolding_all rfl) (has_cons (by with_unfolding_all rfl) (has_cons (by with_unfolding_all rfl) (has_cons (by with_unfolding_all rfl) (has_cons (by with_unfolding_all rfl) (has_cons (by with_unfolding_all rfl) (has_cons (by with_unfolding_all rfl) has_nil)))))))), rfl, by simpa using hI2, rfl, fun h => by omega, fun _ => rfl, fun k h1 h2 => ?_⟩
        by_cases hk : k = j + 1
        · subst hk; exact Int.le_refl _
        · have := hmn k h1 (by omega); omega
      · rw [if_neg (by simpa using hlt)]
        repeat (walk_at "m")
        try dsimp only
        refine ⟨_, _, _, _, rfl, S, _, _, _, _, _, _, _, (has_cons (by with_unfolding_all rfl) (has_cons (by with_unfolding_all rfl) (has_cons (by with_unfolding_all rfl) (has_cons (by with_unfolding_all rfl) (has_cons (by with_unfolding_all rfl) (has_cons (by with_unfolding_all rfl) (has_cons (by with_unfolding_all rfl) (has_cons (by with_unfolding_all rfl) has_nil)))))))), rfl, by simpa using hI2, rfl, fun h => by omega, fun _ => rfl, fun k h1 h2 => ?_⟩
        by_cases hk : k = j + 1
        · subst hk; omega
        · exact hmn k h1 (by omega)
    · rintro ρ ls h₇ tk₇ ⟨vals, dist, td, res, tr, mn, tmn, hH, rfl, hI, hdist, hres0, hres1, hmn⟩ S
      replace S := S.has hH
      dsimp only
      repeat (walk_at "m")
      try dsimp only
      by_cases hgt : mn > m
      · rw [if_pos (by simpa using hgt)]
        repeat (walk_at "m")
        try dsimp only
        refine h _ _ _ _ (fun b o e => S.kept b o (hKK b o e)) ⟨fun hle => ?_, fun _ => by omega⟩
        have := Pt_above PS (m := m) (i := i + 1) (b := y) (a := x) (by omega) (by omega) hx fun k h1 h2 => by have := hmn k h1 h2; omega
        omega
      · rw [if_neg (by simpa using hgt)]
        repeat (walk_at "m")
        try dsimp only
        refine ⟨_, _, _, _, rfl, S, vals, res, _, (has_cons (by with_unfolding_all rfl) (has_cons (by with_unfolding_all rfl) (has_cons (by with_unfolding_all rfl) (has_cons (by with_unfolding_all rfl) (has_cons (by with_unfolding_all rfl) has_nil))))), rfl, ?_, fun _ => hres1 hx⟩
        rw [← mixR_next]; exact hI
  · rintro ρ ls h₅ tk₅ ⟨vals, res, tr, hH, rfl, hI, hres⟩ S
    replace S := S.has hH
    dsimp only
    repeat (walk_at "m")
    try dsimp only
    refine h _ _ _ _ S.kept ?_
    rw [hres (by omega), Pt_full]
    exact ⟨fun _ => rfl, fun h => h⟩

set_option maxHeartbeats 4000000 in
theorem lev_mid {prog : Program} {w : World} {A : Around} {s : Shared} {mg mb : Str → Option Value} {K : Addr → Obj → Prop} {Q : Flow → Shared → Prop} {n : Nat} {a2 b2 : List Nat} {m : Int} {t₃ t₄ v : Tok} {L a : Addr} {cd : Value}
    (R : Room A (n + 1)) (S : State mg mb (envOfC (recAt 9).name (recAt 9).scope L a cd) K s.heap (fun z => List.lookup z [("a", Value.str (Tx a2) t₃), ("b", .str (Tx b2) t₄), ("max_cost", .int m v)]) [])
    (O : Off (envOfC (recAt 9).name (recAt 9).scope L a cd) K) (hl3 : a2.length ≤ 40) (hl4 : b2.length ≤ 40)
    (h : ∀ r t' h' tk, (∀ b o, K b o → h'.get? b = some o) → Same r (D subC a2 b2) m → Q (.ret (.int r t')) { s with heap := h', toks := tk }) :
    wpAny (model prog w) A (execs ((recAt 9).body.drop 9) (envOfC (recAt 9).name (recAt 9).scope L a cd)) Q Never s := by
  show wpAny _ _ (execs (_ :: _ :: _) _) _ _ _
  have hsl := sizeLine_eq
  have R' := R.handled
  have PS := price_subC
  obtain ⟨h₁, g, dr, tk, os⟩ := s
  dsimp only at S h
  obtain ⟨tmv, hmv⟩ := S.glb.move
  obtain ⟨tmo, hmo⟩ := S.glb.most
  refine wpAny_execs_cons (wpAny_If (wpAny_mono (Q := fun b s' => b = (a2.isEmpty || b2.isEmpty) ∧ ∃ tk, s' = (⟨h₁, g, dr, tk, os⟩ : Shared)) ?_ ?_ (fun _ _ e => e)))
  · skip
    repeat (walk_at "m")
    try dsimp only
    refine truthyStr (by omega) fun tk₃ => ?_
    by_cases he : a2 = []
    · subst he
      repeat (walk_at "m")
      try dsimp only
      exact ⟨rfl, _, rfl⟩
    · have he' : a2.isEmpty = false := by cases a2 <;> simp at he ⊢
      rw [he']
      repeat (walk_at "m")
      try dsimp only
      refine truthyStr (by omega) fun tk₄ => ?_
      by_cases hb : b2 = []
      · subst hb
        repeat (walk_at "m")
        try dsimp only
        exact ⟨rfl, _, rfl⟩
      · have hb' : b2.isEmpty = false := by cases b2 <;> simp at hb ⊢
        rw [hb']
        repeat (walk_at "m")
        try dsimp only
        exact ⟨rfl, _, rfl⟩
  rintro b' s' ⟨rfl, tk₃, rfl⟩
  by_cases he : (a2.isEmpty || b2.isEmpty) = true
  · rw [if_pos he]
    repeat (walk_at "m")
    try dsimp only
    refine nameG S (by with_unfolding_all rfl) hmv ?_
    repeat (walk_at "m")
    try dsimp only
    with_reducible refine lenStr (by omega) fun t₅ tk₅ => ?_
    repeat (walk_at "m")
    try dsimp only
    with_reducible refine lenStr (by omega) fun t₆ tk₆ => ?_
    repeat (walk_at "m")
    try dsimp only
    with_reducible refine mul2l (by omega) fun t₇ tk₇ => ?_
    have e : 2 * ((a2.length : Int) + b2.length) = D subC a2 b2 := by
      rcases Bool.or_eq_true_iff.mp he with q | q
      · have : a2 = [] := by simpa using q
        subst this; rw [D_nil]; simp
      · have : b2 = [] := by simpa using q
        subst this; rw [D_nil']; simp
    rw [e]
    exact h _ _ _ _ S.kept ⟨fun _ => rfl, fun h => h⟩
  rw [if_neg he]
  have he2 : 0 < a2.length ∧ 0 < b2.length := by
    cases a2 <;> cases b2 <;> simp at he ⊢
  clear he
  repeat (walk_at "m")
  try dsimp only
  with_reducible refine lenStr (by omega) fun t₅ tk₅ => ?_
  repeat (walk_at "m")
  try dsimp only
  refine nameG S (by with_unfolding_all rfl) hmo ?_
  repeat (walk_at "m")
  try dsimp only
  have e40 : decide ((a2.length : Int) > 40) = false := by simp; omega
  rw [e40]
  repeat (walk_at "m")
  try dsimp only
  with_reducible refine lenStr (by omega) fun t₆ tk₆ => ?_
  repeat (walk_at "m")
  try dsimp only
  refine nameG S (by with_unfolding_all rfl) hmo ?_
  repeat (walk_at "m")
  try dsimp only
  have e41 : decide ((b2.length : Int) > 40) = false := by simp; omega
  rw [e41]
  iterate 4 (walk_at "m")
  refine wpAny_execs_cons (wpAny_mono (Q := fun f' s' => f' = .next ∧ ∃ x y tx ty h tk, s' = (⟨h, g, dr, tk, os⟩ : Shared) ∧ 0 < x.length ∧ x.length ≤ y.length ∧ y.length ≤ 40 ∧ D subC y x = D subC a2 b2 ∧
    State mg mb (envOfC (recAt 9).name (recAt 9).scope L a cd) K h (fun z => List.lookup z [("a", .str (Tx x) tx), ("b", .str (Tx y) ty), ("max_cost", .int m v)]) []) ?_ ?_ (fun _ _ e => e))
  · skip
    repeat (walk_at "m")
    try dsimp only
    with_reducible refine lenStr (by omega) fun t₇ tk₇ => ?_
    repeat (walk_at "m")
    try dsimp only
    with_reducible refine lenStr (by omega) fun t₈ tk₈ => ?_
    repeat (walk_at "m")
    try dsimp only
    by_cases hlt : (b2.length : Int) < a2.length
    · rw [if_pos (by simpa using hlt)]
      refine wpAny_execs_cons ?_
      refine Assign_Tuple_swapped (names := ["a", "b"]) ?_ (by with_unfolding_all rfl) (by with_unfolding_all rfl)
      refine Tuple_ ?_
      repeat (walk_at "m")
      try dsimp only
      refine wpAny_newObj_type ?_
      refine unpack2 R' ⟨_, Heap.get?_push_size _ rfl, rfl, 0, rfl⟩ fun h₂ tk₂ hx => ?_
      replace S := (S.ext (ext_push _ _)).ext hx
      refine wpAny_assignInOrder_more (bindName_ ?_)
      refine storeL S O (by with_unfolding_all rfl) ?_
      clear S; intro h₁ tk S; dsimp only at S ⊢
      refine wpAny_assignInOrder_more (bindName_ ?_)
      refine storeL S O (by with_unfolding_all rfl) ?_
      clear S; intro h₁ tk S; dsimp only at S ⊢
      refine wpAny_assignInOrder_none ?_
      repeat (walk_at "m")
      try dsimp only
      exact ⟨rfl, b2, a2, _, _, _, _, rfl, he2.2, by omega, hl3, rfl, S.has (has_cons (by with_unfolding_all rfl) (has_cons (by with_unfolding_all rfl) (has_cons (by with_unfolding_all rfl) has_nil)))⟩
    · rw [if_neg (by simpa using hlt)]
      repeat (walk_at "m")
      try dsimp only
      exact ⟨rfl, a2, b2, _, _, _, _, rfl, he2.1, by omega, hl4, D_symm PS _ _, S⟩
  clear S
  rintro f' s' ⟨rfl, x, y, tx, ty, h₂, tk₂, rfl, hx, hxy, hy, hD, S⟩
  dsimp only
  refine lev_tail R S O hx hxy hy fun r t' h' tk hk hS => ?_
  rw [hD] at hS
  exact h r t' h' tk hk hS

/-- t[:post or None], post being -q -/
theorem cutTo {prog : Program} {w : World} {A : Around} {s : Shared} {mg mb : Str → Option Value} {env : Env} {K : Addr → Obj → Prop} {ρ : Str → Option Value} {ls : List (Addr × List Value)} {Q : Value → Shared → Prop} {x : Str} {cs : List Nat} {t tp : Tok} {q : Nat} {p1 p2 p3 p4 p5 p6 : Pos} {kk : Nat}
    (S : State mg mb env K s.heap ρ ls) (hx : env.kindOf x = some .local) (hp : env.kindOf "post" = some .local) (hxv : ρ x = some (.str (Tx cs) t)) (hpv : ρ "post" = some (.int (-(q : Int)) tp)) (hd : (x == ("__debug__" : Str)) = false)
    (hq : q ≤ cs.length) (hsz : cs.length ≤ 1000) (h : ∀ t' h' tk, Ext s.heap h' → Q (.str (Tx (cs.take (cs.length - q))) t') { s with heap := h', toks := tk }) :
    wpAny (model prog w) A (eval (.Subscript (.Name x p1) (.Slice none (some (.BoolOp .Or [.Name "post" p2, .Constant .none kk p3] p4)) none p5) p6) env) Q Never s := by
  have hsl := sizeLine_eq
  refine Subscript_ (nameL S hx hxv (wpAny_Slice (part_none (part_some (wpAny_Or2 (nameL S hp hpv (P.truthy_int ?_))))) ) hd)
  by_cases h0 : q = 0
  · subst h0
    rw [if_neg (by simp)]
    refine wpAny_Constant_none (part_none ?_)
    refine strAllH (by omega) fun t' h' tk hx => ?_
    have := h t' h' tk hx
    simpa using this
  · rw [if_pos (by simp; omega)]
    refine part_none ?_
    refine strToH (by omega) (by omega) (by omega) fun t' h' tk hx => ?_
    have := h t' h' tk hx
    have e : (-(q : Int) + (cs.length : Int)).toNat = cs.length - q := by omega
    rw [e]; exact this

theorem isTrue_sub {prog : Program} {w : World} {A : Around} {s : Shared} {E : Value → Shared → Prop} {env : Env} {Q : Bool → Shared → Prop} {value slice : PySem.Expr} {pos : Pos}
    (h : wpAny (model prog w) A (eval (.Subscript value slice pos) env) (fun v s₁ => wpAny (model prog w) A (truthy v) Q E s₁) E s) : wpAny (model prog w) A (isTrue (.Subscript value slice pos) env (eval (.Subscript value slice pos) env)) Q E s :=
  wpAny_isTrue_value h (by rfl)

set_option maxHeartbeats 4000000 in
/-- _levenshtein_distance -/
theorem lev_call {prog : Program} {w : World} {A : Around} {s : Shared} {mg mb : Str → Option Value} {Q : Value → Shared → Prop} {E : Value → Shared → Prop} {n : Nat} {f : Addr} {a₀ b₀ : List Nat} {m : Int} {t u v : Tok}
    (R : Room A (n + 2)) (T : Glb mg mb s.heap) (hf : mg (recAt 9).name = some (.ref f)) (h1 : a₀.length ≤ 40) (h2 : b₀.length ≤ 40)
    (h : ∀ r t' h' tk, Ext s.heap h' → Same r (D subC a₀ b₀) m → Q (.int r t') { s with heap := h', toks := tk }) :
    wpAny (model prog w) A (call (.ref f) [.str (Tx a₀) t, .str (Tx b₀) u, .int m v]) Q E s := by
  refine enter 9 (by decide) R T hf (binds := [("a", .str (Tx a₀) t), ("b", .str (Tx b₀) u), ("max_cost", .int m v)]) (fun _ _ _ => rfl) (by rfl) (show (["a", "b", "max_cost"] : List Str).Nodup by decide) (fun L a cd h₁ tk S O => ?_)
  show wpAny _ _ (execs (_ :: _ :: _) _) _ _ _
  have hsl := sizeLine_eq
  have R1 := R.deeper (env := envOfC (recAt 9).name (recAt 9).scope L a cd)
  have R' := R1.handled
  generalize hA : A.deeper (envOfC (recAt 9).name (recAt 9).scope L a cd) = A₁ at R1 R' ⊢
  have PS := price_subC
  repeat (walk_at "m")
  try dsimp only
  by_cases hab : a₀ = b₀
  · rw [if_pos (by simp [hab])]
    repeat (walk_at "m")
    try dsimp only
    refine h _ _ _ _ (fun b o e => S.kept b o e) ⟨fun _ => ?_, fun hm => ?_⟩
    · rw [hab, D_self PS]
    · rw [hab, D_self PS] at hm; exact hm
  rw [if_neg (by simp [hab])]
  repeat (walk_at "m")
  try dsimp only
  refine storeL S O (by with_unfolding_all rfl) ?_
  clear S; intro h₁ tk S; dsimp only at S ⊢
  refine wpAny_execs_cons (wpAny_mono (Q := fun f' s' => f' = .next ∧ ∃ p tp h tk, s' = { s with heap := h, toks := tk } ∧ p ≤ a₀.length ∧ p ≤ b₀.length ∧ a₀.take p = b₀.take p ∧
    State mg mb (envOfC (recAt 9).name (recAt 9).scope L a cd) (fun b o => s.heap.get? b = some o) h (fun z => List.lookup z [("pre", .int (p : Nat) tp), ("a", .str (Tx a₀) t), ("b", .str (Tx b₀) u), ("max_cost", .int m v)]) []) ?_ ?_ (fun _ _ e => e))
  · refine loop_while S (fun k ρ ls => ∃ p tp, p ≤ a₀.length ∧ p ≤ b₀.length ∧ k = a₀.length - p ∧ a₀.take p = b₀.take p ∧ Has ρ [("pre", .int (p : Nat) tp), ("a", .str (Tx a₀) t), ("b", .str (Tx b₀) u), ("max_cost", .int m v)])
      (k₀ := a₀.length) ⟨0, _, by omega, by omega, by omega, rfl, (has_cons (by with_unfolding_all rfl) (has_cons (by with_unfolding_all rfl) (has_cons (by with_unfolding_all rfl) (has_cons (by with_unfolding_all rfl) has_nil))))⟩ ?_
    clear S
    rintro k ρ ls h₁ tk ⟨p, tp, hp1, hp2, rfl, hpre, hH⟩ S
    replace S := (S.sub (ls' := []) (by simp)).has hH
    repeat (walk_at "m")
    try dsimp only
    refine strFromH (by omega) (by omega) (by omega) fun t₁ h₂ tk₂ hx => ?_
    replace S := S.ext hx
    refine truthyStr (by simp; omega) fun tk₃ => ?_
    have ep : ((p : Nat) : Int).toNat = p := by omega
    rw [ep]
    by_cases hpa : p = a₀.length
    · rw [if_neg (by simp [hpa])]
      repeat (walk_at "m")
      try dsimp only
      exact ⟨rfl, p, tp, _, _, rfl, hp1, hp2, hpre, S⟩
    rw [if_pos (by simp; omega)]
    repeat (walk_at "m")
    try dsimp only
    refine strFromH (by omega) (by omega) (by omega) fun t₁ h₂ tk₂ hx => ?_
    replace S := S.ext hx
    refine truthyStr (by simp; omega) fun tk₃ => ?_
    rw [ep]
    by_cases hpb : p = b₀.length
    · rw [if_neg (by simp [hpb])]
      repeat (walk_at "m")
      try dsimp only
      exact ⟨rfl, p, tp, _, _, rfl, hp1, hp2, hpre, S⟩
    rw [if_pos (by simp; omega)]
    obtain ⟨c, hc⟩ : ∃ c, a₀[p]? = some c := ⟨a₀[p]'(by omega), by simp⟩
    obtain ⟨d, hd⟩ : ∃ d, b₀[p]? = some d := ⟨b₀[p]'(by omega), by simp⟩
    repeat (walk_at "m")
    try dsimp only
    with_reducible refine strItem (by omega) (by simpa using hc) (by omega) fun t₄ => ?_
    repeat (walk_at "m")
    try dsimp only
    with_reducible refine strItem (by omega) (by simpa using hd) (by omega) fun t₅ => ?_
    repeat (walk_at "m")
    try dsimp only
    by_cases hcd : c = d
    · rw [if_pos (by simp [hcd])]
      repeat (walk_at "m")
      try dsimp only
      refine storeL S O (by with_unfolding_all rfl) ?_
      clear S; intro h₁ tk S; dsimp only at S ⊢
      repeat (walk_at "m")
      try dsimp only
      have e1 : (p : Int) + 1 = ((p + 1 : Nat) : Int) := by omega
      rw [e1] at S
      refine ⟨_, _, _, _, rfl, S, a₀.length - (p + 1), by omega, p + 1, _, by omega, by omega, rfl, ?_, (has_cons (by with_unfolding_all rfl) (has_cons (by with_unfolding_all rfl) (has_cons (by with_unfolding_all rfl) (has_cons (by with_unfolding_all rfl) has_nil))))⟩
      rw [List.take_add_one, List.take_add_one, hc, hd, hpre, hcd]
    · rw [if_neg (by simp [hcd])]
      repeat (walk_at "m")
      try dsimp only
      exact ⟨rfl, p, tp, _, _, rfl, hp1, hp2, hpre, S⟩
  clear S
  rintro f' s' ⟨rfl, p, tp, h₂, tk₂, rfl, hp1, hp2, hpre, S⟩
  dsimp only
  have ep : ((p : Nat) : Int).toNat = p := by omega
  repeat (walk_at "m")
  try dsimp only
  refine strFromH (by omega) (by omega) (by omega) fun t₁ h₂ tk₂ hx => ?_
  replace S := S.ext hx
  rw [ep]
  refine storeL S O (by with_unfolding_all rfl) ?_
  clear S; intro h₁ tk S; dsimp only at S ⊢
  repeat (walk_at "m")
  try dsimp only
  refine strFromH (by omega) (by omega) (by omega) fun t₂ h₂ tk₂ hx => ?_
  replace S := S.ext hx
  rw [ep]
  refine storeL S O (by with_unfolding_all rfl) ?_
  clear S; intro h₁ tk S; dsimp only at S ⊢
  obtain ⟨a1, ha1⟩ : ∃ a1, a1 = a₀.drop p := ⟨_, rfl⟩
  obtain ⟨b1, hb1⟩ : ∃ b1, b1 = b₀.drop p := ⟨_, rfl⟩
  rw [← ha1, ← hb1] at S
  have hD1 : D subC a₀ b₀ = D subC a1 b1 := by
    rw [← List.take_append_drop p a₀, ← List.take_append_drop p b₀, hpre, D_prefix PS, ha1, hb1]
  have hl1 : a1.length ≤ 40 := by rw [ha1, List.length_drop]; omega
  have hl2 : b1.length ≤ 40 := by rw [hb1, List.length_drop]; omega
  rw [hD1] at h
  clear hD1 ha1 hb1 hpre hp1 hp2 ep hx
  repeat (walk_at "m")
  try dsimp only
  refine storeL S O (by with_unfolding_all rfl) ?_
  clear S; intro h₁ tk S; dsimp only at S ⊢
  replace S := S.has (bs := [("post", .int (-((0 : Nat) : Int)) _), ("a", .str (Tx a1) t₁), ("b", .str (Tx b1) t₂), ("max_cost", .int m v)]) (has_cons (by with_unfolding_all rfl) (has_cons (by with_unfolding_all rfl) (has_cons (by with_unfolding_all rfl) (has_cons (by with_unfolding_all rfl) has_nil))))
  refine wpAny_execs_cons (wpAny_mono (Q := fun f' s' => f' = .next ∧ ∃ q tq h tk, s' = { s with heap := h, toks := tk } ∧ q ≤ a1.length ∧ q ≤ b1.length ∧ a1.drop (a1.length - q) = b1.drop (b1.length - q) ∧
    State mg mb (envOfC (recAt 9).name (recAt 9).scope L a cd) (fun b o => s.heap.get? b = some o) h (fun z => List.lookup z [("post", .int (-((q : Nat) : Int)) tq), ("a", .str (Tx a1) t₁), ("b", .str (Tx b1) t₂), ("max_cost", .int m v)]) []) ?_ ?_ (fun _ _ e => e))
  · refine loop_while S (fun k ρ ls => ∃ q tq, q ≤ a1.length ∧ q ≤ b1.length ∧ k = a1.length - q ∧ a1.drop (a1.length - q) = b1.drop (b1.length - q) ∧ Has ρ [("post", .int (-((q : Nat) : Int)) tq), ("a", .str (Tx a1) t₁), ("b", .str (Tx b1) t₂), ("max_cost", .int m v)])
      (k₀ := a1.length) ⟨0, _, by omega, by omega, by omega, by simp, (has_cons (by with_unfolding_all rfl) (has_cons (by with_unfolding_all rfl) (has_cons (by with_unfolding_all rfl) (has_cons (by with_unfolding_all rfl) has_nil))))⟩ ?_
    clear S
    rintro k ρ ls h₁ tk ⟨q, tq, hp1, hp2, rfl, hpre, hH⟩ S
    replace S := (S.sub (ls' := []) (by simp)).has hH
    refine wpAny_isTrue_BoolOp (wpAny_allTrue_And_cons (isTrue_sub (cutTo S (by with_unfolding_all rfl) (by with_unfolding_all rfl) (by with_unfolding_all rfl) (by with_unfolding_all rfl) (by with_unfolding_all rfl) hp1 (by omega) fun t₃ h₂ tk₂ hx => ?_)))
    replace S := S.ext hx
    refine truthyStr (by simp; omega) fun tk₃ => ?_
    by_cases hpa : q = a1.length
    · rw [if_neg (by simp [hpa])]
      repeat (walk_at "m")
      try dsimp only
      exact ⟨rfl, q, tq, _, _, rfl, hp1, hp2, hpre, S⟩
    rw [if_pos (by
      have : (a1.take (a1.length - q)).length ≠ 0 := by simp; omega
      cases hq : a1.take (a1.length - q) with
      | nil => rw [hq] at this; exact absurd rfl this
      | cons _ _ => rfl)]
    refine wpAny_allTrue_And_cons (isTrue_sub (cutTo S (by with_unfolding_all rfl) (by with_unfolding_all rfl) (by with_unfolding_all rfl) (by with_unfolding_all rfl) (by with_unfolding_all rfl) hp2 (by omega) fun t₃ h₂ tk₂ hx => ?_))
    replace S := S.ext hx
    refine truthyStr (by simp; omega) fun tk₃ => ?_
    by_cases hpb : q = b1.length
    · rw [if_neg (by simp [hpb])]
      repeat (walk_at "m")
      try dsimp only
      exact ⟨rfl, q, tq, _, _, rfl, hp1, hp2, hpre, S⟩
    rw [if_pos (by
      have : (b1.take (b1.length - q)).length ≠ 0 := by simp; omega
      cases hq : b1.take (b1.length - q) with
      | nil => rw [hq] at this; exact absurd rfl this
      | cons _ _ => rfl)]
    obtain ⟨c, hc⟩ : ∃ c, a1[a1.length - q - 1]? = some c := ⟨a1[a1.length - q - 1]'(by omega), by simp⟩
    obtain ⟨d, hd⟩ : ∃ d, b1[b1.length - q - 1]? = some d := ⟨b1[b1.length - q - 1]'(by omega), by simp⟩
    repeat (walk_at "m")
    try dsimp only
    with_reducible refine strItemNeg (c := c) (by omega) (by omega) (by
      have e : (-((q : Nat) : Int) - 1 + (a1.length : Int)).toNat = a1.length - q - 1 := by omega
      rw [e]; exact hc) (by omega) fun t₄ => ?_
    repeat (walk_at "m")
    try dsimp only
    with_reducible refine strItemNeg (c := d) (by omega) (by omega) (by
      have e : (-((q : Nat) : Int) - 1 + (b1.length : Int)).toNat = b1.length - q - 1 := by omega
      rw [e]; exact hd) (by omega) fun t₅ => ?_
    repeat (walk_at "m")
    try dsimp only
    by_cases hcd : c = d
    · rw [if_pos (by simp [hcd])]
      repeat (walk_at "m")
      try dsimp only
      refine storeL S O (by with_unfolding_all rfl) ?_
      clear S; intro h₁ tk S; dsimp only at S ⊢
      repeat (walk_at "m")
      try dsimp only
      have e1 : -((q : Nat) : Int) - 1 = -((q + 1 : Nat) : Int) := by omega
      rw [e1] at S
      refine ⟨_, _, _, _, rfl, S, a1.length - (q + 1), by omega, q + 1, _, by omega, by omega, rfl, ?_, (has_cons (by with_unfolding_all rfl) (has_cons (by with_unfolding_all rfl) (has_cons (by with_unfolding_all rfl) (has_cons (by with_unfolding_all rfl) has_nil))))⟩
      have e2 : a1.drop (a1.length - (q + 1)) = c :: a1.drop (a1.length - q) := by
        rw [List.drop_eq_getElem_cons (by omega)]
        have e3 : a1.length - (q + 1) = a1.length - q - 1 := by omega
        have e4 : a1[a1.length - (q + 1)]'(by omega) = c := by
          have := (List.getElem?_eq_some_iff.mp hc).2
          rw [← this]
          congr 1
        rw [e4]
        congr 2
        omega
      have e5 : b1.drop (b1.length - (q + 1)) = d :: b1.drop (b1.length - q) := by
        rw [List.drop_eq_getElem_cons (by omega)]
        have e4 : b1[b1.length - (q + 1)]'(by omega) = d := by
          have := (List.getElem?_eq_some_iff.mp hd).2
          rw [← this]
          congr 1
        rw [e4]
        congr 2
        omega
      rw [e2, e5, hpre, hcd]
    · rw [if_neg (by simp [hcd])]
      repeat (walk_at "m")
      try dsimp only
      exact ⟨rfl, q, tq, _, _, rfl, hp1, hp2, hpre, S⟩
  clear S
  rintro f' s' ⟨rfl, q, tq, h₂, tk₂, rfl, hp1, hp2, hpre, S⟩
  dsimp only
  refine wpAny_execs_cons (wpAny_Assign_Name (cutTo S (by with_unfolding_all rfl) (by with_unfolding_all rfl) (by with_unfolding_all rfl) (by with_unfolding_all rfl) (by with_unfolding_all rfl) hp1 (by omega) fun t₃ h₂ tk₂ hx => ?_) (by with_unfolding_all rfl))
  replace S := S.ext hx
  refine storeL S O (by with_unfolding_all rfl) ?_
  clear S; intro h₁ tk S; dsimp only at S ⊢
  refine wpAny_execs_cons (wpAny_Assign_Name (cutTo (cs := b1) (t := t₂) S (by with_unfolding_all rfl) (by with_unfolding_all rfl) (by with_unfolding_all rfl) (by with_unfolding_all rfl) (by with_unfolding_all rfl) hp2 (by omega) fun t₄ h₂ tk₂ hx => ?_) (by with_unfolding_all rfl))
  replace S := S.ext hx
  refine storeL S O (by with_unfolding_all rfl) ?_
  clear S; intro h₁ tk S; dsimp only at S ⊢
  obtain ⟨a2, ha2⟩ : ∃ a2, a2 = a1.take (a1.length - q) := ⟨_, rfl⟩
  obtain ⟨b2, hb2⟩ : ∃ b2, b2 = b1.take (b1.length - q) := ⟨_, rfl⟩
  rw [← ha2, ← hb2] at S
  have hD2 : D subC a1 b1 = D subC a2 b2 := by
    rw [← List.take_append_drop (a1.length - q) a1, ← List.take_append_drop (b1.length - q) b1, hpre, D_suffix PS, ha2, hb2]
  have hl3 : a2.length ≤ 40 := by rw [ha2, List.length_take]; omega
  have hl4 : b2.length ≤ 40 := by rw [hb2, List.length_take]; omega
  rw [hD2] at h
  clear hD2 ha2 hb2 hpre hp1 hp2 hx
  replace S := S.has (bs := [("a", .str (Tx a2) t₃), ("b", .str (Tx b2) t₄), ("max_cost", .int m v)]) (has_cons (by with_unfolding_all rfl) (has_cons (by with_unfolding_all rfl) (has_cons (by with_unfolding_all rfl) has_nil)))
  refine lev_mid R1 S O (by omega) (by omega) fun r t' h' tk hk hS => ?_
  exact h r t' h' tk (fun b o e => hk b o e) hS

/-- how many are at most v -/
def cnt (ns : List Int) (v : Int) : Nat := (ns.filter fun x => decide (x ≤ v)).length
theorem cnt_cons (x : Int) (ns : List Int) (v : Int) : cnt (x :: ns) v = (if x ≤ v then 1 else 0) + cnt ns v := by
  unfold cnt
  rw [List.filter_cons]
  by_cases h : x ≤ v
  · simp [h]; omega
  · simp [h]
theorem cnt_all {ns : List Int} {v : Int} (h : ∀ x ∈ ns, x ≤ v) : cnt ns v = ns.length := by
  unfold cnt
  rw [List.filter_eq_self.mpr fun x hx => by simpa using h x hx]
theorem cnt_none {ns : List Int} {v : Int} (h : ∀ x ∈ ns, v < x) : cnt ns v = 0 := by
  unfold cnt
  rw [List.length_eq_zero_iff, List.filter_eq_nil_iff]
  intro x hx
  have := h x hx
  simp; omega
theorem ints_mem : ∀ {vs : List Value} {ns : List Int}, IntsAre vs ns → ∀ v ∈ vs, ∃ k t, v = .int k t ∧ k ∈ ns
  | _, _, .nil, v, hv => by cases hv
  | _, _, .cons n t tl, v, hv => by
    rcases List.mem_cons.mp hv with rfl | hv
    · exact ⟨n, t, rfl, List.mem_cons_self⟩
    · obtain ⟨k, t', e, hk⟩ := ints_mem tl v hv
      exact ⟨k, t', e, List.mem_cons_of_mem _ hk⟩
theorem ints_filter (q : Int → Bool) : ∀ {vs : List Value} {ns : List Int}, IntsAre vs ns → IntsAre (vs.filter fun v => q (numOf v)) (ns.filter q)
  | _, _, .nil => .nil
  | _, _, .cons n t tl => by
    have ih := ints_filter q tl
    rw [List.filter_cons, List.filter_cons]
    show IntsAre (if q n = true then _ else _) (if q n = true then _ else _)
    by_cases h : q n = true
    · rw [if_pos h, if_pos h]; exact .cons n t ih
    · rw [if_neg h, if_neg h]; exact ih
theorem paired_eq : ∀ {l ys : List Value}, Paired (fun v y => y = v) l ys → ys = l
  | _, _, .nil => rfl
  | _, _, .cons e tl => by rw [e, paired_eq tl]

/-- _law_radius -/
theorem radius_call {prog : Program} {w : World} {A : Around} {s : Shared} {mg mb : Str → Option Value} {Q : Value → Shared → Prop} {E : Value → Shared → Prop} {n : Nat} {f l : Addr} {vs : List Value} {ns : List Int} {M : Nat}
    (R : Room A (n + 1)) (T : Glb mg mb s.heap) (hf : mg (recAt 14).name = some (.ref f)) (hl : s.heap.IsList l vs.toArray) (hI : IntsAre vs ns) (h64 : vs.length < 64) (hne : 0 < ns.length) (hM : ∀ x ∈ ns, 0 ≤ x ∧ x ≤ (M : Int)) (hM2 : M ≤ 1000)
    (h : ∀ (r : Nat) t h' tk, Ext s.heap h' → ns.length < 2 * cnt ns r → (∀ v : Int, v < r → 2 * cnt ns v ≤ ns.length) → Q (.int r t) { s with heap := h', toks := tk }) :
    wpAny (model prog w) A (call (.ref f) [.ref l]) Q E s := by
  refine enter 14 (by decide) R T hf (binds := [("row", .ref l)]) (fun _ _ _ => rfl) (by rfl) (by simp) (fun L a cd h₁ tk S O => ?_)
  show wpAny _ _ (execs (_ :: _ :: _) _) _ _ _
  have hsl := sizeLine_eq
  have hlen := hI.length
  have R' := (R.deeper (env := envOfC (recAt 14).name (recAt 14).scope L a cd)).handled
  repeat (walk_at "m")
  try dsimp only
  refine storeC S O (by with_unfolding_all rfl) (by with_unfolding_all rfl) ?_
  clear S; intro h₁ tk S; dsimp only at S ⊢
  refine wpAny_execs_cons ?_
  refine loop_while S (fun k ρ ls => ∃ (r : Nat) (tr : Tok), k = M - r ∧ r ≤ M ∧ Has ρ [("radius", .int r tr), ("row", .ref l)] ∧ ∀ v : Int, v < r → 2 * cnt ns v ≤ ns.length) (k₀ := M)
    ⟨0, _, by omega, by omega, (has_cons (by with_unfolding_all rfl) (has_cons (by with_unfolding_all rfl) has_nil)), fun v hv => by rw [cnt_none fun x hx => by have := (hM x hx).1; omega]; omega⟩ ?_
  clear S
  rintro k ρ ls h₁ tk ⟨r, tr, rfl, hr, hH, hless⟩ S
  replace S := (S.sub (ls' := []) (by simp)).has hH
  repeat (walk_at "m")
  try dsimp only
  refine compE (fun v => decide (numOf v ≤ (r : Int))) (fun v y => y = v) (CompOk.of (by with_unfolding_all rfl) (by with_unfolding_all rfl)) ?_
  repeat (walk_at "m")
  try dsimp only
  refine comp_list (fun v => decide (numOf v ≤ (r : Int))) (fun v y => y = v) R' (hl.at fun o e => S.kept _ _ e) (by omega) S (CompOk.of (by with_unfolding_all rfl) (by with_unfolding_all rfl)) ?_ ?_ ?_
  · intro C x s₃ hx hx₃ S₃
    obtain ⟨k, t, rfl, hk⟩ := ints_mem hI x hx
    refine wpAny_tests_one ?_
    repeat (walk_at "m")
    try dsimp only
    exact ⟨rfl, _, _, rfl, Ext.refl _⟩
  · intro C x s₃ hx _ hx₃ S₃
    repeat (walk_at "m")
    try dsimp only
    exact ⟨rfl, _, _, rfl, Ext.refl _⟩
  intro D₀ h₃ tk₃ ys hx hD hpl hP
  have hys := paired_eq hP
  subst hys
  have hcnt : (vs.filter fun v => decide (numOf v ≤ (r : Int))).length = cnt ns r := (ints_filter (fun x => decide (x ≤ (r : Int))) hI).length
  have hle : cnt ns r ≤ ns.length := List.length_filter_le _ _
  replace S := (S.ext hx).add hpl
  repeat (walk_at "m")
  try dsimp only
  with_reducible refine lenList (S.lists _ (List.Mem.head _)).isList (by show List.length (List.filter _ _) ≤ _; omega) fun t₁ tk₁ => ?_
  show wpAny _ _ (binaryOp _ _ (.int ((List.filter _ _).length : Nat) _)) _ _ _
  rw [hcnt]
  with_reducible refine mul2l (by omega) fun t₂ tk₂ => ?_
  repeat (walk_at "m")
  try dsimp only
  with_reducible refine lenList (hl.at fun o e => S.kept _ _ e) (by omega) fun t₃ tk₃ => ?_
  repeat (walk_at "m")
  try dsimp only
  rw [hlen]
  by_cases hle2 : 2 * cnt ns r ≤ ns.length
  · rw [if_pos (by simp; omega)]
    repeat (walk_at "m")
    try dsimp only
    refine storeC S O (by with_unfolding_all rfl) (by with_unfolding_all rfl) ?_
    clear S; intro h₁ tk S; dsimp only at S ⊢
    repeat (walk_at "m")
    try dsimp only
    have e1 : (r : Int) + 1 = ((r + 1 : Nat) : Int) := by omega
    rw [e1] at S
    have hrM : r < M := by
      rcases Nat.lt_or_ge r M with q | q
      · exact q
      · exfalso
        rw [cnt_all fun x hx => by have := (hM x hx).2; omega] at hle2
        omega
    refine ⟨_, _, _, _, rfl, S, M - (r + 1), by omega, r + 1, _, rfl, by omega, (has_cons (by with_unfolding_all rfl) (has_cons (by with_unfolding_all rfl) has_nil)), fun v hv => ?_⟩
    by_cases hv2 : v < r
    · exact hless v hv2
    · have : v = (r : Int) := by omega
      rw [this]; exact hle2
  · rw [if_neg (by simp; omega)]
    repeat (walk_at "m")
    try dsimp only
    exact h r _ _ _ (fun b o e => S.kept b o e) (by omega) hless

set_option maxHeartbeats 4000000 in
/-- _law_costs -/
theorem costs_call {prog : Program} {w : World} {A : Around} {s : Shared} {mg mb : Str → Option Value} {Q : Value → Shared → Prop} {E : Value → Shared → Prop} {n : Nat} {f lw : Addr} {wv : List Value} {ws : List (List Nat)} 
    (R : Room A (n + 3)) (T : Glb mg mb s.heap) (hf : mg (recAt 13).name = some (.ref f)) (hl : s.heap.IsList lw wv.toArray) (hW : TxAre wv ws) (h64 : ws.length < 64) (hws : ∀ cs ∈ ws, cs.length ≤ 40)
    (h : ∀ l X h' tk, Ext s.heap h' → s.heap.get? l = none → MatAt h' l ws.length X → (∀ k j, j < k → k < ws.length → X k j = X j k) →
      (∀ k j cs ds x, k ≤ j → ws[k]? = some cs → ws[j]? = some ds → x = X k j → x = D subC cs ds) → Q (.ref l) { s with heap := h', toks := tk }) :
    wpAny (model prog w) A (call (.ref f) [.ref lw]) Q E s := by
  refine enter 13 (by decide) R T hf (binds := [("words", .ref lw)]) (fun _ _ _ => rfl) (by rfl) (by simp) (fun L a cd h₁ tk S O => ?_)
  show wpAny _ _ (execs (_ :: _ :: _) _) _ _ _
  have hsl := sizeLine_eq
  have R1 := R.deeper (env := envOfC (recAt 13).name (recAt 13).scope L a cd)
  have R' := R1.handled
  generalize hA : A.deeper (envOfC (recAt 13).name (recAt 13).scope L a cd) = A₁ at R1 R' ⊢
  have hwl : wv.length = ws.length := hW.1
  repeat (walk_at "m")
  try dsimp only
  refine List_ ?_
  repeat (walk_at "m")
  try dsimp only
  with_reducible refine newListI (by simp) fun lc h₂ tk₂ hx hlc hpl => ?_
  have hK : ∀ o, s.heap.get? lc ≠ some o := fun o e => by
    have := S.kept lc o e
    rw [hlc] at this; cases this
  replace S := (S.ext hx).add hpl
  dsimp only at S ⊢
  refine storeC S O (by with_unfolding_all rfl) (by with_unfolding_all rfl) ?_
  clear S; intro h₁ tk S; dsimp only at S ⊢
  refine wpAny_execs_cons ?_
  refine wpAny_For ?_
  repeat (walk_at "m")
  try dsimp only
  with_reducible refine lenList (hl.at fun o e => S.kept _ _ e) (by omega) fun t₂ tk₂ => ?_
  repeat (walk_at "m")
  try dsimp only
  with_reducible refine range1 fun r h₂ tk₂ a₂ b₂ c₂ hx₂ hr => ?_
  replace S := S.ext hx₂
  dsimp only
  refine loop_range (n := ws.length) R' hr (small_n (by omega)) (by rw [rs_n, hwl]) S O (.inr ⟨by with_unfolding_all rfl, _, by with_unfolding_all rfl⟩)
    (fun i ρ ls => ∃ (X : Nat → Nat → Int) (rs : List Addr), Has ρ [("costs", .ref lc), ("words", .ref lw)] ∧ rs.length = i ∧ (lc, rs.map Value.ref) ∈ ls ∧
      (∀ (k : Nat) (r : Addr), rs[k]? = some r → r ≠ lc ∧ ∃ vs, (r, vs) ∈ ls ∧ IntsAre vs ((List.range ws.length).map (X k))) ∧ (∀ k j, j < k → k < i → X k j = X j k) ∧
      ∀ k j cs ds x, k < i → k ≤ j → ws[k]? = some cs → ws[j]? = some ds → x = X k j → x = D subC cs ds)
    ⟨fun _ _ => 0, [], (has_cons (by with_unfolding_all rfl) (has_cons (by with_unfolding_all rfl) has_nil)), rfl, List.Mem.head _, fun k r h => by simp at h, fun k j _ h => by omega, fun k j cs ds x h => by omega⟩ ?_ ?_
  · clear S hpl hx₂ hr hx hlc O
    rintro i ti K' ρ ls h₅ tk₅ hi hKK hnl ⟨X, rs, hH, hrl, hlm, hrows, hsym, hrel⟩ S O
    have hK' : ∀ o, ¬ K' lc o := fun o e => hK o (hnl _ hlm o e)
    replace S := S.has (hH.upd (x := "i") (show ("i" : Str) ∉ (["costs", "words"] : List Str) by decide))
    have e1 : (0 : Int) + (i : Int) * 1 = (i : Int) := by omega
    rw [e1] at S
    refine wpAny_execs_cons ?_
    refine compA (fun v => (fun _ => true) (numOf v)) (fun v y => (fun (k : Int) y => ∃ t, y = Value.int (X k.toNat i) t) (numOf v) y) (CompOk.of (by with_unfolding_all rfl) (by with_unfolding_all rfl)) S.kind (by with_unfolding_all rfl) (by with_unfolding_all rfl) ?_
    repeat (walk_at "m")
    try dsimp only
    with_reducible refine range1 fun r h₂ tk₂ a₂ b₂ c₂ hx₂ hr => ?_
    replace S := S.ext hx₂
    dsimp only
    refine comp_rangeA (n := i) (fun _ => true) (fun (k : Int) y => ∃ t, y = Value.int (X k.toNat i) t) R' hr (small_n (by omega)) rs_n (by omega) S O (by with_unfolding_all rfl) (CompOk.of (by with_unfolding_all rfl) (by with_unfolding_all rfl)) ?_ ?_ ?_
    · intro C k t s₃ hk hx₃ S₃
      exact wpAny_tests_nil ⟨rfl, _, _, rfl, Ext.refl _⟩
    · intro C k t s₃ hk _ hx₃ S₃
      obtain ⟨j, hj, rfl⟩ := rng_mem hk
      have e2 : (0 : Int) + (j : Int) * 1 = (j : Int) := by omega
      rw [e2] at S₃ ⊢
      obtain ⟨r', hr'⟩ : ∃ r', rs[j]? = some r' := ⟨rs[j]'(by omega), by simp⟩
      obtain ⟨_, vs, hvm, hvI⟩ := hrows j r' hr'
      obtain ⟨u, hu⟩ := intsAt hvI (k := i) (v := X j i) (by simp [hi])
      repeat (walk_at "m")
      try dsimp only
      with_reducible refine itemN (x := .ref r') (S₃.lists _ hlm).isList (by omega) (by simpa using hr') ?_
      repeat (walk_at "m")
      try dsimp only
      with_reducible refine itemN (x := .int (X j i) u) (S₃.lists _ hvm).isList (by omega) (by simpa using hu) ?_
      exact ⟨⟨u, rfl⟩, _, _, rfl, Ext.refl _⟩
    intro kn h₃ tk₃ kv hkn hkl hP S
    have hkI := ints_of_paired hP
    rw [filter_true] at hkI
    replace S := (S.add hkl).has (bs := [("known", .ref kn), ("i", .int i ti), ("costs", .ref lc), ("words", .ref lw)]) (has_cons (by with_unfolding_all rfl) (has_cons (by with_unfolding_all rfl) (has_cons (by with_unfolding_all rfl) (has_cons (by with_unfolding_all rfl) has_nil))))
    refine wpAny_execs_cons ?_
    refine wpAny_Expr ?_ (by with_unfolding_all rfl) (by with_unfolding_all rfl)
    refine MethodCall_ ?_ (by with_unfolding_all rfl)
    repeat (walk_at "m")
    try dsimp only
    refine appendMeth (S.lists _ (List.Mem.tail _ hlm)) ?_
    refine callWith_method1 ?_ (by with_unfolding_all rfl) (by with_unfolding_all rfl)
    repeat (walk_at "m")
    try dsimp only
    refine compE (fun v => (fun _ => true) (numOf v)) (fun v y => (fun (k : Int) y => ∃ x t, y = Value.int x t ∧ (fun (k x : Int) => ∃ cs ds, ws[i]? = some cs ∧ ws[k.toNat]? = some ds ∧ x = D subC cs ds) k x) (numOf v) y) (CompOk.of (by with_unfolding_all rfl) (by with_unfolding_all rfl)) ?_
    repeat (walk_at "m")
    try dsimp only
    with_reducible refine lenList (hl.at fun o e => S.kept _ _ (hKK _ _ e)) (by omega) fun t₂ tk₂ => ?_
    repeat (walk_at "m")
    try dsimp only
    with_reducible refine range2 fun r h₂ tk₂ a₂ b₂ c₂ hx₂ hr => ?_
    replace S := S.ext hx₂
    dsimp only
    refine comp_range (n := ws.length - i) (fun _ => true) (fun (k : Int) y => ∃ x t, y = Value.int x t ∧ (fun (k x : Int) => ∃ cs ds, ws[i]? = some cs ∧ ws[k.toNat]? = some ds ∧ x = D subC cs ds) k x) R' hr (small_up (by omega) (by omega) (by omega)) (by rw [rs_up (by omega)]; omega) (by omega) S (CompOk.of (by with_unfolding_all rfl) (by with_unfolding_all rfl)) ?_ ?_ ?_
    · intro C k t s₃ hk hx₃ S₃
      exact wpAny_tests_nil ⟨rfl, _, _, rfl, Ext.refl _⟩
    · intro C k t s₃ hk _ hx₃ S₃
      obtain ⟨j', hj', rfl⟩ := rng_mem hk
      obtain ⟨j, hj⟩ : ∃ j : Nat, j = i + j' := ⟨_, rfl⟩
      have e2 : (i : Int) + (j' : Int) * 1 = (j : Int) := by omega
      rw [e2] at S₃ ⊢
      obtain ⟨cs, hcs⟩ : ∃ cs, ws[i]? = some cs := ⟨ws[i], by simp [hi]⟩
      obtain ⟨ds, hds⟩ : ∃ ds, ws[j]? = some ds := ⟨ws[j]'(by omega), by simp⟩
      obtain ⟨u1, hu1⟩ := hW.2 i cs hcs
      obtain ⟨u2, hu2⟩ := hW.2 j ds hds
      have hc1 := hws cs (List.mem_of_getElem? hcs)
      have hc2 := hws ds (List.mem_of_getElem? hds)
      have hlw₃ : s₃.heap.IsList lw wv.toArray := hl.at fun o e => hx₃ _ _ (S.kept _ _ (hKK _ _ e))
      obtain ⟨fs, os, pms, cds, docs, hfs, -, -, -⟩ := S₃.glb.fn 12 (by decide)
      repeat (walk_at "m")
      try dsimp only
      refine nameG S₃ (by with_unfolding_all rfl) hfs ?_
      refine callDef 12 (by decide) hfs S₃.glb ?_
      repeat (walk_at "m")
      try dsimp only
      with_reducible refine itemN hlw₃ (by omega) (by simpa using hu1) ?_
      repeat (walk_at "m")
      try dsimp only
      with_reducible refine itemN hlw₃ (by omega) (by simpa using hu2) ?_
      repeat (walk_at "m")
      try dsimp only
      refine ⟨Ext.refl _, ?_⟩
      refine cost_call R1 S₃.glb hfs (by omega) (by omega) fun t₆ h₈ tk₈ hx₈ => ?_
      exact ⟨⟨_, t₆, rfl, cs, ds, hcs, by simpa using hds, rfl⟩, _, _, rfl, hx₈⟩
    intro nw h₄ tk₄ ys hx₄ hnw hnl₄ hP₄
    obtain ⟨zs, hzI, hzl, hzr⟩ := paired_rel hP₄
    rw [filter_true, rng_len] at hzl
    rw [filter_true] at hzr
    replace S := (S.ext hx₄).add hnl₄
    have hkvl : kv.length = i := by rw [hkI.length]; simp [rng_len]
    have hysl : ys.length = ws.length - i := by rw [hzI.length, hzl]
    with_reducible refine addL (S.lists _ (List.Mem.tail _ (List.Mem.head _))).isList (S.lists _ (List.Mem.head _)).isList (by show kv.length + ys.length ≤ _; omega) fun rw₁ h₅ tk₅ hx₅ hrw hrl₅ => ?_
    have hrI := ints_append hkI hzI
    rw [addRow_row (by omega) hzl] at hrI
    have hrwlc : rw₁ ≠ lc := fun q => by
      obtain ⟨_, ho⟩ := S.lists _ (List.Mem.tail _ (List.Mem.tail _ hlm))
      rw [q] at hrw
      rw [hrw] at ho; cases ho
    replace S := (S.ext hx₅).add hrl₅
    repeat (walk_at "m")
    try dsimp only
    have hlm₂ := S.lists _ (List.Mem.tail _ (List.Mem.tail _ (List.Mem.tail _ hlm)))
    refine appendL (vs := rs.map Value.ref) hlm₂ (by simp; omega) fun h₆ hl₆ hs₆ => ?_
    replace S := (S.sub (ls' := (rw₁, kv ++ ys) :: ls.filter fun p => decide (p.1 ≠ lc)) (fun p hp => by
      rcases List.mem_cons.mp hp with rfl | hp
      · exact List.Mem.head _
      · exact List.Mem.tail _ (List.Mem.tail _ (List.Mem.tail _ (List.mem_filter.mp hp).1)))).setList (vs' := (rs ++ [rw₁]).map Value.ref) hlm₂.isList hK' (fun p hp => by
      rcases List.mem_cons.mp hp with rfl | hp
      · exact hrwlc
      · simpa using (List.mem_filter.mp hp).2) (by simpa using hl₆) hs₆
    dsimp only at S ⊢
    repeat (walk_at "m")
    try dsimp only
    refine ⟨_, _, _, _, rfl, S, addRow X i zs, rs ++ [rw₁], (has_cons (by with_unfolding_all rfl) (has_cons (by with_unfolding_all rfl) has_nil)), by simp [hrl], List.Mem.head _, ?_, ?_, ?_⟩
    · intro k r' hr'
      by_cases hk : k < i
      · rw [List.getElem?_append_left (by omega)] at hr'
        obtain ⟨h1, vs, h2, h3⟩ := hrows k r' hr'
        refine ⟨h1, vs, List.Mem.tail _ (List.Mem.tail _ (List.mem_filter.mpr ⟨h2, by simpa using h1⟩)), ?_⟩
        rw [addRow_old hk]; exact h3
      · rw [List.getElem?_append_right (by omega)] at hr'
        have hk2 : k = i := by
          have := (List.getElem?_eq_some_iff.mp hr').1
          simp at this; omega
        have : r' = rw₁ := by
          rw [hk2, hrl] at hr'
          simpa using hr'.symm
        subst this hk2
        exact ⟨hrwlc, _, List.Mem.tail _ (List.Mem.head _), hrI⟩
    · intro k j hj hk
      by_cases hk2 : k = i
      · subst hk2
        simp [addRow, hj, show j ≠ k by omega]
      · have := hsym k j hj (by omega)
        simp [addRow, hk2, show j ≠ i by omega, this]
    · intro k j cs ds x hk hkj hcs hds hx
      by_cases hk2 : k = i
      · subst hk2
        have hjl : j < ws.length := (List.getElem?_eq_some_iff.mp hds).1
        have hz : zs[j - k]? = some (zs[j - k]'(by omega)) := by simp
        obtain ⟨cs', ds', h1, h2, h3⟩ := hzr (j - k) _ _ (rng_get (by omega)) hz
        have e3 : ((k : Int) + ((j - k : Nat) : Int) * 1).toNat = j := by omega
        rw [e3, hds] at h2
        rw [hcs] at h1
        cases h1; cases h2
        have e4 : x = zs[j - k]'(by omega) := by
          rw [hx]
          simp [addRow, show ¬ j < k by omega, List.getD_eq_getElem?_getD, hz]
        rw [e4]; exact h3
      · refine hrel k j cs ds x (by omega) hkj hcs hds ?_
        rw [hx]; simp [addRow, hk2]
  · rintro ρ ls h₅ tk₅ ⟨X, rs, hH, hrl, hlm, hrows, hsym, hrel⟩ S
    replace S := S.has hH
    dsimp only
    repeat (walk_at "m")
    try dsimp only
    have hx : Ext s.heap h₅ := fun b o e => S.kept b o e
    refine h lc X _ _ hx ?_ ⟨rs, hrl, S.lists _ hlm, fun k r hr => ?_⟩ hsym fun k j cs ds x hkj hcs hds hx => hrel k j cs ds x (List.getElem?_eq_some_iff.mp hcs).1 hkj hcs hds hx
    · cases e : s.heap.get? lc with
      | none => rfl
      | some o => exact absurd e (hK o)
    · obtain ⟨h1, vs, h2, h3⟩ := hrows k r hr
      exact ⟨h1, vs, S.lists _ h2, h3⟩

set_option maxHeartbeats 4000000 in
/-- _law_told -/
theorem told_call {prog : Program} {w : World} {A : Around} {s : Shared} {mg mb : Str → Option Value} {Q : Value → Shared → Prop} {E : Value → Shared → Prop} {n : Nat} {f lw : Addr} {wv : List Value} {ws : List (List Nat)} {bd : Int} {tb : Tok} 
    (R : Room A (n + 3)) (T : Glb mg mb s.heap) (hf : mg (recAt 15).name = some (.ref f)) (hl : s.heap.IsList lw wv.toArray) (hW : TxAre wv ws) (h64 : ws.length < 64) (hws : ∀ cs ∈ ws, cs.length ≤ 40)
    (h : ∀ l X h' tk, Ext s.heap h' → s.heap.get? l = none → MatAt h' l ws.length X → (∀ k j, j < k → k < ws.length → X k j = X j k) →
      (∀ k j cs ds x, k ≤ j → ws[k]? = some cs → ws[j]? = some ds → x = X k j → Same x (D subC cs ds) bd) → Q (.ref l) { s with heap := h', toks := tk }) :
    wpAny (model prog w) A (call (.ref f) [.ref lw, .int bd tb]) Q E s := by
  refine enter 15 (by decide) R T hf (binds := [("words", .ref lw), ("bound", .int bd tb)]) (fun _ _ _ => rfl) (by rfl) (show (["words", "bound"] : List Str).Nodup by decide) (fun L a cd h₁ tk S O => ?_)
  show wpAny _ _ (execs (_ :: _ :: _) _) _ _ _
  have hsl := sizeLine_eq
  have R1 := R.deeper (env := envOfC (recAt 15).name (recAt 15).scope L a cd)
  have R' := R1.handled
  generalize hA : A.deeper (envOfC (recAt 15).name (recAt 15).scope L a cd) = A₁ at R1 R' ⊢
  have hwl : wv.length = ws.length := hW.1
  repeat (walk_at "m")
  try dsimp only
  refine List_ ?_
  repeat (walk_at "m")
  try dsimp only
  with_reducible refine newListI (by simp) fun lc h₂ tk₂ hx hlc hpl => ?_
  have hK : ∀ o, s.heap.get? lc ≠ some o := fun o e => by
    have := S.kept lc o e
    rw [hlc] at this; cases this
  replace S := (S.ext hx).add hpl
  dsimp only at S ⊢
  refine storeC S O (by with_unfolding_all rfl) (by with_unfolding_all rfl) ?_
  clear S; intro h₁ tk S; dsimp only at S ⊢
  refine wpAny_execs_cons ?_
  refine wpAny_For ?_
  repeat (walk_at "m")
  try dsimp only
  with_reducible refine lenList (hl.at fun o e => S.kept _ _ e) (by omega) fun t₂ tk₂ => ?_
  repeat (walk_at "m")
  try dsimp only
  with_reducible refine range1 fun r h₂ tk₂ a₂ b₂ c₂ hx₂ hr => ?_
  replace S := S.ext hx₂
  dsimp only
  refine loop_range (n := ws.length) R' hr (small_n (by omega)) (by rw [rs_n, hwl]) S O (.inr ⟨by with_unfolding_all rfl, _, by with_unfolding_all rfl⟩)
    (fun i ρ ls => ∃ (X : Nat → Nat → Int) (rs : List Addr), Has ρ [("told", .ref lc), ("bound", Value.int bd tb), ("words", .ref lw)] ∧ rs.length = i ∧ (lc, rs.map Value.ref) ∈ ls ∧
      (∀ (k : Nat) (r : Addr), rs[k]? = some r → r ≠ lc ∧ ∃ vs, (r, vs) ∈ ls ∧ IntsAre vs ((List.range ws.length).map (X k))) ∧ (∀ k j, j < k → k < i → X k j = X j k) ∧
      ∀ k j cs ds x, k < i → k ≤ j → ws[k]? = some cs → ws[j]? = some ds → x = X k j → Same x (D subC cs ds) bd)
    ⟨fun _ _ => 0, [], (has_cons (by with_unfolding_all rfl) (has_cons (by with_unfolding_all rfl) (has_cons (by with_unfolding_all rfl) has_nil))), rfl, List.Mem.head _, fun k r h => by simp at h, fun k j _ h => by omega, fun k j cs ds x h => by omega⟩ ?_ ?_
  · clear S hpl hx₂ hr hx hlc O
    rintro i ti K' ρ ls h₅ tk₅ hi hKK hnl ⟨X, rs, hH, hrl, hlm, hrows, hsym, hrel⟩ S O
    have hK' : ∀ o, ¬ K' lc o := fun o e => hK o (hnl _ hlm o e)
    replace S := S.has (hH.upd (x := "i") (show ("i" : Str) ∉ (["told", "bound", "words"] : List Str) by decide))
    have e1 : (0 : Int) + (i : Int) * 1 = (i : Int) := by omega
    rw [e1] at S
    refine wpAny_execs_cons ?_
    refine compA (fun v => (fun _ => true) (numOf v)) (fun v y => (fun (k : Int) y => ∃ t, y = Value.int (X k.toNat i) t) (numOf v) y) (CompOk.of (by with_unfolding_all rfl) (by with_unfolding_all rfl)) S.kind (by with_unfolding_all rfl) (by with_unfolding_all rfl) ?_
    repeat (walk_at "m")
    try dsimp only
    with_reducible refine range1 fun r h₂ tk₂ a₂ b₂ c₂ hx₂ hr => ?_
    replace S := S.ext hx₂
    dsimp only
    refine comp_rangeA (n := i) (fun _ => true) (fun (k : Int) y => ∃ t, y = Value.int (X k.toNat i) t) R' hr (small_n (by omega)) rs_n (by omega) S O (by with_unfolding_all rfl) (CompOk.of (by with_unfolding_all rfl) (by with_unfolding_all rfl)) ?_ ?_ ?_
    · intro C k t s₃ hk hx₃ S₃
      exact wpAny_tests_nil ⟨rfl, _, _, rfl, Ext.refl _⟩
    · intro C k t s₃ hk _ hx₃ S₃
      obtain ⟨j, hj, rfl⟩ := rng_mem hk
      have e2 : (0 : Int) + (j : Int) * 1 = (j : Int) := by omega
      rw [e2] at S₃ ⊢
      obtain ⟨r', hr'⟩ : ∃ r', rs[j]? = some r' := ⟨rs[j]'(by omega), by simp⟩
      obtain ⟨_, vs, hvm, hvI⟩ := hrows j r' hr'
      obtain ⟨u, hu⟩ := intsAt hvI (k := i) (v := X j i) (by simp [hi])
      repeat (walk_at "m")
      try dsimp only
      with_reducible refine itemN (x := .ref r') (S₃.lists _ hlm).isList (by omega) (by simpa using hr') ?_
      repeat (walk_at "m")
      try dsimp only
      with_reducible refine itemN (x := .int (X j i) u) (S₃.lists _ hvm).isList (by omega) (by simpa using hu) ?_
      exact ⟨⟨u, rfl⟩, _, _, rfl, Ext.refl _⟩
    intro kn h₃ tk₃ kv hkn hkl hP S
    have hkI := ints_of_paired hP
    rw [filter_true] at hkI
    replace S := (S.add hkl).has (bs := [("known", .ref kn), ("i", .int i ti), ("told", .ref lc), ("bound", Value.int bd tb), ("words", .ref lw)]) (has_cons (by with_unfolding_all rfl) (has_cons (by with_unfolding_all rfl) (has_cons (by with_unfolding_all rfl) (has_cons (by with_unfolding_all rfl) (has_cons (by with_unfolding_all rfl) has_nil)))))
    refine wpAny_execs_cons ?_
    refine wpAny_Expr ?_ (by with_unfolding_all rfl) (by with_unfolding_all rfl)
    refine MethodCall_ ?_ (by with_unfolding_all rfl)
    repeat (walk_at "m")
    try dsimp only
    refine appendMeth (S.lists _ (List.Mem.tail _ hlm)) ?_
    refine callWith_method1 ?_ (by with_unfolding_all rfl) (by with_unfolding_all rfl)
    repeat (walk_at "m")
    try dsimp only
    refine compE (fun v => (fun _ => true) (numOf v)) (fun v y => (fun (k : Int) y => ∃ x t, y = Value.int x t ∧ (fun (k x : Int) => ∃ cs ds, ws[i]? = some cs ∧ ws[k.toNat]? = some ds ∧ Same x (D subC cs ds) bd) k x) (numOf v) y) (CompOk.of (by with_unfolding_all rfl) (by with_unfolding_all rfl)) ?_
    repeat (walk_at "m")
    try dsimp only
    with_reducible refine lenList (hl.at fun o e => S.kept _ _ (hKK _ _ e)) (by omega) fun t₂ tk₂ => ?_
    repeat (walk_at "m")
    try dsimp only
    with_reducible refine range2 fun r h₂ tk₂ a₂ b₂ c₂ hx₂ hr => ?_
    replace S := S.ext hx₂
    dsimp only
    refine comp_range (n := ws.length - i) (fun _ => true) (fun (k : Int) y => ∃ x t, y = Value.int x t ∧ (fun (k x : Int) => ∃ cs ds, ws[i]? = some cs ∧ ws[k.toNat]? = some ds ∧ Same x (D subC cs ds) bd) k x) R' hr (small_up (by omega) (by omega) (by omega)) (by rw [rs_up (by omega)]; omega) (by omega) S (CompOk.of (by with_unfolding_all rfl) (by with_unfolding_all rfl)) ?_ ?_ ?_
    · intro C k t s₃ hk hx₃ S₃
      exact wpAny_tests_nil ⟨rfl, _, _, rfl, Ext.refl _⟩
    · intro C k t s₃ hk _ hx₃ S₃
      obtain ⟨j', hj', rfl⟩ := rng_mem hk
      obtain ⟨j, hj⟩ : ∃ j : Nat, j = i + j' := ⟨_, rfl⟩
      have e2 : (i : Int) + (j' : Int) * 1 = (j : Int) := by omega
      rw [e2] at S₃ ⊢
      obtain ⟨cs, hcs⟩ : ∃ cs, ws[i]? = some cs := ⟨ws[i], by simp [hi]⟩
      obtain ⟨ds, hds⟩ : ∃ ds, ws[j]? = some ds := ⟨ws[j]'(by omega), by simp⟩
      obtain ⟨u1, hu1⟩ := hW.2 i cs hcs
      obtain ⟨u2, hu2⟩ := hW.2 j ds hds
      have hc1 := hws cs (List.mem_of_getElem? hcs)
      have hc2 := hws ds (List.mem_of_getElem? hds)
      have hlw₃ : s₃.heap.IsList lw wv.toArray := hl.at fun o e => hx₃ _ _ (S.kept _ _ (hKK _ _ e))
      obtain ⟨fs, os, pms, cds, docs, hfs, -, -, -⟩ := S₃.glb.fn 9 (by decide)
      repeat (walk_at "m")
      try dsimp only
      refine nameG S₃ (by with_unfolding_all rfl) hfs ?_
      refine callDef 9 (by decide) hfs S₃.glb ?_
      repeat (walk_at "m")
      try dsimp only
      with_reducible refine itemN hlw₃ (by omega) (by simpa using hu1) ?_
      repeat (walk_at "m")
      try dsimp only
      with_reducible refine itemN hlw₃ (by omega) (by simpa using hu2) ?_
      repeat (walk_at "m")
      try dsimp only
      refine ⟨Ext.refl _, ?_⟩
      refine lev_call R1 S₃.glb hfs (by omega) (by omega) fun x t₆ h₈ tk₈ hx₈ hS => ?_
      exact ⟨⟨x, t₆, rfl, cs, ds, hcs, by simpa using hds, hS⟩, _, _, rfl, hx₈⟩
    intro nw h₄ tk₄ ys hx₄ hnw hnl₄ hP₄
    obtain ⟨zs, hzI, hzl, hzr⟩ := paired_rel hP₄
    rw [filter_true, rng_len] at hzl
    rw [filter_true] at hzr
    replace S := (S.ext hx₄).add hnl₄
    have hkvl : kv.length = i := by rw [hkI.length]; simp [rng_len]
    have hysl : ys.length = ws.length - i := by rw [hzI.length, hzl]
    with_reducible refine addL (S.lists _ (List.Mem.tail _ (List.Mem.head _))).isList (S.lists _ (List.Mem.head _)).isList (by show kv.length + ys.length ≤ _; omega) fun rw₁ h₅ tk₅ hx₅ hrw hrl₅ => ?_
    have hrI := ints_append hkI hzI
    rw [addRow_row (by omega) hzl] at hrI
    have hrwlc : rw₁ ≠ lc := fun q => by
      obtain ⟨_, ho⟩ := S.lists _ (List.Mem.tail _ (List.Mem.tail _ hlm))
      rw [q] at hrw
      rw [hrw] at ho; cases ho
    replace S := (S.ext hx₅).add hrl₅
    repeat (walk_at "m")
    try dsimp only
    have hlm₂ := S.lists _ (List.Mem.tail _ (List.Mem.tail _ (List.Mem.tail _ hlm)))
    refine appendL (vs := rs.map Value.ref) hlm₂ (by simp; omega) fun h₆ hl₆ hs₆ => ?_
    replace S := (S.sub (ls' := (rw₁, kv ++ ys) :: ls.filter fun p => decide (p.1 ≠ lc)) (fun p hp => by
      rcases List.mem_cons.mp hp with rfl | hp
      · exact List.Mem.head _
      · exact List.Mem.tail _ (List.Mem.tail _ (List.Mem.tail _ (List.mem_filter.mp hp).1)))).setList (vs' := (rs ++ [rw₁]).map Value.ref) hlm₂.isList hK' (fun p hp => by
      rcases List.mem_cons.mp hp with rfl | hp
      · exact hrwlc
      · simpa using (List.mem_filter.mp hp).2) (by simpa using hl₆) hs₆
    dsimp only at S ⊢
    repeat (walk_at "m")
    try dsimp only
    refine ⟨_, _, _, _, rfl, S, addRow X i zs, rs ++ [rw₁], (has_cons (by with_unfolding_all rfl) (has_cons (by with_unfolding_all rfl) (has_cons (by with_unfolding_all rfl) has_nil))), by simp [hrl], List.Mem.head _, ?_, ?_, ?_⟩
    · intro k r' hr'
      by_cases hk : k < i
      · rw [List.getElem?_append_left (by omega)] at hr'
        obtain ⟨h1, vs, h2, h3⟩ := hrows k r' hr'
        refine ⟨h1, vs, List.Mem.tail _ (List.Mem.tail _ (List.mem_filter.mpr ⟨h2, by simpa using h1⟩)), ?_⟩
        rw [addRow_old hk]; exact h3
      · rw [List.getElem?_append_right (by omega)] at hr'
        have hk2 : k = i := by
          have := (List.getElem?_eq_some_iff.mp hr').1
          simp at this; omega
        have : r' = rw₁ := by
          rw [hk2, hrl] at hr'
          simpa using hr'.symm
        subst this hk2
        exact ⟨hrwlc, _, List.Mem.tail _ (List.Mem.head _), hrI⟩
    · intro k j hj hk
      by_cases hk2 : k = i
      · subst hk2
        simp [addRow, hj, show j ≠ k by omega]
      · have := hsym k j hj (by omega)
        simp [addRow, hk2, show j ≠ i by omega, this]
    · intro k j cs ds x hk hkj hcs hds hx
      by_cases hk2 : k = i
      · subst hk2
        have hjl : j < ws.length := (List.getElem?_eq_some_iff.mp hds).1
        have hz : zs[j - k]? = some (zs[j - k]'(by omega)) := by simp
        obtain ⟨cs', ds', h1, h2, h3⟩ := hzr (j - k) _ _ (rng_get (by omega)) hz
        have e3 : ((k : Int) + ((j - k : Nat) : Int) * 1).toNat = j := by omega
        rw [e3, hds] at h2
        rw [hcs] at h1
        cases h1; cases h2
        have e4 : x = zs[j - k]'(by omega) := by
          rw [hx]
          simp [addRow, show ¬ j < k by omega, List.getD_eq_getElem?_getD, hz]
        rw [e4]; exact h3
      · refine hrel k j cs ds x (by omega) hkj hcs hds ?_
        rw [hx]; simp [addRow, hk2]
  · rintro ρ ls h₅ tk₅ ⟨X, rs, hH, hrl, hlm, hrows, hsym, hrel⟩ S
    replace S := S.has hH
    dsimp only
    repeat (walk_at "m")
    try dsimp only
    have hx : Ext s.heap h₅ := fun b o e => S.kept b o e
    refine h lc X _ _ hx ?_ ⟨rs, hrl, S.lists _ hlm, fun k r hr => ?_⟩ hsym fun k j cs ds x hkj hcs hds hx => hrel k j cs ds x (List.getElem?_eq_some_iff.mp hcs).1 hkj hcs hds hx
    · cases e : s.heap.get? lc with
      | none => rfl
      | some o => exact absurd e (hK o)
    · obtain ⟨h1, vs, h2, h3⟩ := hrows k r hr
      exact ⟨h1, vs, S.lists _ h2, h3⟩

/-- a comprehension of two clauses; the tests stand at the second -/
abbrev two (elt iter iter2 target target2 : PySem.Expr) (ifs2 : List PySem.Expr) (scope : Scope) (pos : Pos) : PySem.Expr := .ListComp elt [⟨target, iter, [], 0⟩, ⟨target2, iter2, ifs2, 0⟩] scope pos

theorem compTurn_two0 (elt iter iter2 target target2 : PySem.Expr) (ifs2 : List PySem.Expr) (scope : Scope) (pos : Pos) (it acc : Value) (env : Env) :
    compTurn (two elt iter iter2 target target2 ifs2 scope pos) 0 it acc env = (do
      standAt iter.pos
      match ← pyNext it with
      | none => pure (.done .next)
      | some v =>
        letOwnedTupleGo target it v
        assign target env v
        let z ← eval iter2 env
        standAt iter2.pos
        let z ← foldedSetIterable iter2 env z
        let it2 ← holding [z] (pyIter z)
        let _ ← runOwn (.compStart (two elt iter iter2 target target2 ifs2 scope pos) 1 it2 acc env) env
        again (.compLoop (two elt iter iter2 target target2 ifs2 scope pos) 0 it acc env)) := by rfl

theorem compTurn_two1 (elt iter iter2 target target2 : PySem.Expr) (ifs2 : List PySem.Expr) (scope : Scope) (pos : Pos) (it acc : Value) (env : Env) :
    compTurn (two elt iter iter2 target target2 ifs2 scope pos) 1 it acc env = (do
      standAt iter2.pos
      match ← pyNext it with
      | none => pure (.done .next)
      | some v =>
        letOwnedTupleGo target2 it v
        assign target2 env v
        let mut ok := true
        for c in ifs2 do
          if ok then ok ← isTrue c env (eval c env)
        if ok then
          (do let _ ← call (.builtin "list.append") [acc, ← eval elt env])
        again (.compLoop (two elt iter iter2 target target2 ifs2 scope pos) 1 it acc env)) := by rfl

section
variable {prog : Program} {w : World} {A : Around} {R : Result → Shared → Prop} {s : Shared} {elt iter iter2 : PySem.Expr} {x y : Str} {px py : Pos} {ifs2 : List PySem.Expr} {scope : Scope} {pos : Pos} {acc : Value} {I : Addr}
  {fp wr : List Addr} {n : Nat} {P : Nat → Value → Prop} {St : Nat → Heap → Prop} {cenv : Env} {m : Str → Option Value}

theorem two_loop1 (W : Walks prog w A I fp wr n P St)
    (hy : cenv.kindOf y = some .local) (hp : (cenv.scope.kind == .class || (cenv.scope.kind == .module && cenv.locals != cenv.globals)) = false)
    (hCf : cenv.locals ∉ fp) (hst : St 0 s.heap) (hn : s.heap.Ns cenv.locals m)
    (htests : ∀ i v s₂ m₂, P i v → s₂.heap.Ns cenv.locals m₂ → m₂ y = some v → (∀ z, z ≠ y → m₂ z = m z) → (∀ b o, b ≠ cenv.locals → b ∉ wr → s.heap.get? b = some o → s₂.heap.get? b = some o) →
      wpAny (model prog w) A (testsOf ifs2 cenv) (fun ok s₃ => ok = false ∧ Keeps s₂ s₃) Never s₂)
    (hR : ∀ h' tk m', h'.Ns cenv.locals m' → (∀ z, z ≠ y → m' z = m z) → (∀ b o, b ≠ cenv.locals → b ∉ wr → s.heap.get? b = some o → h'.get? b = some o) → R (.ok .next) { s with heap := h', toks := tk }) :
    codeAny (model prog w) A (.compLoop (two elt iter iter2 (.Name x px) (.Name y py) ifs2 scope pos) 1 (.ref I) acc cenv) R s := by
  refine codeAny_loop rfl (fun k s' => ∃ i h' tk m', s' = { s with heap := h', toks := tk } ∧ i ≤ n ∧ k = n + 1 - i ∧ St i h' ∧ h'.Ns cenv.locals m' ∧ (∀ z, z ≠ y → m' z = m z) ∧
    (∀ b o, b ≠ cenv.locals → b ∉ wr → s.heap.get? b = some o → h'.get? b = some o)) (fun k s' hI => ?_) (n + 1) ⟨0, s.heap, s.toks, m, rfl, Nat.zero_le _, rfl, hst, hn, fun _ _ => rfl, fun _ _ _ _ e => e⟩
  obtain ⟨i, H, tk, m', rfl, hi, rfl, hst', hn', hm', hk⟩ := hI
  show wpAny _ A ((compTurn (two elt iter iter2 (.Name x px) (.Name y py) ifs2 scope pos) 1 (.ref I) acc cenv).onRaise (fun x => do noteFrame x cenv; theTreesLotGoes x)) _ _ _
  refine wpAny_noted ?_
  rw [compTurn_two1]
  refine wpAny_bind (wpAny_standAt (wpAny_bind ?_))
  have hCw : cenv.locals ∉ wr := fun h => hCf (W.sub _ h)
  by_cases hlt : i < n
  · refine W.item i _ _ _ hlt hst' fun v h₁ tk₁ hPv hst₁ hk₁ => ?_
    refine wpAny_bind (wpAny_pure (wpAny_bind ?_))
    refine wpAny_assign_Name (wpAny_storeName_local hy (hn'.at' fun o e => hk₁ _ o hCw e) (fun h₂ hn₂ hs₂ => ?_) hp)
    have up₂ : ∀ b o, b ≠ cenv.locals → b ∉ wr → s.heap.get? b = some o → h₂.get? b = some o := fun b o hbC hbf e => hs₂.extBut b o hbC (hk₁ b o hbf (hk b o hbC hbf e))
    have hst₂ : St (i + 1) h₂ := W.frame _ _ _ hst₁ fun b hb o e => hs₂.extBut b o (fun h => hCf (h ▸ hb)) e
    refine wpAny_bind (never (wpAny_mono (htests i v _ _ hPv hn₂ (by simp) (fun z hz => by simp only [if_neg hz]; exact hm' z hz) up₂) (fun ok s₃ h₃ => ?_) fun _ _ e => e))
    obtain ⟨rfl, h₃, tk₃, rfl, hk₃⟩ := h₃
    refine wpAny_pure ⟨rfl, n + 1 - (i + 1), by omega, i + 1, h₃, tk₃, _, rfl, hlt, rfl, W.frame _ _ _ hst₂ fun b _ o e => hk₃ b o e, hn₂.keeps hk₃, fun z hz => by simp only [if_neg hz]; exact hm' z hz, fun b o hbC hbf e => hk₃ b o (up₂ b o hbC hbf e)⟩
  · have hin : i = n := by omega
    subst hin
    refine W.done _ _ _ hst' fun h₁ tk₁ hk₁ => ?_
    exact wpAny_pure (hR h₁ tk₁ m' (hn'.at' fun o e => hk₁ _ o hCw e) hm' fun b o hbC hbf e => hk₁ b o hbf (hk b o hbC hbf e))

theorem two_start1 {it : Value}
    (h0 : codeAny (model prog w) A (.compLoop (two elt iter iter2 (.Name x px) (.Name y py) ifs2 scope pos) 1 it acc cenv) R s)
    (h : wpAny (model prog w) A (pyIter it) (fun it' s' => codeAny (model prog w) A (.compLoop (two elt iter iter2 (.Name x px) (.Name y py) ifs2 scope pos) 1 it' acc cenv) R s') Never s) :
    codeAny (model prog w) A (.compStart (two elt iter iter2 (.Name x px) (.Name y py) ifs2 scope pos) 1 it acc cenv) R s := by
  refine codeAny_of_tree ?_
  show wpAny _ _ ((compStart (two elt iter iter2 (.Name x px) (.Name y py) ifs2 scope pos) 1 it acc cenv).onRaise (fun x => do noteFrame x cenv; standAt theWindowsPlace)) _ _ s
  refine wpAny_notedAt ?_
  unfold compStart
  show wpAny _ _ (ask >>= _) _ _ s
  refine wpAny_bind (wpAny_askSetting (wpAny_ite ?_))
  split
  · first
      | exact wpAny_bind (wpAny_pure (wpAny_pure (And.intro rfl h0)))
      | exact wpAny_pure (And.intro rfl h0)
  · first
      | exact wpAny_bind (wpAny_rule (wpAny_bind (wpAny_standAt (wpAny_bind (never (wpAny_mono h (fun it' s' h' => wpAny_pure (And.intro rfl h')) fun _ _ x => x))))))
      | (refine wpAny_bind (wpAny_rule ?_); show wpAny _ _ (standAt iter2.pos >>= _) _ _ s; exact wpAny_bind (wpAny_standAt (wpAny_bind (never (wpAny_mono h (fun it' s' h' => wpAny_pure (And.intro rfl h')) fun _ _ x => x)))))

theorem two_loop0 (W : Walks prog w A I fp wr n P St)
    (hx : cenv.kindOf x = some .local) (hp : (cenv.scope.kind == .class || (cenv.scope.kind == .module && cenv.locals != cenv.globals)) = false)
    (hCf : cenv.locals ∉ fp) (hst : St 0 s.heap) (hn : s.heap.Ns cenv.locals m)
    (hs : ∀ z, foldedSetIterable iter2 cenv z = pure z)
    (inner : ∀ i v s₂ m₂, P i v → s₂.heap.Ns cenv.locals m₂ → m₂ x = some v → (∀ b o, b ≠ cenv.locals → b ∉ wr → s.heap.get? b = some o → s₂.heap.get? b = some o) →
      wpAny (model prog w) A (eval iter2 cenv) (fun z s₃ => wpAny (model prog w) A (pyIter z) (fun it2 s₄ =>
        codeAny (model prog w) A (.compStart (two elt iter iter2 (.Name x px) (.Name y py) ifs2 scope pos) 1 it2 acc cenv) (fun r s₅ => ∃ f, r = .ok f ∧
          ∃ h' tk m', s₅ = { s₂ with heap := h', toks := tk } ∧ h'.Ns cenv.locals m' ∧ ∀ b o, b ≠ cenv.locals → s₂.heap.get? b = some o → h'.get? b = some o) s₄) Never s₃) Never s₂)
    (hR : ∀ h' tk m', h'.Ns cenv.locals m' → (∀ b o, b ≠ cenv.locals → b ∉ wr → s.heap.get? b = some o → h'.get? b = some o) → R (.ok .next) { s with heap := h', toks := tk }) :
    codeAny (model prog w) A (.compLoop (two elt iter iter2 (.Name x px) (.Name y py) ifs2 scope pos) 0 (.ref I) acc cenv) R s := by
  refine codeAny_loop rfl (fun k s' => ∃ i h' tk m', s' = { s with heap := h', toks := tk } ∧ i ≤ n ∧ k = n + 1 - i ∧ St i h' ∧ h'.Ns cenv.locals m' ∧
    (∀ b o, b ≠ cenv.locals → b ∉ wr → s.heap.get? b = some o → h'.get? b = some o)) (fun k s' hI => ?_) (n + 1) ⟨0, s.heap, s.toks, m, rfl, Nat.zero_le _, rfl, hst, hn, fun _ _ _ _ e => e⟩
  obtain ⟨i, H, tk, m', rfl, hi, rfl, hst', hn', hk⟩ := hI
  show wpAny _ A ((compTurn (two elt iter iter2 (.Name x px) (.Name y py) ifs2 scope pos) 0 (.ref I) acc cenv).onRaise (fun x => do noteFrame x cenv; theTreesLotGoes x)) _ _ _
  refine wpAny_noted ?_
  rw [compTurn_two0]
  refine wpAny_bind (wpAny_standAt (wpAny_bind ?_))
  have hCw : cenv.locals ∉ wr := fun h => hCf (W.sub _ h)
  by_cases hlt : i < n
  · refine W.item i _ _ _ hlt hst' fun v h₁ tk₁ hPv hst₁ hk₁ => ?_
    refine wpAny_bind (wpAny_pure (wpAny_bind ?_))
    refine wpAny_assign_Name (wpAny_storeName_local hx (hn'.at' fun o e => hk₁ _ o hCw e) (fun h₂ hn₂ hs₂ => ?_) hp)
    have up₂ : ∀ b o, b ≠ cenv.locals → b ∉ wr → s.heap.get? b = some o → h₂.get? b = some o := fun b o hbC hbf e => hs₂.extBut b o hbC (hk₁ b o hbf (hk b o hbC hbf e))
    have hst₂ : St (i + 1) h₂ := W.frame _ _ _ hst₁ fun b hb o e => hs₂.extBut b o (fun h => hCf (h ▸ hb)) e
    refine wpAny_bind (never (wpAny_mono (inner i v _ _ hPv hn₂ (by simp) up₂) (fun z s₃ h₃ => ?_) fun _ _ e => e))
    refine wpAny_bind (wpAny_standAt (wpAny_bind (wpAny_of_eq (hs z) (wpAny_bind (wpAny_holding (never (wpAny_mono h₃ (fun it2 s₄ h₄ => ?_) fun _ _ e => e)))))))
    refine wpAny_bind (wpAny_runOwn (codeAny_mono h₄ fun r s₅ h₅ => ?_))
    obtain ⟨f, rfl, h', tk', m₅, rfl, hn₅, hk₅⟩ := h₅
    exact wpAny_pure ⟨rfl, n + 1 - (i + 1), by omega, i + 1, h', tk', m₅, rfl, hlt, rfl, W.frame _ _ _ hst₂ fun b hb o e => hk₅ b o (fun h => hCf (h ▸ hb)) e, hn₅, fun b o hbC hbf e => hk₅ b o hbC (up₂ b o hbC hbf e)⟩
  · have hin : i = n := by omega
    subst hin
    refine W.done _ _ _ hst' fun h₁ tk₁ hk₁ => ?_
    exact wpAny_pure (hR h₁ tk₁ m' (hn'.at' fun o e => hk₁ _ o hCw e) fun b o hbC hbf e => hk₁ b o hbf (hk b o hbC hbf e))
end

section
variable {mg mb : Str → Option Value} {env : Env} {K : Addr → Obj → Prop} {h h₃ : Heap} {ρ : Str → Option Value} {ls : List (Addr × List Value)} {scope : Scope} {x y : Str} {v u : Value} {C : Addr} {m₃ : Str → Option Value}

theorem State.comp2 (S : State mg mb env K h ρ ls) (B : CompOk env scope x) (hk : Ext h h₃) (hn : h₃.Ns C m₃) (hm : m₃ x = some v) (hyf : (y, NameKind.free) ∉ scope.names) (hmy : m₃ y = some u) :
    State mg mb (cEnv scope env C) (fun b o => h₃.get? b = some o) h₃ (upd (compρ scope x v ρ) y u) ls :=
  have S₁ := S.comp B hk hn hm
  { S₁ with
    ns := ⟨m₃, hn, fun z w hz hw => by
      unfold upd at hw
      by_cases hzy : z = y
      · subst hzy
        simp only [if_true] at hw
        rw [hmy]; exact hw
      · simp only [if_neg hzy] at hw
        unfold compρ at hw
        by_cases hyx : z = x
        · subst hyx
          simp only [if_true] at hw
          rw [hm]; exact hw
        · simp only [if_neg hyx] at hw
          split at hw
          · rename_i hf
            have hy' : (relabel scope env).names.lookup z = some .local := hz
            unfold relabel at hy'
            simp only at hy'
            rw [lookup_relabel, hf] at hy'
            simp only [Option.map_some] at hy'
            split at hy' <;> cases hy'
          · cases hw⟩
    cells := fun z c e => by
      obtain ⟨a, hc, ha⟩ := S₁.cells z c e
      refine ⟨a, hc, fun w hk' hw => ha w hk' ?_⟩
      unfold upd at hw
      by_cases hzy : z = y
      · subst hzy
        rcases cloOf_lookup _ _ e with h1 | ⟨_, h2⟩
        · cases h1
        · exact absurd h2 hyf
      · simpa only [if_neg hzy] using hw }
end

section
variable {prog : Program} {w : World} {A : Around} {s : Shared} {mg mb : Str → Option Value} {env : Env} {K : Addr → Obj → Prop} {ρ : Str → Option Value} {ls : List (Addr × List Value)} {elt iter iter2 : PySem.Expr} {x y : Str} {px py : Pos} {ifs2 : List PySem.Expr} {scope : Scope} {pos : Pos}

/-- a range was made -/
def Ranged (s : Shared) (N : Nat) (z : Value) (s' : Shared) : Prop := ∃ r t u v h tk, z = .ref r ∧ s' = { s with heap := h, toks := tk } ∧ Ext s.heap h ∧ IsRange h r 0 (N : Int) 1 t u v

/-- two clauses over ranges, and no pair passes the test: the empty list -/
theorem compTwo {N : Nat} {Q : Value → Shared → Prop} {E : Value → Shared → Prop} (hh : A.handled = none) (hN : N ≤ 1000) (S : State mg mb env K s.heap ρ ls) (B : CompOk env scope x)
    (hyl : scope.names.lookup y = some .local) (hyf : (y, NameKind.free) ∉ scope.names) (hxy : x ≠ y)
    (first : wpAny (model prog w) A (eval iter env) (Ranged s N) Never s)
    (second : ∀ C v s₃, Ext s.heap s₃.heap → State mg mb (cEnv scope env C) (fun b o => s₃.heap.get? b = some o) s₃.heap (compρ scope x v ρ) ls → wpAny (model prog w) A (eval iter2 (cEnv scope env C)) (Ranged s₃ N) Never s₃)
    (tests : ∀ C (i j : Nat) t t' s₃, i < N → j < N → Ext s.heap s₃.heap → State mg mb (cEnv scope env C) (fun b o => s₃.heap.get? b = some o) s₃.heap (upd (compρ scope x (.int i t) ρ) y (.int j t')) ls →
      wpAny (model prog w) A (testsOf ifs2 (cEnv scope env C)) (fun ok s₄ => ok = false ∧ Keeps s₃ s₄) Never s₃)
    (done : ∀ D h' tk, Ext s.heap h' → s.heap.get? D = none → h'.PlainList D #[] → Q (.ref D) { s with heap := h', toks := tk })
    (hs : ∀ z, foldedSetIterable iter env z = pure z := by intro _; rfl) (hs2 : ∀ C z, foldedSetIterable iter2 (cEnv scope env C) z = pure z := by intro _ _; rfl) :
    wpAny (model prog w) A (eval (two elt iter iter2 (.Name x px) (.Name y py) ifs2 scope pos) env) Q E s := by
  rw [eval_ListComp]
  refine wpAny_comprehension_free (use := none) rfl hs (closure_eq fun y hy hf => (B.free y hy hf).1) B.kind B.names (never (wpAny_mono first (fun z s₁ h₁ => ?_) fun _ _ e => e))
  obtain ⟨r, t, u, v, h, tk, rfl, rfl, hx₁, hr⟩ := h₁
  have hsm : Builtin.Range.small 0 (N : Int) 1 = true := small_up (by omega) (by omega) (by omega)
  have hrs : Builtin.Range.rangeSize 0 (N : Int) 1 = (N : Int) := by rw [rs_up (by omega)]; omega
  refine never (wpAny_pyIter_range hr hsm ?_)
  have W := (Walks.range (prog := prog) (w := w) hh h.objs.size 0 1 N).bound
  refine wpAny_newObj_type (wpAny_newFunctionEnv B.cells (by intro y hy; simp at hy) (fun h₁ hns₁ hsb₁ => ?_) B.kind)
  dsimp only at hns₁ hsb₁ ⊢
  generalize hH1 : h.push _ = H1 at hns₁ hsb₁ ⊢
  generalize hH2 : H1.push { cls := .type "list", dict := none, data := .seq ([] : List Value).toArray } = H2 at hns₁ hsb₁ ⊢
  have sz1 : H1.objs.size = h.objs.size + 1 := by rw [← hH1, Heap.size_push]
  have sz2 : H2.objs.size = h.objs.size + 2 := by rw [← hH2, Heap.size_push, sz1]
  have e1 : Ext h H1 := hH1 ▸ ext_push _ _
  have e2 : Ext H1 H2 := hH2 ▸ ext_push _ _
  have up : ∀ b o, H2.get? b = some o → h₁.get? b = some o := fun b o e => hsb₁.extBut b o (Nat.ne_of_lt (Heap.lt_size e)) (Heap.get?_push_of_some _ e)
  have hI : IsRangeIter H1 h.objs.size 0 (N : Int) 1 := by
    rw [← hH1]
    show IsRangeIter _ _ _ _ _
    rw [hrs]
    simpa using Heap.get?_push_size _ rfl
  have hacc : h₁.PlainList H1.objs.size #[] := ⟨_, up _ _ (hH2 ▸ Heap.get?_push_size _ rfl)⟩
  have hD1 : H1.objs.size ≠ H2.objs.size := by omega
  have hold : ∀ b o, h.get? b = some o → b ≠ h.objs.size ∧ b ≠ H1.objs.size ∧ b ≠ H2.objs.size := fun b o e => by
    have := Heap.lt_size e
    exact ⟨Nat.ne_of_lt this, by rw [sz1]; exact Nat.ne_of_lt (Nat.lt_succ_of_lt this), by rw [sz2]; exact Nat.ne_of_lt (Nat.lt_of_lt_of_le this (Nat.le_add_right _ 2))⟩
  have hst₁ : IsRangeIter h₁ h.objs.size (0 + ((0 : Nat) : Int) * 1) ((N : Int) - (0 : Nat)) 1 := by
    have := up _ _ (e2 _ _ hI)
    simpa using this
  have loop : ∀ s₃ : Shared, s₃ = { s with heap := h₁, toks := tk + ([] : List (Str × Value)).length } →
      codeAny (model prog w) A (.compLoop (two elt iter iter2 (.Name x px) (.Name y py) ifs2 scope pos) 0 (.ref h.objs.size) (.ref H1.objs.size) (cEnv scope env H2.objs.size))
        (compPost (model prog w) A E none Q (.ref H1.objs.size) H2.objs.size) s₃ := by
    rintro s₃ rfl
    refine two_loop0 (cenv := cEnv scope env H2.objs.size) W (lookup_relabel_local B.isLoc) (by simp [cEnv, compEnvC, relabel, B.kind]) (fun hm => ?_) hst₁ hns₁ (hs2 _) ?_ ?_
    · have : H2.objs.size = h.objs.size := List.mem_singleton.mp hm
      omega
    · intro i v s₂ m₂ hP hn₂ hm₂ hk₂
      obtain ⟨hi, t₀, rfl⟩ := hP
      have hx₂ : Ext s.heap s₂.heap := fun b o e => by
        have e' := hx₁ b o e
        obtain ⟨q1, q2, q3⟩ := hold b o e'
        exact hk₂ b o q3 (by simpa using q1) (up b o (e2 b o (e1 b o e')))
      have S₂ := S.comp B hx₂ hn₂ hm₂
      refine wpAny_mono (second H2.objs.size _ s₂ hx₂ S₂) (fun z s₃ h₃ => ?_) fun _ _ e => e
      obtain ⟨r2, t2, u2, v2, h3, tk3, rfl, rfl, hx₃, hr₃⟩ := h₃
      refine wpAny_pyIter_range hr₃ hsm ?_
      have W2 := (Walks.range (prog := prog) (w := w) hh h3.objs.size 0 1 N).bound
      generalize hH4 : h3.push _ = H4
      have hst₄ : IsRangeIter H4 h3.objs.size (0 + ((0 : Nat) : Int) * 1) ((N : Int) - (0 : Nat)) 1 := by
        rw [← hH4]
        show IsRangeIter _ _ _ _ _
        rw [hrs]
        simpa using Heap.get?_push_size _ rfl
      have e4 : Ext h3 H4 := hH4 ▸ ext_push _ _
      have hCn : H2.objs.size ≠ h3.objs.size := fun q => by
        obtain ⟨o, es, ep, ho, _⟩ := hn₂
        exact absurd (Heap.lt_size (hx₃ _ _ ho)) (by show ¬ (H2.objs.size < h3.objs.size); omega)
      have loop1 : ∀ s₄ : Shared, s₄ = { s₂ with heap := H4, toks := tk3 } → codeAny (model prog w) A (.compLoop (two elt iter iter2 (.Name x px) (.Name y py) ifs2 scope pos) 1 (.ref h3.objs.size) (.ref H1.objs.size) (cEnv scope env H2.objs.size))
          (fun r s₅ => ∃ f, r = .ok f ∧ ∃ h' tk m', s₅ = { s₂ with heap := h', toks := tk } ∧ h'.Ns (cEnv scope env H2.objs.size).locals m' ∧ ∀ b o, b ≠ (cEnv scope env H2.objs.size).locals → s₂.heap.get? b = some o → h'.get? b = some o) s₄ := by
        rintro s₄ rfl
        refine two_loop1 (cenv := cEnv scope env H2.objs.size) W2 (lookup_relabel_local hyl) (by simp [cEnv, compEnvC, relabel, B.kind]) (fun hm => hCn (List.mem_singleton.mp hm)) hst₄ (hn₂.keeps fun b o e => e4 b o (hx₃ b o e)) ?_ ?_
        · intro j v s₅ m₅ hP₅ hn₅ hm₅ hz₅ hk₅
          obtain ⟨hj, t₅, rfl⟩ := hP₅
          have hx₅ : Ext s.heap s₅.heap := fun b o e => by
            have e' := hx₁ b o e
            refine hk₅ b o (hold b o e').2.2 (fun hm => ?_) (e4 b o (hx₃ b o (hx₂ b o e)))
            have := Heap.lt_size (hx₃ b o (hx₂ b o e))
            exact Nat.ne_of_lt this (List.mem_singleton.mp hm)
          have S₅ := S.comp2 B hx₅ hn₅ ((hz₅ x hxy).trans hm₂) hyf hm₅
          have ei : (0 + (i : Int) * 1) = (i : Int) := by omega
          have ej : (0 + (j : Int) * 1) = (j : Int) := by omega
          rw [ei, ej] at S₅
          exact tests _ i j _ _ s₅ hi hj hx₅ S₅
        · intro h' tk' m' hn' _ hk'
          refine ⟨_, rfl, h', tk', m', rfl, hn', fun b o hb e => hk' b o hb (fun hm => ?_) (e4 b o (hx₃ b o e))⟩
          exact Nat.ne_of_lt (Heap.lt_size (hx₃ b o e)) (List.mem_singleton.mp hm)
      exact two_start1 (loop1 _ rfl) (W2.self 0 _ _ _ hst₄ (loop1 _ rfl))
    · intro h' tk' m' hn' hk'
      have upD : h'.PlainList H1.objs.size #[] := hacc.at fun o e => hk' _ o hD1 (fun hm => by have : H1.objs.size = h.objs.size := List.mem_singleton.mp hm; omega) e
      have hx' : ∀ b o, h.get? b = some o → h'.get? b = some o := fun b o e => by
        obtain ⟨q1, q2, q3⟩ := hold b o e
        exact hk' b o q3 (by simpa using q1) (up b o (e2 b o (e1 b o e)))
      refine ⟨m', hn', fun h'' hs'' => ?_⟩
      refine done H1.objs.size h'' tk' (fun b o e => hs''.extBut b o (hold b o (hx₁ b o e)).2.2 (hx' b o (hx₁ b o e))) ?_ (upD.extBut hs''.extBut hD1)
      cases q : s.heap.get? H1.objs.size with
      | none => rfl
      | some o => exact absurd rfl (hold _ o (hx₁ _ o q)).2.1
  exact codeAny_compStart_list (loop _ rfl) (W.self 0 _ _ _ hst₁ (loop _ rfl))
end

section
variable {prog : Program} {w : World} {A : Around} {E : Value → Shared → Prop} {s : Shared}
theorem neEmpty {l b : Addr} {Q : Value → Shared → Prop} (hl : s.heap.IsList l #[]) (hb : s.heap.IsList b #[]) (hu : A.units < cLine) (h : Q (.bool false) s) : wpAny (model prog w) A (compareOp .NotEq (.ref l) (.ref b)) Q E s :=
  (SeqAt.RcNeAt.lists (e := fun _ => true) hl hb rfl hu (fun _ h1 _ => absurd h1 (Nat.not_lt_zero _))) prog w E Q h
end
section
variable {prog : Program} {w : World} {A : Around} {s : Shared} {mg mb : Str → Option Value} {env : Env} {K : Addr → Obj → Prop} {ρ₀ : Str → Option Value} {ls₀ : List (Addr × List Value)} {Q : Flow → Shared → Prop}

/-- for over the enumeration of a list -/
theorem loop_enum {e it l : Addr} {vs : List Value} {xi xv : Str} {pi pv pt : Pos} {x1} {body : List Stmt} (hh : A.handled = none) (hei : e ≠ it)
    (he : IsEnum s.heap e it 0 .none) (hit : s.heap.IsListIter it l 0) (hl : s.heap.IsList l vs.toArray)
    (S : State mg mb env K s.heap ρ₀ ls₀) (O : Off env K) (hxi : Storable env xi) (hxv : Storable env xv) (hKe : ∀ o, ¬ K e o) (hKi : ∀ o, ¬ K it o)
    (Inv : Nat → (Str → Option Value) → List (Addr × List Value) → Prop) (hI : Inv 0 ρ₀ ls₀)
    (turn : ∀ (i : Nat) v t K' ρ ls h tk, vs[i]? = some v → (∀ b o, K b o → K' b o) → (∀ p ∈ ls, p.1 ≠ l → ∀ o, K' p.1 o → K p.1 o) → Inv i ρ ls →
      State mg mb env K' h (upd (upd ρ xi (.int i t)) xv v) ls → Off env K' → wpAny (model prog w) A (execs body env) (TurnEnd mg mb env K' s Q (Inv (i + 1))) Never { s with heap := h, toks := tk })
    (done : ∀ ρ ls h tk, Inv vs.length ρ ls → State mg mb env K h ρ ls → Q .next { s with heap := h, toks := tk }) :
    codeAny (model prog w) A (.forLoop (.Tuple [.Name xi pi, .Name xv pv] x1 pt) (.ref e) body [] env) (fun r s' => match r with | .ok f => Q f s' | .error e => cameBackBy (model prog w) A env Never e s') s := by
  refine codeAny_forLoop_any (fun k s' => ∃ (i : Nat) (old : Value) (h : Heap) (tk : Nat) (ρ : Str → Option Value) (ls : List (Addr × List Value)), s' = { s with heap := h, toks := tk } ∧ i ≤ vs.length ∧ k = vs.length + 1 - i ∧ IsEnum h e it (i : Int) old ∧ h.IsListIter it l i ∧ h.IsList l vs.toArray ∧ Inv i ρ ls ∧ State mg mb env K h ρ ls) ?_ (vs.length + 1)
    ⟨0, .none, s.heap, s.toks, ρ₀, ls₀, rfl, Nat.zero_le _, rfl, he, hit, hl, hI, S⟩
  rintro k s' ⟨i, old, h, tk, ρ, ls, rfl, hi, rfl, he', hit', hl', hJ, S'⟩
  have hwf : ∀ (h : Heap) (i : Int) (old : Value) (j : Nat), IsEnum h e it i old → h.IsListIter it l j → ∀ b ∈ [e, it], ∃ o vs, h.get? b = some o ∧ o.data = .fields vs := by
    intro h i old j q1 q2 b hb
    obtain ⟨oi, ho, _, hd⟩ := q2
    rcases List.mem_cons.mp hb with rfl | hb
    · exact ⟨_, _, q1, rfl⟩
    · rw [List.mem_singleton.mp hb]; exact ⟨_, _, ho, hd⟩
  have hwK : ∀ b ∈ [e, it], ∀ o, ¬ K b o := by
    intro b hb o
    rcases List.mem_cons.mp hb with rfl | hb
    · exact hKe o
    · rw [List.mem_singleton.mp hb]; exact hKi o
  cases hv : vs.toArray[i]? with
  | none =>
    have hin : i = vs.length := Nat.le_antisymm hi (by simpa using hv)
    subst hin
    refine wpAny_pyNext_enum_end hh he' hit' hl' hv fun h₁ he₁ => wpAny_execs_nil ?_
    exact done ρ ls h₁ tk hJ (S'.but (hwf h _ _ _ he' hit') hwK fun b o hb x => he₁ b o (fun q => hb (by simp [q])) x)
  | some v =>
    have hlt : i < vs.length := by have := (Array.getElem?_eq_some_iff.mp hv).1; simpa using this
    have heH : e < h.objs.size := Heap.lt_size he'
    refine wpAny_pyNext_enum_item he' hit' hl' hv hei fun h₁ heo hit₁ ht₁ hz₁ hk₁ => ?_
    refine wpAny_letOwnedTupleGo_enum heo fun h₂ he₂ hs₂ => ?_
    replace hs₂ : Heap.SameBut e h₁ h₂ := hs₂
    have ht₂ : h₂.IsTuple h.objs.size #[.int i tk, v] := ⟨_, (hs₂.2 _ (Nat.ne_of_gt heH)).trans ht₁, rfl, _, rfl⟩
    have hz₂ : h₂.objs.size = h.objs.size + 1 := hs₂.1.trans hz₁
    refine wpAny_assign_Tuple hh ht₂ rfl rfl fun h₃ hx₃ => ?_
    replace hx₃ : Heap.ExtBut h₂.objs.size h₂ h₃ := hx₃
    have e23 : Ext h₂ h₃ := fun b o x => hx₃ b o (Nat.ne_of_lt (Heap.lt_size x)) x
    have k02 : ∀ b o, b ∉ [e, it] → h.get? b = some o → h₃.get? b = some o := fun b o hb x => by
      have q1 : b ≠ e := fun q => hb (by simp [q])
      have q2 : b ≠ it := fun q => hb (by simp [q])
      exact e23 b o (hs₂.extBut b o q1 (hk₁ b o q1 q2 x))
    have hle : l ≠ e := fun q => by
      obtain ⟨o, ho, _, n, hd⟩ := hl'
      rw [q] at ho
      have : h.get? e = _ := he'
      rw [this] at ho; cases ho; cases hd
    have hli : l ≠ it := fun q => by
      obtain ⟨o, ho, _, n, hd⟩ := hl'
      obtain ⟨o', ho', _, hd'⟩ := hit'
      rw [q] at ho
      rw [ho'] at ho; cases ho; rw [hd'] at hd; cases hd
    have he₃ : IsEnum h₃ e it ((i : Int) + 1) v := e23 _ _ he₂
    have hit₃ : h₃.IsListIter it l (i + 1) := (hit₁.extBut hs₂.extBut (Ne.symm hei)).at fun o x => e23 _ o x
    have hl₃ : h₃.IsList l vs.toArray := hl'.at fun o x => k02 _ o (by simp [hle, hli]) x
    have S₁ : State mg mb env K h₃ ρ ls := S'.but (hwf h _ _ _ he' hit') hwK k02
    let K' : Addr → Obj → Prop := fun b o => K b o ∨ (b ∈ [e, it, l] ∧ h₃.get? b = some o)
    have hKK' : ∀ b o, K b o → K' b o := fun b o x => .inl x
    have S₂ : State mg mb env K' h₃ ρ ls := { S₁ with top := (let ⟨h₀, a, b⟩ := S₁.top; ⟨h₀, a, fun c o x => .inl (b c o x)⟩), kept := fun b o x => x.elim (S₁.kept b o) (·.2) }
    have hno : ∀ b ∈ [e, it, l], ∃ o, h₃.get? b = some o ∧ NotOwn o := by
      intro b hb
      obtain ⟨oi, hoi, _, hdi⟩ := hit₃
      obtain ⟨ol, hol, _, nl, hdl⟩ := hl₃
      simp only [List.mem_cons, List.not_mem_nil, or_false] at hb
      rcases hb with rfl | rfl | rfl
      · exact ⟨_, he₃, notOwn_fields rfl⟩
      · exact ⟨_, hoi, notOwn_fields hdi⟩
      · exact ⟨_, hol, notOwn_seq hdl⟩
    have O' : Off env K' := by
      refine ⟨fun o x => ?_, fun y c o hc x => ?_, O.apart⟩
      · rcases x with x | ⟨hb, x⟩
        · exact O.loc o x
        · obtain ⟨m, ⟨o', es, ep, ho', hd', _⟩, _⟩ := S₁.ns
          obtain ⟨o'', ho'', hno'⟩ := hno _ hb
          rw [ho'] at ho''; cases ho''
          exact hno'.1 _ _ hd'
      · rcases x with x | ⟨hb, x⟩
        · exact O.cel y c o hc x
        · obtain ⟨u, ⟨o', ho', hd'⟩, _⟩ := S₁.cells y c hc
          obtain ⟨o'', ho'', hno'⟩ := hno _ hb
          rw [ho'] at ho''; cases ho''
          exact hno'.2 _ hd'
    show wpAny _ A (do holding [v] (assign (.Name xi pi) env (.int i tk)); do holding [] (assign (.Name xv pv) env v); pure ()) _ _ _
    refine wpAny_bind (wpAny_holding (wpAny_assign_Name (storeA S₂ O' hxi fun h₄ tk₄ S₄ => ?_)))
    refine wpAny_bind (wpAny_holding (wpAny_assign_Name (storeA S₄ O' hxv fun h₅ tk₅ S₅ => wpAny_pure ?_)))
    have hnl : ∀ p ∈ ls, p.1 ≠ l → ∀ o, K' p.1 o → K p.1 o := fun p hp hnl o x => by
      rcases x with x | ⟨hb, x⟩
      · exact x
      · simp only [List.mem_cons, List.not_mem_nil, or_false] at hb
        obtain ⟨n'', ho''⟩ := S₁.lists p hp
        obtain ⟨oi, hoi, _, hdi⟩ := hit₃
        rcases hb with q | q | q
        · rw [q] at ho''
          have he₃' : h₃.get? e = _ := he₃
          rw [he₃'] at ho''
          have ho3 := congrArg Obj.data (Option.some.inj ho'')
          cases ho3
        · rw [q, hoi] at ho''; cases ho''; cases hdi
        · exact absurd q hnl
    refine never (wpAny_mono (turn i v _ K' ρ ls h₅ tk₅ (by simpa using hv) hKK' hnl hJ S₅ O') (fun f s₃ hf => ?_) fun _ _ x => x)
    have next : (∃ ρ ls h tk, s₃ = { s with heap := h, toks := tk } ∧ State mg mb env K' h ρ ls ∧ Inv (i + 1) ρ ls) →
        ∃ m, m < vs.length + 1 - i ∧ ∃ (i : Nat) (old : Value) (h : Heap) (tk : Nat) (ρ : Str → Option Value) (ls : List (Addr × List Value)), s₃ = { s with heap := h, toks := tk } ∧ i ≤ vs.length ∧ m = vs.length + 1 - i ∧ IsEnum h e it (i : Int) old ∧ h.IsListIter it l i ∧ h.IsList l vs.toArray ∧ Inv i ρ ls ∧ State mg mb env K h ρ ls := by
      rintro ⟨ρ', ls', h', tk', rfl, S₆, hJ'⟩
      refine ⟨vs.length + 1 - (i + 1), by omega, i + 1, v, h', tk', ρ', ls', rfl, hlt, rfl, ?_, ?_, ?_, hJ', S₆.weak hKK' S.top⟩
      · have q : ((i + 1 : Nat) : Int) = (i : Int) + 1 := by push_cast; rfl
        rw [q]; exact S₆.kept e _ (.inr ⟨by simp, he₃⟩)
      · exact hit₃.at fun o x => S₆.kept _ o (.inr ⟨by simp, x⟩)
      · exact hl₃.at fun o x => S₆.kept _ o (.inr ⟨by simp, x⟩)
    cases f with
    | ret v => exact hf
    | brk => exact hf
    | next => exact next hf
    | cont => exact next hf
end

section
variable {prog : Program} {w : World} {A : Around} {E : Value → Shared → Prop} {s : Shared}
theorem mulX {m : Int} {t u : Tok} {Q : Value → Shared → Prop} (h0 : 4 ≤ m) (h1 : m ≤ 12) (h : ∀ t' tk, Q (.str (Tx (List.replicate m.toNat 120)) t') { s with toks := tk }) :
    wpAny (model prog w) A (binaryOp .Mult (.str (Tx [120]) t) (.int m u)) Q E s := by
  have hm : m = 4 ∨ m = 5 ∨ m = 6 ∨ m = 7 ∨ m = 8 ∨ m = 9 ∨ m = 10 ∨ m = 11 ∨ m = 12 := by omega
  rcases hm with rfl | rfl | rfl | rfl | rfl | rfl | rfl | rfl | rfl <;> exact SB.mul ⟨by decide, by decide, by decide⟩ h

theorem mulL {l : Addr} {v : Value} {k : Int} {u : Tok} {Q : Value → Shared → Prop} (hl : s.heap.PlainList l #[v]) (h0 : 0 ≤ k) (h1 : k < 1000)
    (h : ∀ (r : Addr) h' tk, Ext s.heap h' → s.heap.get? r = none → h'.PlainList r (List.replicate k.toNat v).toArray → Q (.ref r) { s with heap := h', toks := tk }) :
    wpAny (model prog w) A (binaryOp .Mult (.ref l) (.int k u)) Q E s := by
  obtain ⟨n, ho⟩ := hl
  have hv : (#[v] : Array Value).size = 1 := rfl
  refine wpAny_binaryOp_repeat_ref (T := "list") (U := "int") (by decide) ⟨_, ho, rfl⟩ (fun s' => typeIs_int s' k u) noFill_list_mul F.fills_int_mul F.slot_int_rmul repeat_list F.slot_int_index.lookup
    (call_meets F.slot_int_rmul (typeIs_int s k u) F.entry_int_rmul (F.args_int_rmul_2 _ _) (int___rmul___int_list k u l #[v] n)
      ⟨ho, rfl, ⟨_, ho, rfl⟩, call_meets F.slot_list_mul ⟨_, ho, rfl⟩ F.entry_list_mul (F.args_list_mul_2 _ _)
        (AutoListH.list___mul___list_int_3 l #[v] n k u (by simp [Builtin.List.listFitsIndex]; omega) (by rw [hv]; omega) (by simp [Builtin.List.listTooLong, sizeLine]; omega))
        ⟨ho, ?_⟩⟩)
  have hf : ∀ (n : Nat) (acc : Array Value), List.foldl (fun x1 x2 => x1 ++ x2) acc (List.replicate n #[v]) = acc ++ (List.replicate n v).toArray := by
    intro n
    induction n with
    | zero => intro acc; simp
    | succ n ih => intro acc; rw [List.replicate_succ, List.foldl_cons, ih, List.replicate_succ]; apply Array.ext'; simp
  show Q (.ref s.heap.objs.size) _
  have e : (if (#[v] : Array Value).isEmpty = true then 0 else k.toNat) = k.toNat := if_neg (by simp)
  rw [hf, e, Array.empty_append]
  exact h _ _ s.toks (ext_push _ _) (fresh_size _) ⟨0, Heap.get?_push_size _ rfl⟩
end

theorem ints_all {vs : List Value} (h : ∀ v ∈ vs, ∃ n t, v = .int n t) : ∃ ns, IntsAre vs ns := by
  induction vs with
  | nil => exact ⟨[], .nil⟩
  | cons v r ih =>
    obtain ⟨ns, hn⟩ := ih fun x hx => h x (List.mem_cons_of_mem _ hx)
    obtain ⟨n, t, rfl⟩ := h v List.mem_cons_self
    exact ⟨n :: ns, .cons n t hn⟩
theorem pick_mem {vs : List Value} {lo hi st : Option Int} {v : Value} (h : v ∈ (slicePick vs.toArray lo hi st).toList) : v ∈ vs := by
  unfold slicePick at h
  simp only [List.mem_filterMap] at h
  obtain ⟨k, _, hk⟩ := h
  exact List.mem_of_getElem? (by simpa using hk)

/-- a list that stays as it is -/
def ListK (K : Addr → Obj → Prop) (l : Addr) (vs : List Value) : Prop := ∃ n, K l { cls := .type "list", data := .seq vs.toArray n }
def MatK (K : Addr → Obj → Prop) (l : Addr) (n : Nat) (rs : List Addr) (X : Nat → Nat → Int) : Prop :=
  rs.length = n ∧ ListK K l (rs.map Value.ref) ∧ ∀ (k : Nat) (r : Addr), rs[k]? = some r → ∃ vs, ListK K r vs ∧ IntsAre vs ((List.range n).map (X k))

section
variable {mg mb : Str → Option Value} {env : Env} {K K' : Addr → Obj → Prop} {h : Heap} {ρ : Str → Option Value} {ls : List (Addr × List Value)} {l : Addr} {vs ws : List Value} {n : Nat} {rs : List Addr} {X : Nat → Nat → Int}

theorem ListK.mono (x : ListK K l vs) (hk : ∀ b o, K b o → K' b o) : ListK K' l vs := let ⟨n, e⟩ := x; ⟨n, hk _ _ e⟩
theorem ListK.at (x : ListK K l vs) (S : State mg mb env K h ρ ls) : h.PlainList l vs.toArray := let ⟨n, e⟩ := x; ⟨n, S.kept _ _ e⟩
theorem ListK.on (x : ListK K l vs) (hk : ∀ b o, K b o → h.get? b = some o) : h.PlainList l vs.toArray := let ⟨n, e⟩ := x; ⟨n, hk _ _ e⟩
theorem MatK.mono (x : MatK K l n rs X) (hk : ∀ b o, K b o → K' b o) : MatK K' l n rs X :=
  ⟨x.1, x.2.1.mono hk, fun k r hr => let ⟨vs, a, b⟩ := x.2.2 k r hr; ⟨vs, a.mono hk, b⟩⟩

/-- what stays, and every list there is now -/
def Froz (K : Addr → Obj → Prop) (h : Heap) : Addr → Obj → Prop := fun b o => K b o ∨ (h.get? b = some o ∧ ∃ vs n, o.data = .seq vs n)
theorem Froz.up : ∀ b o, K b o → Froz K h b o := fun _ _ e => .inl e
theorem State.freeze (S : State mg mb env K h ρ ls) : State mg mb env (Froz K h) h ρ ls :=
  { S with top := (let ⟨h₀, a, b⟩ := S.top; ⟨h₀, a, fun c o e => .inl (b c o e)⟩), kept := fun b o e => e.elim (S.kept b o) (·.1) }
theorem Off.freeze (O : Off env K) (S : State mg mb env K h ρ ls) : Off env (Froz K h) := by
  refine ⟨fun o e => ?_, fun y c o hc e => ?_, O.apart⟩
  · rcases e with e | ⟨e, vs, n, hd⟩
    · exact O.loc o e
    · obtain ⟨m, ⟨o', es, ep, ho', hd', _⟩, _⟩ := S.ns
      rw [ho'] at e; cases e; rw [hd'] at hd; cases hd
  · rcases e with e | ⟨e, vs, n, hd⟩
    · exact O.cel y c o hc e
    · obtain ⟨u, ⟨o', ho', hd'⟩, _⟩ := S.cells y c hc
      rw [ho'] at e; cases e; rw [hd'] at hd; cases hd
theorem ListK.of (hl : h.PlainList l vs.toArray) : ListK (Froz K h) l vs := let ⟨n, e⟩ := hl; ⟨n, .inr ⟨e, _, _, rfl⟩⟩
theorem MatK.of (x : MatAt h l n X) : ∃ rs, MatK (Froz K h) l n rs X := by
  obtain ⟨rs, h1, h2, h3⟩ := x
  refine ⟨rs, h1, .of h2, fun k r hr => ?_⟩
  obtain ⟨_, vs, h4, h5⟩ := h3 k r hr
  exact ⟨vs, .of h4, h5⟩

theorem ints_unique : ∀ {vs : List Value} {a b : List Int}, IntsAre vs a → IntsAre vs b → a = b
  | _, _, _, .nil, .nil => rfl
  | _, _, _, .cons n t x, .cons _ _ y => by rw [ints_unique x y]

theorem MatK.row (x : MatK K l n rs X) (hk : ∀ b o, K b o → h.get? b = some o) {v : Value} (hv : v ∈ rs.map Value.ref) :
    ∃ r vs ns, v = .ref r ∧ h.PlainList r vs.toArray ∧ ListK K r vs ∧ IntsAre vs ns ∧ ns.length = n ∧ (∃ k, k < n ∧ ns = (List.range n).map (X k)) ∧ ∀ k, rs[k]? = some r → (List.range n).map (X k) = ns := by
  obtain ⟨r, hr, rfl⟩ := List.mem_map.mp hv
  obtain ⟨k, hk', hrk⟩ := List.getElem_of_mem hr
  obtain ⟨vs, h1, h2⟩ := x.2.2 k r (by simp [hk', hrk])
  refine ⟨r, vs, _, rfl, h1.on hk, h1, h2, by simp, ⟨k, by have := x.1; omega, rfl⟩, fun k' hr' => ?_⟩
  obtain ⟨vs', h1', h2'⟩ := x.2.2 k' r hr'
  have e : vs = vs' := by
    obtain ⟨p, a⟩ := h1.on hk
    obtain ⟨q, b⟩ := h1'.on hk
    rw [a] at b
    have e2 := congrArg Obj.data (Option.some.inj b)
    simp only [Data.seq.injEq, List.toArray_inj] at e2
    first | exact e2.1 | (simpa using e2.1)
  subst e
  exact ints_unique h2' h2

/-- what a comprehension over the rows hands back -/
def RowF (rs : List Addr) (n : Nat) (X : Nat → Nat → Int) (P : List Int → Int → Prop) (v y : Value) : Prop := ∃ r z t, v = .ref r ∧ y = .int z t ∧ ∀ k, rs[k]? = some r → P ((List.range n).map (X k)) z

theorem rows_paired {P : List Int → Int → Prop} : ∀ {rs' : List Addr} {ys : List Value} (d : Nat), (∀ k, rs'[k]? = rs[d + k]?) → Paired (RowF rs n X P) (rs'.map Value.ref) ys →
    ∃ zs : List Int, IntsAre ys zs ∧ zs.length = rs'.length ∧ ∀ k z, zs[k]? = some z → P ((List.range n).map (X (d + k))) z
  | [], _, d, _, .nil => ⟨[], .nil, rfl, fun k z h => by simp at h⟩
  | r :: rs', _, d, hd, .cons hx tl => by
    obtain ⟨zs, h1, h2, h3⟩ := rows_paired (d + 1) (fun k => by have := hd (k + 1); simp only [List.getElem?_cons_succ] at this; rw [this]; congr 1; omega) tl
    obtain ⟨r', z, t, e, rfl, hP⟩ := hx
    cases e
    refine ⟨z :: zs, .cons z t h1, by simp [h2], fun k w hw => ?_⟩
    cases k with
    | zero =>
      simp only [List.getElem?_cons_zero, Option.some.injEq] at hw
      subst hw
      exact hP d (by have := hd 0; simpa using this.symm)
    | succ k =>
      simp only [List.getElem?_cons_succ] at hw
      have := h3 k w hw
      rw [show d + (k + 1) = d + 1 + k by omega]
      exact this
end

section
variable {prog : Program} {w : World} {A : Around} {E : Value → Shared → Prop} {s : Shared} {env : Env} {scope : Scope} {x : Str} {px : Pos} {elt iter : PySem.Expr} {ifs : List PySem.Expr} {pos : Pos}
/-- a comprehension whose relation is named only behind its source -/
theorem compX {Q : Value → Shared → Prop} (B : CompOk env scope x)
    (h : wpAny (model prog w) A (eval iter env) (fun xv s₁ => ∃ p F, wpAny (model prog w) A (pyIter xv) (fun it s₂ => CGoal prog w A env scope x ifs elt p F Q it s₂) E s₁) E s)
    (hs : ∀ x, foldedSetIterable iter env x = pure x := by intro _; rfl) :
    wpAny (model prog w) A (eval (.ListComp elt [⟨.Name x px, iter, ifs, 0⟩] scope pos) env) Q E s := by
  rw [eval_ListComp]
  refine wpAny_comprehension_free (use := none) rfl hs (closure_eq fun y hy hf => (B.free y hy hf).1) B.kind B.names (wpAny_mono h (fun xv s₁ h₁ => ?_) fun _ _ e => e)
  obtain ⟨p, F, h₁⟩ := h₁
  refine wpAny_mono h₁ (fun it s₂ h₂ => ?_) fun _ _ e => e
  obtain ⟨I, fp, wr, n, P, St, rfl, W, hsz, hst, hfp, hq, hQ⟩ := h₂
  refine comp_block_walkC (RR := fun acc C => compPost (model prog w) A E none Q acc C) W hsz p F B.cells B.kind B.isLoc hst hfp hq ?_
  intro D C h' tk m' ys vs hD hC hDC hn hl hpl hlen hP hF hk
  exact ⟨m', hn, fun h'' hs'' => hQ D h'' tk ys vs hD (hl.extBut hs''.extBut hDC) (hpl.extBut hs''.extBut hDC) hlen hP hF fun b o hbf e => hs''.extBut b o (by rintro rfl; rw [hC] at e; cases e) (hk b o hbf e)⟩
end
section
variable {prog : Program} {w : World} {A : Around} {E : Value → Shared → Prop}
variable {h : Heap} {g : Array GenState} {dr : Drawn} {tk : Nat} {os : OsState}
/-- a slice of a written list -/
theorem sliceTH {value slice : PySem.Expr} {l : Addr} {items : List Value} {vl vu vst : Value} {lo hi st : Option Int} {Q : Value → Shared → Prop} {ops : List Value}
    (hl : h.IsList l items.toArray) (pl : IsPart vl lo) (pu : IsPart vu hi) (pst : IsPart vst st) (h0 : st ≠ some 0) (hsz : items.length ≤ sizeLine)
    (hq : ∀ (b : Addr) h' tk, Ext h h' → h.get? b = none → h'.PlainList b (slicePick items.toArray lo hi st).toList.toArray → Q (.ref b) ⟨h', g, dr, tk, os⟩)
    (hs : subscripted slice false (.ref l) (.ref h.objs.size) = operate ops (getItem (.ref l) (.ref h.objs.size))) :
    wpAny (model prog w) A (subscriptTail value slice (.ref l) (.ref h.objs.size)) Q E ⟨h.push { cls := .type "slice", data := .fields #[vl, vu, vst] }, g, dr, tk, os⟩ := by
  refine tail_any (Heap.IsList.typeIs (s := ⟨h.push { cls := .type "slice", data := .fields #[vl, vu, vst] }, g, dr, tk, os⟩) (hl.push _)) list_getitem_lookup
    (wpAny_getItem_list_slice (hl.push _) (Heap.IsSliceOf.new ..) pl pu pst h0 ?_ (by simpa using hsz)) hs
  refine hq _ _ tk ((ext_push _ _).trans (ext_push _ _)) ?_ ⟨0, Heap.get?_push_size _ rfl⟩
  cases e : h.get? (h.push { cls := .type "slice", data := .fields #[vl, vu, vst] }).objs.size with
  | none => rfl
  | some o => exact absurd (Heap.lt_size e) (by rw [Heap.size_push]; exact Nat.not_lt.mpr (Nat.le_succ _))
end
/-- a list that stays, whatever else its object bears -/
def LiK (K : Addr → Obj → Prop) (l : Addr) (vs : List Value) : Prop := ∃ o, K l o ∧ o.cls = .type "list" ∧ ∃ n, o.data = .seq vs.toArray n
theorem LiK.mono {K K' : Addr → Obj → Prop} {l : Addr} {vs : List Value} (x : LiK K l vs) (hk : ∀ b o, K b o → K' b o) : LiK K' l vs := let ⟨o, a, b⟩ := x; ⟨o, hk _ _ a, b⟩
theorem LiK.at {mg mb : Str → Option Value} {env : Env} {K : Addr → Obj → Prop} {h : Heap} {ρ : Str → Option Value} {ls : List (Addr × List Value)} {l : Addr} {vs : List Value} (x : LiK K l vs) (S : State mg mb env K h ρ ls) : h.IsList l vs.toArray :=
  let ⟨o, a, b, c⟩ := x; ⟨o, S.kept _ _ a, b, c⟩

theorem cnt_perm {a b : List Int} (h : a.Perm b) (v : Int) : cnt a v = cnt b v := (h.filter _).length_eq

theorem sorted_le_iff : ∀ (ns : List Int) (k : Nat) (h v : Int), ns.Pairwise (· ≤ ·) → ns[k]? = some h → (h ≤ v ↔ k + 1 ≤ cnt ns v)
  | [], _, _, _, _, e => by simp at e
  | x :: r, 0, h, v, hs, e => by
    simp only [List.getElem?_cons_zero, Option.some.injEq] at e
    subst e
    rw [cnt_cons]
    by_cases hx : x ≤ v
    · simp [hx]
    · have : cnt r v = 0 := cnt_none fun y hy => by have := (List.pairwise_cons.mp hs).1 y hy; omega
      simp [hx, this]
  | x :: r, k + 1, h, v, hs, e => by
    simp only [List.getElem?_cons_succ] at e
    have ih := sorted_le_iff r k h v (List.pairwise_cons.mp hs).2 e
    rw [cnt_cons]
    by_cases hx : x ≤ v
    · rw [ih]; simp [hx]; omega
    · have : cnt r v = 0 := cnt_none fun y hy => by have := (List.pairwise_cons.mp hs).1 y hy; omega
      have h2 := (List.pairwise_cons.mp hs).1 h (List.mem_of_getElem? e)
      simp [hx, this]; omega

/-- the lists agree up to the bound -/
def SameL (b : Int) : List Int → List Int → Prop
  | [], [] => True
  | t :: ts, c :: cs => Same t c b ∧ SameL b ts cs
  | _, _ => False

theorem SameL.length {b : Int} : ∀ {ts cs : List Int}, SameL b ts cs → ts.length = cs.length
  | [], [], _ => rfl
  | _ :: _, _ :: _, h => by simp [SameL.length h.2]
theorem SameL.cnt {b v : Int} (hv : v ≤ b) : ∀ {ts cs : List Int}, SameL b ts cs → Mine.cnt ts v = Mine.cnt cs v
  | [], [], _ => rfl
  | t :: ts, c :: cs, h => by
    rw [cnt_cons, cnt_cons, SameL.cnt hv h.2]
    have h1 := h.1
    have e : (t ≤ v) ↔ (c ≤ v) := by
      by_cases hc : c ≤ b
      · rw [h1.1 hc]
      · have := h1.2 (by omega)
        omega
    simp only [e]

/-- the upper median of what was told is the radius, up to the bound -/
theorem high_same {ts cs ns' : List Int} {b h : Int} {r : Nat} (hS : SameL b ts cs) (hp : ns'.Perm ts) (hs : ns'.Pairwise (· ≤ ·)) (hh : ns'[ts.length / 2]? = some h)
    (h1 : cs.length < 2 * cnt cs r) (h2 : ∀ v : Int, v < r → 2 * cnt cs v ≤ cs.length) : Same h r b := by
  have hlen := hS.length
  have key : ∀ v, v ≤ b → (h ≤ v ↔ cs.length < 2 * cnt cs v) := fun v hv => by
    rw [sorted_le_iff ns' _ h v hs hh, cnt_perm hp, hS.cnt hv]; omega
  unfold Same
  by_cases hb : (r : Int) ≤ b
  · have k1 := (key r hb).mpr h1
    have k2 : ¬ h ≤ (r : Int) - 1 := fun q => by
      have q1 := (key ((r : Int) - 1) (by omega)).mp q
      have q2 := h2 ((r : Int) - 1) (by omega)
      omega
    exact ⟨fun _ => by omega, fun _ => by omega⟩
  · have k2 : ¬ h ≤ b := fun q => by
      have q1 := (key b (by omega)).mp q
      have q2 := h2 b (by omega)
      omega
    exact ⟨fun _ => by omega, fun _ => by omega⟩

/-- the lower median of the told medians is the spread, up to the bound -/
theorem low_same {ts cs ns' : List Int} {b h : Int} {r : Nat} (hS : SameL b ts cs) (hne : 0 < cs.length) (hp : ns'.Perm ts) (hs : ns'.Pairwise (· ≤ ·)) (hh : ns'[(ts.length - 1) / 2]? = some h)
    (h1 : cs.length ≤ 2 * cnt cs r) (h2 : ∀ v : Int, v < r → 2 * cnt cs v < cs.length) : Same h r b := by
  have hlen := hS.length
  have key : ∀ v, v ≤ b → (h ≤ v ↔ cs.length ≤ 2 * cnt cs v) := fun v hv => by
    rw [sorted_le_iff ns' _ h v hs hh, cnt_perm hp, hS.cnt hv]; omega
  unfold Same
  by_cases hb : (r : Int) ≤ b
  · have k1 := (key r hb).mpr h1
    have k2 : ¬ h ≤ (r : Int) - 1 := fun q => by
      have q1 := (key ((r : Int) - 1) (by omega)).mp q
      have q2 := h2 ((r : Int) - 1) (by omega)
      omega
    exact ⟨fun _ => by omega, fun _ => by omega⟩
  · have k2 : ¬ h ≤ b := fun q => by
      have q1 := (key b (by omega)).mp q
      have q2 := h2 b (by omega)
      omega
    exact ⟨fun _ => by omega, fun _ => by omega⟩

theorem lower_apart : ∀ c, (c = 97 ∨ c = 65 ∨ c = 98 ∨ c = 66) → ¬ Txt.lower (Tx [c]) = Txt.lower (Tx [120]) := by
  rintro c (rfl | rfl | rfl | rfl) <;> decide +kernel
theorem subC_x {c : Nat} (h : c = 97 ∨ c = 65 ∨ c = 98 ∨ c = 66) : subC c 120 = 2 := by
  unfold subC
  rw [if_neg (by omega), if_neg (lower_apart c h)]
theorem D_stranger {w : List Nat} (hw : WordOk w) (m : Nat) : 2 * (m : Int) ≤ D subC w (List.replicate m 120) := by
  have := D_apart (sub := subC) (a := w) (b := List.replicate m 120) fun x hx y hy => by rw [List.eq_of_mem_replicate hy]; exact subC_x (hw.2 x hx)
  simpa using this
theorem D_words {a b : List Nat} (ha : WordOk a) (hb : WordOk b) : 0 ≤ D subC a b ∧ D subC a b ≤ 6 := by
  have h1 := D_upper price_subC a b
  have h2 := D_nonneg price_subC a b
  have := ha.1
  have := hb.1
  omega

theorem cnt_append (a z : List Int) (v : Int) : cnt (a ++ z) v = cnt a v + cnt z v := by
  unfold cnt; rw [List.filter_append, List.length_append]
theorem cnt_le (a : List Int) (v : Int) : cnt a v ≤ a.length := List.length_filter_le _ _
theorem cnt_lt : ∀ {a : List Int} {v x : Int}, x ∈ a → v < x → cnt a v < a.length
  | y :: r, v, x, hx, hv => by
    rw [cnt_cons, List.length_cons]
    have := cnt_le r v
    rcases List.mem_cons.mp hx with rfl | hx
    · rw [if_neg (by omega)]; omega
    · have := cnt_lt hx hv
      split <;> omega
theorem cnt_lt2 : ∀ {a : List Int} {v : Int} {i j : Nat} {x y : Int}, a[i]? = some x → a[j]? = some y → i < j → v < x → v < y → cnt a v + 2 ≤ a.length
  | z :: r, v, 0, j + 1, x, y, hx, hy, _, h1, h2 => by
    simp only [List.getElem?_cons_zero, Option.some.injEq, List.getElem?_cons_succ] at hx hy
    subst hx
    have := cnt_lt (List.mem_of_getElem? hy) h2
    rw [cnt_cons, if_neg (by omega), List.length_cons]; omega
  | z :: r, v, i + 1, j + 1, x, y, hx, hy, hij, h1, h2 => by
    simp only [List.getElem?_cons_succ] at hx hy
    have := cnt_lt2 hx hy (by omega) h1 h2
    rw [cnt_cons, List.length_cons]
    split <;> omega

/-- a row of one who stays -/
theorem crowd_word {a z cs ns' : List Int} {b h wd : Int} (hS : SameL b a cs) (hz : ∀ t ∈ z, b < t) (hst : (a.length + z.length) / 2 + 1 = cs.length) (hp : ns'.Perm (a ++ z)) (hs : ns'.Pairwise (· ≤ ·))
    (hh : ns'[(a ++ z).length / 2]? = some h) (hm : wd ∈ cs) (hmax : ∀ c ∈ cs, c ≤ wd) (hb : wd ≤ b) : h = wd := by
  have key : ∀ v, v ≤ b → (h ≤ v ↔ cs.length ≤ cnt cs v) := fun v hv => by
    rw [sorted_le_iff ns' _ h v hs hh, cnt_perm hp, cnt_append, hS.cnt hv, cnt_none (ns := z) fun x hx => by have := hz x hx; omega, List.length_append]; omega
  have k1 := (key wd hb).mpr (by rw [cnt_all hmax]; omega)
  have k2 : ¬ h ≤ wd - 1 := fun q => by
    have q1 := (key (wd - 1) (by omega)).mp q
    have q2 := cnt_lt (v := wd - 1) hm (by omega)
    omega
  omega

/-- a stranger's row -/
theorem crowd_stranger {a z ns' : List Int} {b h : Int} (ha : ∀ t ∈ a, b < t) (hst : z.length < (a.length + z.length) / 2 + 1) (hp : ns'.Perm (a ++ z)) (hs : ns'.Pairwise (· ≤ ·))
    (hh : ns'[(a ++ z).length / 2]? = some h) : b < h := by
  have key : (h ≤ b ↔ _) := sorted_le_iff ns' _ h b hs hh
  rw [cnt_perm hp, cnt_append, cnt_none ha, List.length_append] at key
  have := cnt_le z b
  omega

/-- the lower median of the crowd -/
theorem crowd_low {ds z ns' : List Int} {wd h : Int} (hz : ∀ t ∈ z, wd < t) (hst : (ds.length + z.length) / 2 + 1 = ds.length) (hn : 2 ≤ ds.length) (hp : ns'.Perm (ds ++ z)) (hs : ns'.Pairwise (· ≤ ·))
    (hh : ns'[((ds ++ z).length - 1) / 2]? = some h) (hmax : ∀ c ∈ ds, c ≤ wd) (h2 : cnt ds (wd - 1) = 0 ∨ cnt ds (wd - 1) + 2 ≤ ds.length) : h = wd := by
  have key : ∀ v, v ≤ wd → (h ≤ v ↔ (ds.length + z.length - 1) / 2 + 1 ≤ cnt ds v) := fun v hv => by
    rw [sorted_le_iff ns' _ h v hs hh, cnt_perm hp, cnt_append, cnt_none (ns := z) fun x hx => by have := hz x hx; omega, List.length_append]; omega
  have k1 := (key wd (by omega)).mpr (by rw [cnt_all hmax]; omega)
  have k2 : ¬ h ≤ wd - 1 := fun q => by
    have q1 := (key (wd - 1) (by omega)).mp q
    omega
  omega

/-- z is the upper median of a row -/
def MedH (row : List Int) (z : Int) : Prop := ∃ ns' : List Int, ns'.Perm row ∧ ns'.Pairwise (· ≤ ·) ∧ ns'[row.length / 2]? = some z

theorem sameL_map {α : Type} {b : Int} {f g : α → Int} : ∀ {l : List α}, (∀ x ∈ l, Same (f x) (g x) b) → SameL b (l.map f) (l.map g)
  | [], _ => trivial
  | x :: r, h => ⟨h x List.mem_cons_self, sameL_map fun y hy => h y (List.mem_cons_of_mem _ hy)⟩

theorem range_split {f : Nat → Int} {a n : Nat} (h : a ≤ n) : (List.range n).map f = (List.range a).map f ++ (List.range (n - a)).map fun j => f (a + j) := by
  have e : n = a + (n - a) := by omega
  conv => lhs; rw [e, List.range_add, List.map_append, List.map_map]
  rfl

section
variable {n st : Nat} {X Y : Nat → Nat → Int} {wd : Int} {wis zs : List Int}

theorem crowd_rows (hn : 4 ≤ n) (hst : st = n / 2 + 1) (hwl : wis.length = st)
    (hXY : ∀ k j, k < n → j < n → Same (X k j) (Y k j) wd) (hY1 : ∀ k j, k < st → st ≤ j → j < n → wd < Y k j) (hY2 : ∀ k j, st ≤ k → k < n → j < st → wd < Y k j)
    (hw : ∀ (k : Nat) w, wis[k]? = some w → w ∈ (List.range st).map (Y k) ∧ ∀ c ∈ (List.range st).map (Y k), c ≤ w) (hwd : ∀ w ∈ wis, w ≤ wd)
    (hz : ∀ (k : Nat) z, zs[k]? = some z → MedH ((List.range n).map (X k)) z) (hzl : zs.length = n) :
    (∀ (k : Nat) z w, zs[k]? = some z → wis[k]? = some w → z = w) ∧ ∀ (k : Nat) z, st ≤ k → zs[k]? = some z → wd < z := by
  have hsn : st ≤ n := by omega
  refine ⟨fun k z w hk hwk => ?_, fun k z hkst hk => ?_⟩
  · have hkl : k < st := by have := (List.getElem?_eq_some_iff.mp hwk).1; omega
    obtain ⟨ns', hp, hs, hg⟩ := hz k z hk
    rw [range_split hsn] at hp hg
    obtain ⟨h1, h2⟩ := hw k w hwk
    refine crowd_word (b := wd) (sameL_map (g := Y k) fun j hj => hXY k j (by omega) (by have := List.mem_range.mp hj; omega)) (fun t ht => ?_) (by simp; omega) hp hs hg h1 h2 (hwd w (List.mem_of_getElem? hwk))
    obtain ⟨j, hj, rfl⟩ := List.mem_map.mp ht
    have hj' := List.mem_range.mp hj
    exact (hXY k (st + j) (by omega) (by omega)).2 (hY1 k (st + j) hkl (by omega) (by omega))
  · have hkn : k < n := by have := (List.getElem?_eq_some_iff.mp hk).1; omega
    obtain ⟨ns', hp, hs, hg⟩ := hz k z hk
    rw [range_split hsn] at hp hg
    refine crowd_stranger (fun t ht => ?_) (by simp; omega) hp hs hg
    obtain ⟨j, hj, rfl⟩ := List.mem_map.mp ht
    have hj' := List.mem_range.mp hj
    exact (hXY k j hkn (by omega)).2 (hY2 k j hkst hkn hj')

theorem crowd_same (hn : 4 ≤ n) (hst : st = n / 2 + 1) (hwl : wis.length = st) (hzl : zs.length = n)
    (h1 : ∀ (k : Nat) z w, zs[k]? = some z → wis[k]? = some w → z = w) (h2 : ∀ (k : Nat) z, st ≤ k → zs[k]? = some z → wd < z) (hwd : ∀ w ∈ wis, w ≤ wd) :
    ∀ (i : Nat) h d, zs[i]? = some h → (wis ++ List.replicate (n - st) (wd + 1))[i]? = some d → Same h d wd := by
  intro i h d hh hd
  by_cases hi : i < st
  · rw [List.getElem?_append_left (by omega)] at hd
    rw [h1 i h d hh hd]
    have := hwd d (List.mem_of_getElem? hd)
    exact ⟨fun _ => rfl, fun _ => by omega⟩
  · rw [List.getElem?_append_right (by omega)] at hd
    have e := List.eq_of_mem_replicate (List.mem_of_getElem? hd)
    have := h2 i h (by omega) hh
    exact ⟨fun _ => by omega, fun _ => this⟩

theorem crowd_lowest (hn : 4 ≤ n) (hst : st = n / 2 + 1) (hwl : wis.length = st) (hzl : zs.length = n)
    (h1 : ∀ (k : Nat) z w, zs[k]? = some z → wis[k]? = some w → z = w) (h2 : ∀ (k : Nat) z, st ≤ k → zs[k]? = some z → wd < z) (hwd : ∀ w ∈ wis, w ≤ wd) (hwm : wd ∈ wis)
    (hw : ∀ (k : Nat) w, wis[k]? = some w → w ∈ (List.range st).map (Y k) ∧ ∀ c ∈ (List.range st).map (Y k), c ≤ w)
    (hY0 : ∀ k, k < st → Y k k = 0) (hYs : ∀ k j, k < st → j < st → Y k j = Y j k) (hYn : ∀ k j, k < st → j < st → 0 ≤ Y k j) :
    ∀ (ns' : List Int) v, ns'.Perm zs → ns'.Pairwise (· ≤ ·) → ns'[(zs.length - 1) / 2]? = some v → Same v wd wd := by
  intro ns' v hp hs hg
  have e : zs = wis ++ zs.drop st := by
    apply List.ext_getElem?
    intro k
    by_cases hk : k < st
    · rw [List.getElem?_append_left (by omega)]
      obtain ⟨z, hz⟩ : ∃ z, zs[k]? = some z := ⟨zs[k]'(by omega), by simp⟩
      obtain ⟨w, hw⟩ : ∃ w, wis[k]? = some w := ⟨wis[k]'(by omega), by simp⟩
      rw [hz, hw, h1 k z w hz hw]
    · rw [List.getElem?_append_right (by omega), List.getElem?_drop]
      congr 1; omega
  have hdl : (zs.drop st).length = n - st := by simp [hzl]
  rw [e] at hp hg
  have := crowd_low (ds := wis) (z := zs.drop st) (wd := wd) (h := v) (fun t ht => ?_) (by omega) (by omega) hp hs hg hwd ?_
  · rw [this]; exact ⟨fun _ => rfl, fun h => by omega⟩
  · obtain ⟨k, hk⟩ := List.getElem?_of_mem ht
    rw [List.getElem?_drop] at hk
    exact h2 (st + k) t (by omega) hk
  · obtain ⟨i, hi⟩ := List.getElem?_of_mem hwm
    have hil : i < st := by have := (List.getElem?_eq_some_iff.mp hi).1; omega
    obtain ⟨hm, _⟩ := hw i wd hi
    obtain ⟨j, hj, hjw⟩ := List.mem_map.mp hm
    have hj' := List.mem_range.mp hj
    by_cases hij : i = j
    · left
      subst hij
      rw [hY0 i hil] at hjw
      refine cnt_none fun x hx => ?_
      obtain ⟨k, hk⟩ := List.getElem?_of_mem hx
      have hkl : k < st := by have := (List.getElem?_eq_some_iff.mp hk).1; omega
      have := (hw k x hk).2 (Y k k) (List.mem_map.mpr ⟨k, List.mem_range.mpr hkl, rfl⟩)
      rw [hY0 k hkl] at this
      omega
    · right
      obtain ⟨x, hx⟩ : ∃ x, wis[j]? = some x := ⟨wis[j]'(by omega), by simp⟩
      have h3 := (hw j x hx).2 (Y j i) (List.mem_map.mpr ⟨i, List.mem_range.mpr hil, rfl⟩)
      rw [← hYs i j hil hj', hjw] at h3
      rcases Nat.lt_or_gt_of_ne hij with q | q
      · exact cnt_lt2 hi hx q (by omega) (by omega)
      · exact cnt_lt2 hx hi q (by omega) (by omega)
end

/-- r is the radius of a row -/
def RadOk (row : List Int) (r : Int) : Prop := ∃ rr : Nat, r = (rr : Int) ∧ row.length < 2 * cnt row rr ∧ ∀ v : Int, v < rr → 2 * cnt row v ≤ row.length
/-- sp is the spread of the radii -/
def SprOk (rns : List Int) (sp : Nat) : Prop := rns.length ≤ 2 * cnt rns sp ∧ ∀ v : Int, v < sp → 2 * cnt rns v < rns.length

theorem sameL_of {b : Int} : ∀ {ts cs : List Int}, ts.length = cs.length → (∀ (k : Nat) t c, ts[k]? = some t → cs[k]? = some c → Same t c b) → SameL b ts cs
  | [], [], _, _ => trivial
  | [], _ :: _, h, _ => by cases h
  | _ :: _, [], h, _ => by cases h
  | t :: ts, c :: cs, h, g => ⟨g 0 t c rfl rfl, sameL_of (by simpa using h) fun k t' c' h1 h2 => g (k + 1) t' c' (by simpa using h1) (by simpa using h2)⟩

theorem turn_high {n : Nat} {Z X : Nat → Nat → Int} {b : Int} {k : Nat} {z r : Int} (hk : k < n) (hZ : ∀ k j, k < n → j < n → Same (Z k j) (X k j) b) (hz : MedH ((List.range n).map (Z k)) z) (hr : RadOk ((List.range n).map (X k)) r) : Same z r b := by
  obtain ⟨ns', hp, hs, hg⟩ := hz
  obtain ⟨rr, rfl, h1, h2⟩ := hr
  exact high_same (sameL_map fun j hj => hZ k j hk (List.mem_range.mp hj)) hp hs hg h1 h2

theorem turn_low {zs rns : List Int} {b : Int} {sp : Nat} (hlen : zs.length = rns.length) (hne : 0 < rns.length) (hS : ∀ (k : Nat) t c, zs[k]? = some t → rns[k]? = some c → Same t c b) (hsp : SprOk rns sp)
    (ns' : List Int) (v : Int) (hp : ns'.Perm zs) (hs : ns'.Pairwise (· ≤ ·)) (hg : ns'[(zs.length - 1) / 2]? = some v) : Same v sp b :=
  low_same (sameL_of hlen hS) hne hp hs hg hsp.1 hsp.2

abbrev lawEnv (L a : Addr) (cd : Value) : Env := envOfC (recAt 17).name (recAt 17).scope L a cd
/-- law ends with True -/
def LawEnd (s : Shared) (K : Addr → Obj → Prop) (f : Flow) (s' : Shared) : Prop := f = .ret (.bool true) ∧ ∃ h tk, s' = { s with heap := h, toks := tk } ∧ ∀ b o, K b o → h.get? b = some o

set_option maxHeartbeats 4000000 in
/-- statements 15, 16 -/
theorem law_15 {prog : Program} {w : World} {A : Around} {s : Shared} {mg mb : Str → Option Value} {K : Addr → Obj → Prop} {ρ : Str → Option Value} {L a : Addr} {cd : Value} {m n : Nat} {lh ld : Addr} {wd : Int} {t₁ t₂ : Tok}
    {hv dv : List Value} {hs ds : List Int}
    (R : Room A (m + 4)) (hn : 4 ≤ n ∧ n ≤ 6) (S : State mg mb (lawEnv L a cd) K s.heap ρ []) (O : Off (lawEnv L a cd) K)
    (H : Has ρ [("count", .int n t₁), ("widest", .int wd t₂), ("highs", .ref lh), ("due", .ref ld)])
    (hh : ListK K lh hv) (hI : IntsAre hv hs) (hhl : hs.length = n) (hd : ListK K ld dv) (hJ : IntsAre dv ds) (hdl : ds.length = n)
    (hsame : ∀ (i : Nat) h d, hs[i]? = some h → ds[i]? = some d → Same h d wd)
    (hlow : ∀ (ns' : List Int) v, ns'.Perm hs → ns'.Pairwise (· ≤ ·) → ns'[(hs.length - 1) / 2]? = some v → Same v wd wd) :
    wpAny (model prog w) A (execs ((recAt 17).body.drop 15) (lawEnv L a cd)) (LawEnd s K) Never s := by
  show wpAny _ _ (execs (_ :: _ :: _) _) _ _ _
  have hsl := sizeLine_eq
  have R' := R.handled
  have R1 : Room A (m + 1) := R.le (by omega)
  replace S := S.has H
  repeat (walk_at "m")
  try dsimp only
  refine compE (fun v => (fun _ => false) (numOf v)) (fun v y => (fun (_ : Int) (_ : Value) => True) (numOf v) y) (CompOk.of (by with_unfolding_all rfl) (by with_unfolding_all rfl)) ?_
  repeat (walk_at "m")
  try dsimp only
  with_reducible refine range1 fun r h₂ tk₂ a₂ b₂ c₂ hx₂ hr => ?_
  replace S := S.ext hx₂
  try dsimp only
  refine comp_range (n := n) (fun _ => false) (fun _ _ => True) R' hr (small_n (by omega)) rs_n (by omega) S (CompOk.of (by with_unfolding_all rfl) (by with_unfolding_all rfl)) ?_ ?_ ?_
  · intro C k t s₃ hk hx₃ S₃
    obtain ⟨i, hi, rfl⟩ := rng_mem hk
    have e2 : (0 : Int) + (i : Int) * 1 = (i : Int) := by omega
    rw [e2] at S₃
    obtain ⟨hv₀, hh₀⟩ : ∃ x, hs[i]? = some x := ⟨hs[i]'(by omega), by simp⟩
    obtain ⟨dv₀, hd₀⟩ : ∃ x, ds[i]? = some x := ⟨ds[i]'(by omega), by simp⟩
    obtain ⟨u, hu⟩ := intsAt hI hh₀
    obtain ⟨u', hu'⟩ := intsAt hJ hd₀
    have hb := sameB_iff.mpr (hsame i _ _ hh₀ hd₀)
    have q1 : s₃.heap.PlainList lh hv.toArray := (hh.at S).at fun o e => hx₃ _ _ e
    have q2 : s₃.heap.PlainList ld dv.toArray := (hd.at S).at fun o e => hx₃ _ _ e
    obtain ⟨fs, os, pms, cds, docs, hfs, -, -, -⟩ := S₃.glb.fn 16 (by decide)
    refine wpAny_tests_one ?_
    repeat (walk_at "m")
    try dsimp only
    refine nameG S₃ (by with_unfolding_all rfl) hfs ?_
    refine callDef 16 (by decide) hfs S₃.glb ?_
    repeat (walk_at "m")
    try dsimp only
    with_reducible refine itemN (x := .int hv₀ u) q1.isList (by omega) (by simpa using hu) ?_
    repeat (walk_at "m")
    try dsimp only
    with_reducible refine itemN (x := .int dv₀ u') q2.isList (by omega) (by simpa using hu') ?_
    repeat (walk_at "m")
    try dsimp only
    refine ⟨Ext.refl _, ?_⟩
    refine law_same_call R1 S₃.glb hfs fun h₈ tk₈ hx₈ => ?_
    rw [hb]
    repeat (walk_at "m")
    try dsimp only
    exact ⟨rfl, _, _, rfl, hx₈⟩
  · intro C k t s₃ hk hf hx₃ S₃
    cases hf
  intro D h₃ tk₃ ys hx₃ hD hpl hP
  have hys : ys = [] := by
    have e : (rng 0 1 n).filter (fun _ => false) = [] := by simp
    rw [e] at hP
    cases hP; rfl
  subst hys
  replace S := (S.ext hx₃).add hpl
  repeat (walk_at "m")
  try dsimp only
  refine List_ ?_
  repeat (walk_at "m")
  try dsimp only
  with_reducible refine newListI (by simp) fun le h₄ tk₄ hx₄ hle hpl₄ => ?_
  replace S := S.ext hx₄
  dsimp only at S ⊢
  refine neEmpty (S.lists _ (List.Mem.head _)).isList hpl₄.isList (by have := R.cl; omega) ?_
  repeat (walk_at "m")
  try dsimp only
  replace S := S.sub (ls' := []) (by simp)
  obtain ⟨fs, os, pms, cds, docs, hfs, -, -, -⟩ := S.glb.fn 16 (by decide)
  refine nameG S (by with_unfolding_all rfl) hfs ?_
  refine callDef 16 (by decide) hfs S.glb ?_
  repeat (walk_at "m")
  try dsimp only
  obtain ⟨fm, om, pmm, cdm, docm, hfm, -, -, -⟩ := S.glb.fn 2 (by decide)
  refine nameG S (by with_unfolding_all rfl) hfm ?_
  refine callDef 2 (by decide) hfm S.glb ?_
  repeat (walk_at "m")
  try dsimp only
  refine ⟨Ext.refl _, ?_⟩
  have hIl := hI.length
  refine median_low_call R1 S.glb hfm (hh.at S).isList hI (by omega) (by omega) fun ns' v tv h₅ tk₅ hx₅ hp hs' hg => ?_
  replace S := S.ext hx₅
  have hb := sameB_iff.mpr (hlow ns' v hp hs' hg)
  repeat (walk_at "m")
  try dsimp only
  refine ⟨fun b o e => ?_, ?_⟩
  · exact hx₅ b o e
  refine law_same_call R1 S.glb hfs fun h₈ tk₈ hx₈ => ?_
  rw [hb]
  repeat (walk_at "m")
  try dsimp only
  exact ⟨rfl, _, _, rfl, fun b o e => hx₈ _ _ (S.kept b o e)⟩

set_option maxHeartbeats 4000000 in
/-- statements 13, 14 -/
theorem law_13 {prog : Program} {w : World} {A : Around} {s : Shared} {mg mb : Str → Option Value} {K : Addr → Obj → Prop} {ρ : Str → Option Value} {L a : Addr} {cd : Value} {m n st : Nat} {lc li : Addr} {wd : Int} {t₁ t₂ t₃ : Tok}
    {cv iv : List Value} {cws : List (List Nat)} {wis : List Int}
    (R : Room A (m + 4)) (hn : 4 ≤ n ∧ n ≤ 6) (hst : st = n / 2 + 1) (S : State mg mb (lawEnv L a cd) K s.heap ρ []) (O : Off (lawEnv L a cd) K)
    (H : Has ρ [("count", .int n t₁), ("widest", .int wd t₂), ("stay", .int st t₃), ("crowd", .ref lc), ("widths", .ref li)])
    (hc : ListK K lc cv) (hW : TxAre cv cws) (hwn : cws.length = n) (hws : ∀ cs ∈ cws, cs.length ≤ 40)
    (hi : ListK K li iv) (hI : IntsAre iv wis) (hil : wis.length = st) {Y : Nat → Nat → Int}
    (hY : ∀ (k j : Nat) cs ds, cws[k]? = some cs → cws[j]? = some ds → Y k j = D subC cs ds)
    (hY1 : ∀ k j, k < st → st ≤ j → j < n → wd < Y k j) 
    (hw : ∀ (k : Nat) w, wis[k]? = some w → w ∈ (List.range st).map (Y k) ∧ ∀ c ∈ (List.range st).map (Y k), c ≤ w) (hwd : ∀ w ∈ wis, w ≤ wd) (hwm : wd ∈ wis) :
    wpAny (model prog w) A (execs ((recAt 17).body.drop 13) (lawEnv L a cd)) (LawEnd s K) Never s := by
  show wpAny _ _ (execs (_ :: _ :: _) _) _ _ _
  have hsl := sizeLine_eq
  have R' := R.handled
  have R1 : Room A (m + 1) := R.le (by omega)
  have R3 : Room A (m + 3) := R.le (by omega)
  have hivl := hI.length
  have hYs : ∀ k j, k < n → j < n → Y k j = Y j k := fun k j hk hj => by
    obtain ⟨cs, hcs⟩ : ∃ cs, cws[k]? = some cs := ⟨cws[k]'(by omega), by simp⟩
    obtain ⟨ds, hds⟩ : ∃ ds, cws[j]? = some ds := ⟨cws[j]'(by omega), by simp⟩
    rw [hY k j cs ds hcs hds, hY j k ds cs hds hcs]; exact D_symm price_subC _ _
  replace S := S.has H
  repeat (walk_at "m")
  try dsimp only
  refine compX (CompOk.of (by with_unfolding_all rfl) (by with_unfolding_all rfl)) ?_
  repeat (walk_at "m")
  try dsimp only
  obtain ⟨ft, ot, pmt, cdt, doct, hft, -, -, -⟩ := S.glb.fn 15 (by decide)
  refine nameG S (by with_unfolding_all rfl) hft ?_
  refine callDef 15 (by decide) hft S.glb ?_
  repeat (walk_at "m")
  try dsimp only
  refine ⟨Ext.refl _, ?_⟩
  refine told_call R3 S.glb hft (hc.at S).isList hW (by omega) hws fun l X h₅ tk₅ hx₅ hl₅ hM hXs hXr => ?_
  rw [hwn] at hM hXs
  have hXY : ∀ k j, k < n → j < n → Same (X k j) (Y k j) wd := fun k j hk hj => by
    obtain ⟨cs, hcs⟩ : ∃ cs, cws[k]? = some cs := ⟨cws[k]'(by omega), by simp⟩
    obtain ⟨ds, hds⟩ : ∃ ds, cws[j]? = some ds := ⟨cws[j]'(by omega), by simp⟩
    by_cases hkj : k ≤ j
    · rw [hY k j cs ds hcs hds]; exact hXr k j cs ds _ hkj hcs hds rfl
    · rw [hYs k j hk hj, hXs k j (by omega) hk, hY j k ds cs hds hcs]; exact hXr j k ds cs _ (by omega) hds hcs rfl
  replace S := S.ext hx₅
  obtain ⟨rs, hMK⟩ := MatK.of (K := K) hM
  replace O := O.freeze S
  replace S := S.freeze
  refine ⟨fun _ => true, RowF rs n X MedH, ?_⟩
  have hrl := hMK.1
  refine comp_list (vs := rs.map Value.ref) (fun _ => true) (RowF rs n X MedH) R' (hMK.2.1.at S).isList (by simp; omega) S (CompOk.of (by with_unfolding_all rfl) (by with_unfolding_all rfl)) ?_ ?_ ?_
  · intro C v s₃ hv hx₃ S₃
    exact wpAny_tests_nil ⟨rfl, _, _, rfl, Ext.refl _⟩
  · intro C v s₃ hv _ hx₃ S₃
    obtain ⟨r, vs, ns, rfl, hr1, hr2, hr3, hr4, hr5, hr6⟩ := hMK.row (h := s₃.heap) (fun b o e => hx₃ b o (S.kept b o e)) hv
    obtain ⟨fm, om, pmm, cdm, docm, hfm, -, -, -⟩ := S₃.glb.fn 3 (by decide)
    repeat (walk_at "m")
    try dsimp only
    refine nameG S₃ (by with_unfolding_all rfl) hfm ?_
    refine callDef 3 (by decide) hfm S₃.glb ?_
    repeat (walk_at "m")
    try dsimp only
    refine ⟨Ext.refl _, ?_⟩
    have hvl := hr3.length
    refine median_high_call R1 S₃.glb hfm hr1.isList hr3 (by omega) (by omega) fun ns' v tv h₆ tk₆ hx₆ hp hs' hg => ?_
    exact ⟨⟨r, v, tv, rfl, rfl, fun k hk => by rw [hr6 k hk]; exact ⟨ns', hp, hs', hg⟩⟩, _, _, rfl, hx₆⟩
  intro D h₆ tk₆ ys hx₆ hD hpl hP
  rw [filter_true] at hP
  obtain ⟨zs, hzI, hzl, hz⟩ := rows_paired (rs := rs) 0 (fun k => by rw [Nat.zero_add]) hP
  rw [hrl] at hzl
  replace hz : ∀ (k : Nat) z, zs[k]? = some z → MedH ((List.range n).map (X k)) z := fun k z hk => by have := hz k z hk; rwa [Nat.zero_add] at this
  replace S := S.ext hx₆
  dsimp only at S ⊢
  have hDK : ListK (Froz (Froz K h₅) h₆) D ys := .of hpl
  replace O := O.freeze S
  replace S := S.freeze
  refine storeC S O (by with_unfolding_all rfl) (by with_unfolding_all rfl) ?_
  clear S; intro h₁ tk S; dsimp only at S ⊢
  repeat (walk_at "m")
  try dsimp only
  refine List_ ?_
  repeat (walk_at "m")
  try dsimp only
  with_reducible refine newListI (by simp; omega) fun l₂ h₂ tk₂ hx₂ hl₂ hpl₂ => ?_
  replace S := (S.ext hx₂).add hpl₂
  dsimp only at S ⊢
  repeat (walk_at "m")
  try dsimp only
  have e1 : (n : Int) - (st : Int) = ((n - st : Nat) : Int) := by omega
  rw [e1]
  with_reducible refine mulL hpl₂ (by omega) (by omega) fun l₃ h₃ tk₃ hx₃ hl₃ hpl₃ => ?_
  rw [Int.toNat_natCast] at hpl₃
  replace S := (S.ext hx₃).sub (ls' := []) (by simp)
  dsimp only at S ⊢
  have hi' : ListK (Froz (Froz K h₅) h₆) li iv := (hi.mono Froz.up).mono Froz.up
  with_reducible refine addL (hi'.at S).isList hpl₃.isList (by simp; omega) fun l₄ h₄ tk₄ hx₄ hl₄ hpl₄ => ?_
  replace S := S.ext hx₄
  dsimp only at S ⊢
  have hdK : ListK (Froz (Froz (Froz K h₅) h₆) h₄) l₄ _ := .of hpl₄
  replace O := O.freeze S
  replace S := S.freeze
  refine storeC S O (by with_unfolding_all rfl) (by with_unfolding_all rfl) ?_
  clear S; intro h₁ tk S; dsimp only at S ⊢
  have hh := crowd_rows (by omega) hst hil hXY hY1 (fun k j h1 h2 h3 => by rw [hYs k j h2 (by omega)]; exact hY1 j k h3 h1 h2) hw hwd hz hzl
  have hrep : ∀ (k : Nat) (x : Int) (t : Tok), IntsAre (List.replicate k (Value.int x t)) (List.replicate k x) := fun k x t => by
    induction k with
    | zero => exact .nil
    | succ k ih => exact .cons x t ih
  have hS := crowd_same (by omega) hst hil hzl hh.1 hh.2 hwd
  have hL := crowd_lowest (Y := Y) (by omega) hst hil hzl hh.1 hh.2 hwd hwm hw (fun k hk => ?_) (fun k j hk hj => hYs k j (by omega) (by omega)) (fun k j hk hj => ?_)
  refine wpAny_mono (law_15 R hn S O (has_cons (by with_unfolding_all rfl) (has_cons (by with_unfolding_all rfl) (has_cons (by with_unfolding_all rfl) (has_cons (by with_unfolding_all rfl) has_nil)))) (hDK.mono Froz.up) hzI hzl hdK (ints_append hI (hrep _ _ _)) (by simp; omega) hS hL) (fun f s' hf => ?_) fun _ _ e => e
  · obtain ⟨h1, h', tk', rfl, h2⟩ := hf
    exact ⟨h1, h', tk', rfl, fun b o e => h2 b o (Froz.up _ _ (Froz.up _ _ (Froz.up _ _ e)))⟩
  · obtain ⟨cs, hcs⟩ : ∃ cs, cws[k]? = some cs := ⟨cws[k]'(by omega), by simp⟩
    rw [hY k k cs cs hcs hcs]; exact D_self price_subC _
  · obtain ⟨cs, hcs⟩ : ∃ cs, cws[k]? = some cs := ⟨cws[k]'(by omega), by simp⟩
    obtain ⟨ds, hds⟩ : ∃ ds, cws[j]? = some ds := ⟨cws[j]'(by omega), by simp⟩
    rw [hY k j cs ds hcs hds]; exact D_nonneg price_subC _ _

theorem TxAre.nil : TxAre [] [] := ⟨rfl, fun k cs h => by simp at h⟩
theorem TxAre.cons {cs : List Nat} {t : Tok} {vs : List Value} {ws : List (List Nat)} (h : TxAre vs ws) : TxAre (.str (Tx cs) t :: vs) (cs :: ws) := by
  refine ⟨by simp [h.1], fun k ds hk => ?_⟩
  cases k with
  | zero => simp at hk; subst hk; exact ⟨t, rfl⟩
  | succ k => simpa using h.2 k ds (by simpa using hk)
theorem TxAre.append {vs us : List Value} {ws zs : List (List Nat)} (h : TxAre vs ws) (h' : TxAre us zs) : TxAre (vs ++ us) (ws ++ zs) := by
  refine ⟨by simp [h.1, h'.1], fun k ds hk => ?_⟩
  by_cases hl : k < ws.length
  · rw [List.getElem?_append_left hl] at hk
    rw [List.getElem?_append_left (by rw [h.1]; exact hl)]
    exact h.2 k ds hk
  · rw [List.getElem?_append_right (by omega)] at hk
    rw [List.getElem?_append_right (by rw [h.1]; omega), h.1]
    exact h'.2 _ ds hk
theorem TxAre.take {vs : List Value} {ws : List (List Nat)} (h : TxAre vs ws) (n : Nat) : TxAre (vs.take n) (ws.take n) := by
  refine ⟨by simp [h.1], fun k ds hk => ?_⟩
  rw [List.getElem?_take] at hk ⊢
  split at hk
  · rename_i hkn; rw [if_pos hkn]; exact h.2 k ds hk
  · cases hk
theorem tx_paired {f : Int → List Nat} : ∀ {ks : List Int} {ys : List Value}, Paired (fun k y => ∃ t, y = Value.str (Tx (f k)) t) ks ys → TxAre ys (ks.map f)
  | _, _, .nil => .nil
  | _, _, .cons ⟨t, e⟩ tl => by subst e; exact (tx_paired tl).cons
theorem str_x : Str.ofString "x" = Tx [120] := by decide

set_option maxHeartbeats 4000000 in
/-- statements 9 to 12 -/
theorem law_9 {prog : Program} {w : World} {A : Around} {s : Shared} {mg mb : Str → Option Value} {K : Addr → Obj → Prop} {ρ : Str → Option Value} {L a : Addr} {cd : Value} {m n : Nat} {lw lc : Addr} {tot : Int} {t₁ t₂ : Tok}
    {wv : List Value} {ws : List (List Nat)} {rs : List Addr} {X : Nat → Nat → Int}
    (R : Room A (m + 4)) (hn : 4 ≤ n ∧ n ≤ 6) (S : State mg mb (lawEnv L a cd) K s.heap ρ []) (O : Off (lawEnv L a cd) K)
    (H : Has ρ [("count", .int n t₁), ("total", .int tot t₂), ("costs", .ref lc), ("words", .ref lw)])
    (hw : ListK K lw wv) (hW : TxAre wv ws) (hwn : ws.length = n) (hws : ∀ cs ∈ ws, WordOk cs)
    (hc : MatK K lc n rs X) (hX : ∀ (k j : Nat) cs ds, ws[k]? = some cs → ws[j]? = some ds → X k j = D subC cs ds) :
    wpAny (model prog w) A (execs ((recAt 17).body.drop 9) (lawEnv L a cd)) (LawEnd s K) Never s := by
  show wpAny _ _ (execs (_ :: _ :: _) _) _ _ _
  have hsl := sizeLine_eq
  have R' := R.handled
  have R1 : Room A (m + 1) := R.le (by omega)
  obtain ⟨st, hst⟩ : ∃ st : Nat, st = n / 2 + 1 := ⟨_, rfl⟩
  replace S := S.has H
  repeat (walk_at "m")
  try dsimp only
  with_reducible refine floordiv2 (by omega) (by omega) fun t₃ tk₃ => ?_
  repeat (walk_at "m")
  try dsimp only
  refine storeC S O (by with_unfolding_all rfl) (by with_unfolding_all rfl) ?_
  clear S; intro h₁ tk S; dsimp only at S ⊢
  have est : (n : Int) / 2 + 1 = (st : Int) := by omega
  rw [est] at S
  refine wpAny_execs_cons ?_
  refine compA (fun _ => true) (RowF (rs.take st) n X (fun row z => z ∈ row.take st ∧ ∀ c ∈ row.take st, c ≤ z)) (CompOk.of (by with_unfolding_all rfl) (by with_unfolding_all rfl)) S.kind (by with_unfolding_all rfl) (by with_unfolding_all rfl) ?_
  repeat (walk_at "m")
  try dsimp only
  refine sliceLH (lo := none) (hi := some (st : Int)) (st := none) (hc.2.1.at S).isList .none (.int _ _) .none (by simp) (by simp; have := hc.1; omega) (fun b h₂ tk₂ hx₂ hb hpl₂ => ?_) (by with_unfolding_all rfl)
  rw [slicePick_upto'] at hpl₂
  replace hpl₂ : h₂.PlainList b ((rs.take st).map Value.ref).toArray := by simpa using hpl₂
  replace S := S.ext hx₂
  try dsimp only at S ⊢
  have hrl := hc.1
  refine comp_listA (vs := (rs.take st).map Value.ref) (fun _ => true) (RowF (rs.take st) n X (fun row z => z ∈ row.take st ∧ ∀ c ∈ row.take st, c ≤ z)) R' hpl₂.isList (by simp; omega) S O (by with_unfolding_all rfl) (CompOk.of (by with_unfolding_all rfl) (by with_unfolding_all rfl)) ?_ ?_ ?_
  · intro C v s₃ hv hx₃ S₃
    exact wpAny_tests_nil ⟨rfl, _, _, rfl, Ext.refl _⟩
  · intro C v s₃ hv _ hx₃ S₃
    have hv' : v ∈ rs.map Value.ref := by
      obtain ⟨r, hr, rfl⟩ := List.mem_map.mp hv
      exact List.mem_map.mpr ⟨r, List.mem_of_mem_take hr, rfl⟩
    obtain ⟨r, vs, ns, rfl, hr1, hr2, hr3, hr4, hr5, hr6⟩ := hc.row (h := s₃.heap) (fun b o e => hx₃ b o (S.kept b o e)) hv'
    have hvl := hr3.length
    repeat (walk_at "m")
    try dsimp only
    refine sliceLH (lo := none) (hi := some (st : Int)) (st := none) hr1.isList .none (.int _ _) .none (by simp) (by omega) (fun b h₃ tk₃ hx₄ hb hpl₃ => ?_) (by with_unfolding_all rfl)
    repeat (walk_at "m")
    try dsimp only
    refine maxI R' hpl₃.isList (slice_ints_uptoW hr3 (by omega)) (by simp; omega) fun v tv h₄ tk₄ hx₅ hm hle => ?_
    rw [Int.toNat_natCast] at hm hle
    refine ⟨⟨r, v, tv, rfl, rfl, fun k hk => ?_⟩, _, _, rfl, hx₄.trans hx₅⟩
    have hk' : rs[k]? = some r := by
      rw [List.getElem?_take] at hk
      split at hk
      · exact hk
      · cases hk
    rw [hr6 k hk']; exact ⟨hm, hle⟩
  intro D h₃ tk₄ ys hD hpl hP S
  try dsimp only
  rw [filter_true] at hP
  obtain ⟨wis, hI, hil, hw'⟩ := rows_paired (rs := rs.take st) 0 (fun k => by rw [Nat.zero_add]) hP
  replace hil : wis.length = st := by rw [hil]; simp; omega
  have hys := hI.length
  have hiK : ListK (Froz K h₃) D ys := .of hpl
  replace O := O.freeze S
  replace S := S.freeze
  try dsimp only at S ⊢
  repeat (walk_at "m")
  try dsimp only
  refine maxI R' (hiK.at S).isList hI (by omega) fun wd tw h₄ tk₅ hx₄ hwm hwd => ?_
  replace S := S.ext hx₄
  try dsimp only at S ⊢
  refine storeC S O (by with_unfolding_all rfl) (by with_unfolding_all rfl) ?_
  clear S; intro h₁ tk S; dsimp only at S ⊢
  repeat (walk_at "m")
  try dsimp only
  have hw₁ : ListK (Froz K h₃) lw wv := hw.mono Froz.up
  refine sliceLH (lo := none) (hi := some (st : Int)) (st := none) (hw₁.at S).isList .none (.int _ _) .none (by simp) (by have := hW.1; omega) (fun b₂ h₅ tk₆ hx₅ hb₂ hpl₅ => ?_) (by with_unfolding_all rfl)
  rw [slicePick_upto'] at hpl₅
  replace hpl₅ : h₅.PlainList b₂ (wv.take st).toArray := by simpa using hpl₅
  replace S := (S.ext hx₅).add hpl₅
  try dsimp only at S ⊢
  refine compE (fun v => (fun _ => true) (numOf v)) (fun v y => (fun (k : Int) y => ∃ t, y = Value.str (Tx (List.replicate (4 + (tot + k) % 9).toNat 120)) t) (numOf v) y) (CompOk.of (by with_unfolding_all rfl) (by with_unfolding_all rfl)) ?_
  repeat (walk_at "m")
  try dsimp only
  with_reducible refine range1 fun r h₆ tk₇ a₂ b₂ c₂ hx₆ hr => ?_
  replace S := S.ext hx₆
  try dsimp only at S ⊢
  have e1 : (n : Int) - (st : Int) = ((n - st : Nat) : Int) := by omega
  rw [e1] at hr
  refine comp_range (n := n - st) (fun _ => true) (fun (k : Int) y => ∃ t, y = Value.str (Tx (List.replicate (4 + (tot + k) % 9).toNat 120)) t) R' hr (small_n (by omega)) rs_n (by omega) S (CompOk.of (by with_unfolding_all rfl) (by with_unfolding_all rfl)) ?_ ?_ ?_
  · intro C k t s₃ hk hx₃ S₃
    exact wpAny_tests_nil ⟨rfl, _, _, rfl, Ext.refl _⟩
  · intro C k t s₃ hk _ hx₃ S₃
    repeat (walk_at "m")
    try dsimp only
    rw [str_x]
    with_reducible refine mod2 (by omega) fun t₅ tk₈ => ?_
    repeat (walk_at "m")
    try dsimp only
    with_reducible refine mulX (by omega) (by omega) fun t₆ tk₉ => ?_
    exact ⟨⟨_, rfl⟩, _, _, rfl, Ext.refl _⟩
  intro D₂ h₇ tk₈ cys hx₇ hD₂ hpl₇ hP₇
  rw [filter_true] at hP₇
  have hcy := tx_paired (f := fun k => List.replicate (4 + (tot + k) % 9).toNat 120) hP₇
  replace S := (S.ext hx₇).add hpl₇
  try dsimp only at S ⊢
  have hwl := hW.1
  have hcyl : cys.length = n - st := by have := hcy.1; simpa [rng] using this
  with_reducible refine addL (S.lists _ (List.Mem.tail _ (List.Mem.head _))).isList (S.lists _ (List.Mem.head _)).isList (by show (List.take st wv).length + cys.length ≤ _; rw [List.length_take]; omega) fun lcr h₈ tk₉ hx₈ hcr hpl₈ => ?_
  replace S := (S.ext hx₈).sub (ls' := []) (by simp)
  try dsimp only at S hpl₈ ⊢
  have hcK : ListK (Froz (Froz K h₃) h₈) lcr _ := .of hpl₈
  replace O := O.freeze S
  replace S := S.freeze
  refine storeL S O (by with_unfolding_all rfl) ?_
  clear S; intro h₁ tk S; dsimp only at S ⊢
  obtain ⟨cws, hcws⟩ : ∃ cws, cws = ws.take st ++ (rng 0 1 (n - st)).map fun k => List.replicate (4 + (tot + k) % 9).toNat 120 := ⟨_, rfl⟩
  have hcW := (hW.take st).append hcy
  rw [← hcws] at hcW
  have hcn : cws.length = n := by rw [hcws]; simp [rng]; omega
  have hlo : ∀ k, k < st → ∃ cs, cws[k]? = some cs ∧ ws[k]? = some cs ∧ WordOk cs := fun k hk => by
    obtain ⟨cs, hcs⟩ : ∃ cs, ws[k]? = some cs := ⟨ws[k]'(by omega), by simp⟩
    refine ⟨cs, ?_, hcs, hws cs (List.mem_of_getElem? hcs)⟩
    rw [hcws, List.getElem?_append_left (by simp; omega), List.getElem?_take, if_pos hk]; exact hcs
  have hhi : ∀ j, st ≤ j → j < n → ∃ m : Nat, cws[j]? = some (List.replicate m 120) ∧ 4 ≤ m ∧ m ≤ 12 := fun j h1 h2 => by
    refine ⟨(4 + (tot + (0 + ((j - st : Nat) : Int) * 1)) % 9).toNat, ?_, by omega, by omega⟩
    rw [hcws, List.getElem?_append_right (by simp; omega), List.getElem?_map]
    rw [show j - (List.take st ws).length = j - st by simp; omega, rng_get (by omega)]
    rfl
  have hY : ∀ (k j : Nat) cs ds, cws[k]? = some cs → cws[j]? = some ds → Mine.D subC (cws.getD k []) (cws.getD j []) = Mine.D subC cs ds := fun k j cs ds h1 h2 => by
    simp [List.getD_eq_getElem?_getD, h1, h2]
  have hXY : ∀ k j, k < st → j < st → X k j = Mine.D subC (cws.getD k []) (cws.getD j []) := fun k j h1 h2 => by
    obtain ⟨cs, e1, e2, _⟩ := hlo k h1
    obtain ⟨ds, e3, e4, _⟩ := hlo j h2
    rw [hY k j cs ds e1 e3, hX k j cs ds e2 e4]
  have hw₂ : ∀ (k : Nat) w, wis[k]? = some w → w ∈ (List.range st).map (fun j => Mine.D subC (cws.getD k []) (cws.getD j [])) ∧ ∀ c ∈ (List.range st).map (fun j => Mine.D subC (cws.getD k []) (cws.getD j [])), c ≤ w := fun k w hk => by
    have hkl : k < st := by have := (List.getElem?_eq_some_iff.mp hk).1; omega
    have := hw' k w hk
    rw [Nat.zero_add, ← List.map_take, List.take_range, Nat.min_eq_left (by omega)] at this
    have e : (List.range st).map (X k) = (List.range st).map (fun j => Mine.D subC (cws.getD k []) (cws.getD j [])) := List.map_congr_left fun j hj => hXY k j hkl (List.mem_range.mp hj)
    rwa [e] at this
  have hwd6 : wd ≤ 6 := by
    obtain ⟨i, hi⟩ := List.getElem?_of_mem hwm
    have hil' : i < st := by have := (List.getElem?_eq_some_iff.mp hi).1; omega
    obtain ⟨j, hj, e⟩ := List.mem_map.mp (hw₂ i wd hi).1
    obtain ⟨cs, e1, _, e2⟩ := hlo i hil'
    obtain ⟨ds, e3, _, e4⟩ := hlo j (List.mem_range.mp hj)
    rw [hY i j cs ds e1 e3] at e
    rw [← e]; exact (D_words e2 e4).2
  refine wpAny_mono (law_13 (Y := fun k j => Mine.D subC (cws.getD k []) (cws.getD j [])) R hn hst S O (has_cons (by with_unfolding_all rfl) (has_cons (by with_unfolding_all rfl) (has_cons (by with_unfolding_all rfl) (has_cons (by with_unfolding_all rfl) (has_cons (by with_unfolding_all rfl) has_nil)))))
    hcK hcW hcn (fun cs hcs => ?_) (hiK.mono Froz.up) hI hil hY (fun k j h1 h2 h3 => ?_) hw₂ hwd hwm) (fun f s' hf => ?_) fun _ _ e => e
  · obtain ⟨k, hk⟩ := List.getElem?_of_mem hcs
    have hkl : k < n := by have := (List.getElem?_eq_some_iff.mp hk).1; omega
    by_cases hks : k < st
    · obtain ⟨cs', e1, _, e2⟩ := hlo k hks
      rw [hk] at e1; cases e1
      have := e2.1; omega
    · obtain ⟨m', e1, e2, e3⟩ := hhi k (by omega) hkl
      rw [hk] at e1; cases e1
      simp; omega
  · obtain ⟨cs, e1, _, e2⟩ := hlo k h1
    obtain ⟨m', e3, e4, e5⟩ := hhi j h2 h3
    show wd < Mine.D subC (cws.getD k []) (cws.getD j [])
    rw [hY k j _ _ e1 e3]
    have := D_stranger e2 m'
    omega
  · obtain ⟨h1, h', tk', rfl, h2⟩ := hf
    exact ⟨h1, h', tk', rfl, fun b o e => h2 b o (Froz.up _ _ (Froz.up _ _ e))⟩

def forBody : Stmt → List Stmt
  | .For _ _ b .. => b
  | _ => []
def turnBody : List Stmt := forBody ((recAt 17).body.getD 8 (.Pass ⟨0, 0, 0, 0⟩))

set_option maxHeartbeats 4000000 in
/-- a turn of statement 8, its first two statements -/
theorem law_turn {prog : Program} {w : World} {A : Around} {s : Shared} {mg mb : Str → Option Value} {K : Addr → Obj → Prop} {ρ : Str → Option Value} {L a : Addr} {cd : Value} {m n sp : Nat} {lw lc lr : Addr} {b tot : Int} {t₁ t₂ t₃ t₄ : Tok}
    {wv rv : List Value} {ws : List (List Nat)} {rs : List Addr} {X : Nat → Nat → Int} {rns : List Int}
    (R : Room A (m + 4)) (hn : 4 ≤ n ∧ n ≤ 6) (S : State mg mb (lawEnv L a cd) K s.heap ρ []) (O : Off (lawEnv L a cd) K)
    (H : Has ρ [("bound", .int b t₃), ("spread", .int sp t₄), ("radii", .ref lr), ("count", .int n t₁), ("total", .int tot t₂), ("costs", .ref lc), ("words", .ref lw)])
    (hw : ListK K lw wv) (hW : TxAre wv ws) (hwn : ws.length = n) (hws : ∀ cs ∈ ws, WordOk cs)
    (hc : MatK K lc n rs X) (hX : ∀ (k j : Nat) cs ds, ws[k]? = some cs → ws[j]? = some ds → X k j = D subC cs ds)
    (hr : ListK K lr rv) (hI : IntsAre rv rns) (hrl : rns.length = n) (hrad : ∀ (k : Nat) r, rns[k]? = some r → RadOk ((List.range n).map (X k)) r) (hspr : SprOk rns sp) :
    wpAny (model prog w) A (execs turnBody (lawEnv L a cd)) (fun f s' => f = .next ∧ ∃ h tk, s' = { s with heap := h, toks := tk } ∧ State mg mb (lawEnv L a cd) K h (fun x => List.lookup x [("spread", .int sp t₄), ("radii", .ref lr), ("count", .int n t₁), ("total", .int tot t₂), ("costs", .ref lc), ("words", .ref lw)]) []) Never s := by
  show wpAny _ _ (execs (_ :: _ :: _) _) _ _ _
  have hsl := sizeLine_eq
  have R' := R.handled
  have R1 : Room A (m + 1) := R.le (by omega)
  have R3 : Room A (m + 3) := R.le (by omega)
  have hrvl := hI.length
  have Stop := S.top
  replace S := S.has H
  repeat (walk_at "m")
  try dsimp only
  obtain ⟨ft, ot, pmt, cdt, doct, hft, -, -, -⟩ := S.glb.fn 15 (by decide)
  refine nameG S (by with_unfolding_all rfl) hft ?_
  refine callDef 15 (by decide) hft S.glb ?_
  repeat (walk_at "m")
  try dsimp only
  refine ⟨Ext.refl _, ?_⟩
  refine told_call R3 S.glb hft (hw.at S).isList hW (by omega) (fun cs hcs => by have := (hws cs hcs).1; omega) fun l Z h₅ tk₅ hx₅ hl₅ hM hZs hZr => ?_
  rw [hwn] at hM hZs
  have hZX : ∀ k j, k < n → j < n → Same (Z k j) (X k j) b := fun k j hk hj => by
    obtain ⟨cs, hcs⟩ : ∃ cs, ws[k]? = some cs := ⟨ws[k]'(by omega), by simp⟩
    obtain ⟨ds, hds⟩ : ∃ ds, ws[j]? = some ds := ⟨ws[j]'(by omega), by simp⟩
    rw [hX k j cs ds hcs hds]
    by_cases hkj : k ≤ j
    · exact hZr k j cs ds _ hkj hcs hds rfl
    · rw [hZs k j (by omega) hk, D_symm price_subC]; exact hZr j k ds cs _ (by omega) hds hcs rfl
  replace S := S.ext hx₅
  try dsimp only at S ⊢
  obtain ⟨zr, hMK⟩ := MatK.of (K := K) hM
  replace O := O.freeze S
  replace S := S.freeze
  have hcF : MatK (Froz K h₅) lc n rs X := hc.mono Froz.up
  have hzl := hMK.1
  have hcl := hc.1
  refine storeC S O (by with_unfolding_all rfl) (by with_unfolding_all rfl) ?_
  clear S; intro h₁ tk S; dsimp only at S ⊢
  repeat (walk_at "m")
  try dsimp only
  refine compTwo R' (N := n) (by omega) S (CompOk.of (by with_unfolding_all rfl) (by with_unfolding_all rfl)) (by with_unfolding_all rfl) (by decide) (by decide) ?_ ?_ ?_ ?_
  · skip
    repeat (walk_at "m")
    try dsimp only
    with_reducible refine range1 fun r h₂ tk₂ a₂ b₂ c₂ hx₂ hr => ?_
    exact ⟨r, _, _, _, _, _, rfl, rfl, hx₂, hr⟩
  · intro C v s₃ hx₃ S₃
    repeat (walk_at "m")
    try dsimp only
    with_reducible refine range1 fun r h₂ tk₂ a₂ b₂ c₂ hx₂ hr => ?_
    exact ⟨r, _, _, _, _, _, rfl, rfl, hx₂, hr⟩
  · intro C i j t t' s₃ hi hj hx₃ S₃
    obtain ⟨zr₀, hzr⟩ : ∃ x, zr[i]? = some x := ⟨zr[i]'(by omega), by simp⟩
    obtain ⟨cr₀, hcr⟩ : ∃ x, rs[i]? = some x := ⟨rs[i]'(by omega), by simp⟩
    obtain ⟨zv, hz1, hz2⟩ := hMK.2.2 i zr₀ hzr
    obtain ⟨cv, hc1, hc2⟩ := hcF.2.2 i cr₀ hcr
    have up : ∀ b o, Froz K h₅ b o → s₃.heap.get? b = some o := fun b o e => hx₃ _ _ (S.kept b o e)
    obtain ⟨u, hu⟩ := intsAt hz2 (k := j) (v := Z i j) (by simp [hj])
    obtain ⟨u', hu'⟩ := intsAt hc2 (k := j) (v := X i j) (by simp [hj])
    have hb := sameB_iff.mpr (hZX i j hi hj)
    obtain ⟨fs, os, pms, cds, docs, hfs, -, -, -⟩ := S₃.glb.fn 16 (by decide)
    have q1 := (hMK.2.1.on up).isList
    have q2 := (hcF.2.1.on up).isList
    have q3 := (hz1.on up).isList
    have q4 := (hc1.on up).isList
    refine wpAny_tests_one ?_
    repeat (walk_at "m")
    try dsimp only
    refine nameG S₃ (by with_unfolding_all rfl) hfs ?_
    refine callDef 16 (by decide) hfs S₃.glb ?_
    repeat (walk_at "m")
    try dsimp only
    with_reducible refine itemN (x := .ref zr₀) q1 (by omega) (by simpa using hzr) ?_
    repeat (walk_at "m")
    try dsimp only
    with_reducible refine itemN (x := .int (Z i j) u) q3 (by omega) (by simpa using hu) ?_
    repeat (walk_at "m")
    try dsimp only
    with_reducible refine itemN (x := .ref cr₀) q2 (by omega) (by simpa using hcr) ?_
    repeat (walk_at "m")
    try dsimp only
    with_reducible refine itemN (x := .int (X i j) u') q4 (by omega) (by simpa using hu') ?_
    repeat (walk_at "m")
    try dsimp only
    refine ⟨Ext.refl _, ?_⟩
    refine law_same_call R1 S₃.glb hfs fun h₈ tk₈ hx₈ => ?_
    rw [hb]
    repeat (walk_at "m")
    try dsimp only
    exact ⟨rfl, _, _, rfl, hx₈⟩
  intro D h₆ tk₆ hx₆ hD hpl
  replace S := (S.ext hx₆).add (vs := []) hpl
  try dsimp only at S ⊢
  repeat (walk_at "m")
  try dsimp only
  refine List_ ?_
  repeat (walk_at "m")
  try dsimp only
  with_reducible refine newListI (by simp) fun le h₇ tk₇ hx₇ hle hpl₇ => ?_
  replace S := S.ext hx₇
  try dsimp only at S ⊢
  refine neEmpty (S.lists _ (List.Mem.head _)).isList hpl₇.isList (by have := R.cl; omega) ?_
  repeat (walk_at "m")
  try dsimp only
  replace S := S.sub (ls' := []) (by simp)
  refine compE (fun _ => true) (RowF zr n Z MedH) (CompOk.of (by with_unfolding_all rfl) (by with_unfolding_all rfl)) ?_
  repeat (walk_at "m")
  try dsimp only
  refine comp_list (vs := zr.map Value.ref) (fun _ => true) (RowF zr n Z MedH) R' (hMK.2.1.at S).isList (by simp; omega) S (CompOk.of (by with_unfolding_all rfl) (by with_unfolding_all rfl)) ?_ ?_ ?_
  · intro C v s₃ hv hx₃ S₃
    exact wpAny_tests_nil ⟨rfl, _, _, rfl, Ext.refl _⟩
  · intro C v s₃ hv _ hx₃ S₃
    obtain ⟨r, vs, ns, rfl, hr1, hr2, hr3, hr4, hr5, hr6⟩ := hMK.row (h := s₃.heap) (fun b o e => hx₃ b o (S.kept b o e)) hv
    obtain ⟨fm, om, pmm, cdm, docm, hfm, -, -, -⟩ := S₃.glb.fn 3 (by decide)
    repeat (walk_at "m")
    try dsimp only
    refine nameG S₃ (by with_unfolding_all rfl) hfm ?_
    refine callDef 3 (by decide) hfm S₃.glb ?_
    repeat (walk_at "m")
    try dsimp only
    refine ⟨Ext.refl _, ?_⟩
    have hvl := hr3.length
    refine median_high_call R1 S₃.glb hfm hr1.isList hr3 (by omega) (by omega) fun ns' v tv h₆ tk₆ hx₆ hp hs' hg => ?_
    exact ⟨⟨r, v, tv, rfl, rfl, fun k hk => by rw [hr6 k hk]; exact ⟨ns', hp, hs', hg⟩⟩, _, _, rfl, hx₆⟩
  intro D₂ h₈ tk₈ ys hx₈ hD₂ hpl₈ hP
  rw [filter_true] at hP
  obtain ⟨zs, hzI, hzsl, hz⟩ := rows_paired (rs := zr) 0 (fun k => by rw [Nat.zero_add]) hP
  rw [hzl] at hzsl
  have hysl := hzI.length
  replace hz : ∀ (k : Nat) z, zs[k]? = some z → MedH ((List.range n).map (Z k)) z := fun k z hk => by have := hz k z hk; rwa [Nat.zero_add] at this
  have hsame : ∀ (k : Nat) z r, zs[k]? = some z → rns[k]? = some r → Same z r b := fun k z r h1 h2 => by
    have hkl : k < n := by have := (List.getElem?_eq_some_iff.mp h1).1; omega
    exact turn_high hkl hZX (hz k z h1) (hrad k r h2)
  have hlow := turn_low (b := b) (by omega) (by omega) hsame hspr
  replace S := S.ext hx₈
  try dsimp only at S ⊢
  have hDK : ListK (Froz (Froz K h₅) h₈) D₂ ys := .of hpl₈
  have hrF : ListK (Froz (Froz K h₅) h₈) lr rv := (hr.mono Froz.up).mono Froz.up
  replace O := O.freeze S
  replace S := S.freeze
  refine storeC S O (by with_unfolding_all rfl) (by with_unfolding_all rfl) ?_
  clear S; intro h₁ tk S; dsimp only at S ⊢
  repeat (walk_at "m")
  try dsimp only
  refine compE (fun v => (fun _ => false) (numOf v)) (fun v y => (fun (_ : Int) (_ : Value) => True) (numOf v) y) (CompOk.of (by with_unfolding_all rfl) (by with_unfolding_all rfl)) ?_
  repeat (walk_at "m")
  try dsimp only
  with_reducible refine range1 fun r h₂ tk₂ a₂ b₂ c₂ hx₂ hr' => ?_
  replace S := S.ext hx₂
  try dsimp only
  refine comp_range (n := n) (fun _ => false) (fun _ _ => True) R' hr' (small_n (by omega)) rs_n (by omega) S (CompOk.of (by with_unfolding_all rfl) (by with_unfolding_all rfl)) ?_ ?_ ?_
  · intro C k t s₃ hk hx₃ S₃
    obtain ⟨i, hi, rfl⟩ := rng_mem hk
    have e2 : (0 : Int) + (i : Int) * 1 = (i : Int) := by omega
    rw [e2] at S₃
    obtain ⟨hv₀, hh₀⟩ : ∃ x, zs[i]? = some x := ⟨zs[i]'(by omega), by simp⟩
    obtain ⟨dv₀, hd₀⟩ : ∃ x, rns[i]? = some x := ⟨rns[i]'(by omega), by simp⟩
    obtain ⟨u, hu⟩ := intsAt hzI hh₀
    obtain ⟨u', hu'⟩ := intsAt hI hd₀
    have hb := sameB_iff.mpr (hsame i _ _ hh₀ hd₀)
    have q1 : s₃.heap.PlainList D₂ ys.toArray := (hDK.at S).at fun o e => hx₃ _ _ e
    have q2 : s₃.heap.PlainList lr rv.toArray := (hrF.at S).at fun o e => hx₃ _ _ e
    obtain ⟨fs, os, pms, cds, docs, hfs, -, -, -⟩ := S₃.glb.fn 16 (by decide)
    refine wpAny_tests_one ?_
    repeat (walk_at "m")
    try dsimp only
    refine nameG S₃ (by with_unfolding_all rfl) hfs ?_
    refine callDef 16 (by decide) hfs S₃.glb ?_
    repeat (walk_at "m")
    try dsimp only
    with_reducible refine itemN (x := .int hv₀ u) q1.isList (by omega) (by simpa using hu) ?_
    repeat (walk_at "m")
    try dsimp only
    with_reducible refine itemN (x := .int dv₀ u') q2.isList (by omega) (by simpa using hu') ?_
    repeat (walk_at "m")
    try dsimp only
    refine ⟨Ext.refl _, ?_⟩
    refine law_same_call R1 S₃.glb hfs fun h₈ tk₈ hx₈ => ?_
    rw [hb]
    repeat (walk_at "m")
    try dsimp only
    exact ⟨rfl, _, _, rfl, hx₈⟩
  · intro C k t s₃ hk hf hx₃ S₃
    cases hf
  intro D₃ h₃ tk₃ ys₃ hx₃ hD₃ hpl₃ hP₃
  have hys₃ : ys₃ = [] := by
    have e : (rng 0 1 n).filter (fun _ => false) = [] := by simp
    rw [e] at hP₃
    cases hP₃; rfl
  subst hys₃
  replace S := (S.ext hx₃).add hpl₃
  repeat (walk_at "m")
  try dsimp only
  refine List_ ?_
  repeat (walk_at "m")
  try dsimp only
  with_reducible refine newListI (by simp) fun le₂ h₄ tk₄ hx₄ hle₂ hpl₄ => ?_
  replace S := S.ext hx₄
  try dsimp only at S ⊢
  refine neEmpty (S.lists _ (List.Mem.head _)).isList hpl₄.isList (by have := R.cl; omega) ?_
  repeat (walk_at "m")
  try dsimp only
  replace S := S.sub (ls' := []) (by simp)
  obtain ⟨fs, os, pms, cds, docs, hfs, -, -, -⟩ := S.glb.fn 16 (by decide)
  refine nameG S (by with_unfolding_all rfl) hfs ?_
  refine callDef 16 (by decide) hfs S.glb ?_
  repeat (walk_at "m")
  try dsimp only
  obtain ⟨fm, om, pmm, cdm, docm, hfm, -, -, -⟩ := S.glb.fn 2 (by decide)
  refine nameG S (by with_unfolding_all rfl) hfm ?_
  refine callDef 2 (by decide) hfm S.glb ?_
  repeat (walk_at "m")
  try dsimp only
  refine ⟨Ext.refl _, ?_⟩
  refine median_low_call R1 S.glb hfm (hDK.at S).isList hzI (by omega) (by omega) fun ns' v tv h₉ tk₉ hx₉ hp hs' hg => ?_
  replace S := S.ext hx₉
  have hb := sameB_iff.mpr (hlow ns' v hp hs' hg)
  repeat (walk_at "m")
  try dsimp only
  refine ⟨fun b o e => hx₉ b o e, ?_⟩
  refine law_same_call R1 S.glb hfs fun h₁₀ tk₁₀ hx₁₀ => ?_
  rw [hb]
  replace S := S.ext hx₁₀
  repeat (walk_at "m")
  try dsimp only
  refine ⟨rfl, _, _, rfl, ?_⟩
  have S' := (S.weak (K' := Froz (Froz K h₅) h₈) (K := K) (fun b o e => Froz.up _ _ (Froz.up _ _ e)) Stop)
  exact S'.has (has_cons (by with_unfolding_all rfl) (has_cons (by with_unfolding_all rfl) (has_cons (by with_unfolding_all rfl) (has_cons (by with_unfolding_all rfl) (has_cons (by with_unfolding_all rfl) (has_cons (by with_unfolding_all rfl) has_nil))))))

set_option maxHeartbeats 4000000 in
/-- statement 8 and what follows -/
theorem law_8 {prog : Program} {w : World} {A : Around} {s : Shared} {mg mb : Str → Option Value} {K : Addr → Obj → Prop} {ρ : Str → Option Value} {L a : Addr} {cd : Value} {m n sp : Nat} {lw lc lr : Addr} {tot : Int} {t₁ t₂ t₄ : Tok}
    {wv rv : List Value} {ws : List (List Nat)} {rs : List Addr} {X : Nat → Nat → Int} {rns : List Int}
    (R : Room A (m + 4)) (hn : 4 ≤ n ∧ n ≤ 6) (S : State mg mb (lawEnv L a cd) K s.heap ρ []) (O : Off (lawEnv L a cd) K)
    (H : Has ρ [("spread", .int sp t₄), ("radii", .ref lr), ("count", .int n t₁), ("total", .int tot t₂), ("costs", .ref lc), ("words", .ref lw)])
    (hw : ListK K lw wv) (hW : TxAre wv ws) (hwn : ws.length = n) (hws : ∀ cs ∈ ws, WordOk cs)
    (hc : MatK K lc n rs X) (hX : ∀ (k j : Nat) cs ds, ws[k]? = some cs → ws[j]? = some ds → X k j = D subC cs ds)
    (hr : ListK K lr rv) (hI : IntsAre rv rns) (hrl : rns.length = n) (hrad : ∀ (k : Nat) r, rns[k]? = some r → RadOk ((List.range n).map (X k)) r) (hspr : SprOk rns sp) :
    wpAny (model prog w) A (execs ((recAt 17).body.drop 8) (lawEnv L a cd)) (LawEnd s K) Never s := by
  show wpAny _ _ (execs (_ :: _ :: _) _) _ _ _
  have hsl := sizeLine_eq
  have R' := R.handled
  replace S := S.has H
  refine wpAny_execs_cons ?_
  refine wpAny_For ?_
  repeat (walk_at "m")
  try dsimp only
  refine List_ ?_
  repeat (walk_at "m")
  try dsimp only
  with_reducible refine mod2 (by omega) fun t₃ tk₃ => ?_
  repeat (walk_at "m")
  try dsimp only
  with_reducible refine newListI (by simp; omega) fun lb h₂ tk₂ hx₂ hlb hpl₂ => ?_
  replace S := S.ext hx₂
  try dsimp only at S ⊢
  refine loop_list R' hpl₂.isList S O (.inr ⟨by with_unfolding_all rfl, _, by with_unfolding_all rfl⟩)
    (fun _ ρ ls => Has ρ [("spread", .int sp t₄), ("radii", .ref lr), ("count", .int n t₁), ("total", .int tot t₂), ("costs", .ref lc), ("words", .ref lw)])
    (has_cons (by with_unfolding_all rfl) (has_cons (by with_unfolding_all rfl) (has_cons (by with_unfolding_all rfl) (has_cons (by with_unfolding_all rfl) (has_cons (by with_unfolding_all rfl) (has_cons (by with_unfolding_all rfl) has_nil)))))) ?_ ?_
  · intro i v K' ρ' ls h₃ tk₃ hv hKK hnl hH S₃ O₃
    obtain ⟨b, tb, rfl⟩ : ∃ b tb, v = .int b tb := by
      have := List.mem_of_getElem? hv
      simp only [List.mem_cons, List.not_mem_nil, or_false] at this
      rcases this with rfl | rfl
      · exact ⟨_, _, rfl⟩
      · exact ⟨_, _, rfl⟩
    refine wpAny_mono (law_turn R hn (S₃.sub (ls' := []) (by simp)) O₃ (hH.upd (x := "bound") (show ("bound" : Str) ∉ (["spread", "radii", "count", "total", "costs", "words"] : List Str) by decide))
      (hw.mono hKK) hW hwn hws (hc.mono hKK) hX (hr.mono hKK) hI hrl hrad hspr) (fun f s' hf => ?_) fun _ _ e => e
    obtain ⟨rfl, h₄, tk₄, rfl, S₄⟩ := hf
    exact ⟨_, _, _, _, rfl, S₄, has_cons (by with_unfolding_all rfl) (has_cons (by with_unfolding_all rfl) (has_cons (by with_unfolding_all rfl) (has_cons (by with_unfolding_all rfl) (has_cons (by with_unfolding_all rfl) (has_cons (by with_unfolding_all rfl) has_nil)))))⟩
  · intro ρ' ls h₃ tk₃ hH S₃
    try dsimp only
    have hH' : Has ρ' [("count", .int n t₁), ("total", .int tot t₂), ("costs", .ref lc), ("words", .ref lw)] := fun p hp => hH p (List.Mem.tail _ (List.Mem.tail _ hp))
    refine wpAny_mono (law_9 R hn (S₃.sub (ls' := []) (by simp)) O hH' hw hW hwn hws hc hX) (fun f s' hf => ?_) fun _ _ e => e
    obtain ⟨h1, h', tk', rfl, h2⟩ := hf
    exact ⟨h1, h', tk', rfl, h2⟩

theorem rad_le {row : List Int} {r : Int} (hne : 0 < row.length) (h6 : ∀ x ∈ row, x ≤ 6) (h : RadOk row r) : 0 ≤ r ∧ r ≤ 6 := by
  obtain ⟨rr, rfl, h1, h2⟩ := h
  refine ⟨by omega, Int.not_lt.mp fun q => ?_⟩
  have := h2 6 q
  rw [cnt_all h6] at this
  omega

set_option maxHeartbeats 4000000 in
/-- statements 6, 7 and what follows -/
theorem law_6 {prog : Program} {w : World} {A : Around} {s : Shared} {mg mb : Str → Option Value} {K : Addr → Obj → Prop} {ρ : Str → Option Value} {L a : Addr} {cd : Value} {m n : Nat} {lw lc lr : Addr} {tot : Int} {t₁ t₂ : Tok}
    {wv rv : List Value} {ws : List (List Nat)} {rs : List Addr} {X : Nat → Nat → Int} {rns : List Int}
    (R : Room A (m + 4)) (hn : 4 ≤ n ∧ n ≤ 6) (S : State mg mb (lawEnv L a cd) K s.heap ρ []) (O : Off (lawEnv L a cd) K)
    (H : Has ρ [("radii", .ref lr), ("count", .int n t₁), ("total", .int tot t₂), ("costs", .ref lc), ("words", .ref lw)])
    (hw : ListK K lw wv) (hW : TxAre wv ws) (hwn : ws.length = n) (hws : ∀ cs ∈ ws, WordOk cs)
    (hc : MatK K lc n rs X) (hX : ∀ (k j : Nat) cs ds, ws[k]? = some cs → ws[j]? = some ds → X k j = D subC cs ds)
    (hr : ListK K lr rv) (hI : IntsAre rv rns) (hrl : rns.length = n) (hrad : ∀ (k : Nat) r, rns[k]? = some r → RadOk ((List.range n).map (X k)) r)
    (hr6 : ∀ r ∈ rns, 0 ≤ r ∧ r ≤ 6) :
    wpAny (model prog w) A (execs ((recAt 17).body.drop 6) (lawEnv L a cd)) (LawEnd s K) Never s := by
  show wpAny _ _ (execs (_ :: _ :: _) _) _ _ _
  have hsl := sizeLine_eq
  have R' := R.handled
  have hrvl := hI.length
  replace S := S.has H
  repeat (walk_at "m")
  try dsimp only
  refine storeC S O (by with_unfolding_all rfl) (by with_unfolding_all rfl) ?_
  clear S; intro h₁ tk S; dsimp only at S ⊢
  refine wpAny_execs_cons ?_
  refine loop_while S (fun k ρ ls => ∃ (r : Nat) (tr : Tok), k = 6 - r ∧ r ≤ 6 ∧ Has ρ [("spread", .int r tr), ("radii", .ref lr), ("count", .int n t₁), ("total", .int tot t₂), ("costs", .ref lc), ("words", .ref lw)] ∧ ∀ v : Int, v < r → 2 * cnt rns v < rns.length) (k₀ := 6)
    ⟨0, _, by omega, by omega, (has_cons (by with_unfolding_all rfl) (has_cons (by with_unfolding_all rfl) (has_cons (by with_unfolding_all rfl) (has_cons (by with_unfolding_all rfl) (has_cons (by with_unfolding_all rfl) (has_cons (by with_unfolding_all rfl) has_nil)))))), fun v hv => by rw [cnt_none fun x hx => by have := (hr6 x hx).1; omega]; omega⟩ ?_
  clear S
  rintro k ρ ls h₁ tk ⟨r, tr, rfl, hr₆, hH, hless⟩ S
  replace S := (S.sub (ls' := []) (by simp)).has hH
  repeat (walk_at "m")
  try dsimp only
  refine compE (fun v => decide (numOf v ≤ (r : Int))) (fun v y => y = v) (CompOk.of (by with_unfolding_all rfl) (by with_unfolding_all rfl)) ?_
  repeat (walk_at "m")
  try dsimp only
  refine comp_list (fun v => decide (numOf v ≤ (r : Int))) (fun v y => y = v) R' (hr.at S).isList (by omega) S (CompOk.of (by with_unfolding_all rfl) (by with_unfolding_all rfl)) ?_ ?_ ?_
  · intro C x s₃ hx hx₃ S₃
    obtain ⟨k, t, rfl, hk⟩ := ints_mem hI x hx
    refine wpAny_tests_one ?_
    repeat (walk_at "m")
    try dsimp only
    exact ⟨rfl, _, _, rfl, Ext.refl _⟩
  · intro C x s₃ hx _ hx₃ S₃
    repeat (walk_at "m")
    try dsimp only
    exact ⟨rfl, _, _, rfl, Ext.refl _⟩
  intro D₀ h₃ tk₃ ys hx hD hpl hP
  have hys := paired_eq hP
  subst hys
  have hcnt : (rv.filter fun v => decide (numOf v ≤ (r : Int))).length = cnt rns r := (ints_filter (fun x => decide (x ≤ (r : Int))) hI).length
  have hle : cnt rns r ≤ rns.length := List.length_filter_le _ _
  replace S := (S.ext hx).add hpl
  repeat (walk_at "m")
  try dsimp only
  with_reducible refine lenList (S.lists _ (List.Mem.head _)).isList (by show List.length (List.filter _ _) ≤ _; omega) fun t₁ tk₁ => ?_
  show wpAny _ _ (binaryOp _ _ (.int ((List.filter _ _).length : Nat) _)) _ _ _
  rw [hcnt]
  with_reducible refine mul2l (by omega) fun t₂ tk₂ => ?_
  repeat (walk_at "m")
  try dsimp only
  by_cases hle2 : 2 * cnt rns r < n
  · rw [if_pos (by simp; omega)]
    repeat (walk_at "m")
    try dsimp only
    replace S := S.sub (ls' := []) (by simp)
    refine storeC S O (by with_unfolding_all rfl) (by with_unfolding_all rfl) ?_
    clear S; intro h₁ tk S; dsimp only at S ⊢
    repeat (walk_at "m")
    try dsimp only
    have e1 : (r : Int) + 1 = ((r + 1 : Nat) : Int) := by omega
    rw [e1] at S
    have hrM : r < 6 := by
      rcases Nat.lt_or_ge r 6 with q | q
      · exact q
      · exfalso
        rw [cnt_all fun x hx => by have := (hr6 x hx).2; omega] at hle2
        omega
    refine ⟨_, _, _, _, rfl, S, 6 - (r + 1), by omega, r + 1, _, rfl, by omega, (has_cons (by with_unfolding_all rfl) (has_cons (by with_unfolding_all rfl) (has_cons (by with_unfolding_all rfl) (has_cons (by with_unfolding_all rfl) (has_cons (by with_unfolding_all rfl) (has_cons (by with_unfolding_all rfl) has_nil)))))), fun v hv => ?_⟩
    by_cases hv2 : v < r
    · exact hless v hv2
    · have : v = (r : Int) := by omega
      rw [this]; omega
  · rw [if_neg (by simp; omega)]
    replace S := S.sub (ls' := []) (by simp)
    refine wpAny_mono (law_8 R hn S O (has_cons (by with_unfolding_all rfl) (has_cons (by with_unfolding_all rfl) (has_cons (by with_unfolding_all rfl) (has_cons (by with_unfolding_all rfl) (has_cons (by with_unfolding_all rfl) (has_cons (by with_unfolding_all rfl) has_nil)))))) hw hW hwn hws hc hX hr hI hrl hrad ⟨by omega, hless⟩) (fun f s' hf => ?_) fun _ _ e => e
    obtain ⟨h1, h', tk', rfl, h2⟩ := hf
    exact ⟨h1, h', tk', rfl, h2⟩

theorem paired_all {F : Value → Value → Prop} {P : Value → Prop} : ∀ {l ys : List Value}, Paired F l ys → (∀ v y, F v y → P y) → ∀ y ∈ ys, P y
  | _, _, .nil, _, _, hy => nomatch hy
  | _, _, .cons hd tl, h, y, hy => by
    rcases List.mem_cons.mp hy with rfl | hy
    · exact h _ _ hd
    · exact paired_all tl h y hy

theorem paired_len {F : Value → Value → Prop} : ∀ {l ys : List Value}, Paired F l ys → ys.length = l.length
  | _, _, .nil => rfl
  | _, _, .cons hd tl => by simp [paired_len tl]

set_option maxHeartbeats 4000000 in
/-- statements 3, 4, 5 and what follows -/
theorem law_3 {prog : Program} {w : World} {A : Around} {s : Shared} {mg mb : Str → Option Value} {K : Addr → Obj → Prop} {ρ : Str → Option Value} {L a : Addr} {cd : Value} {m n : Nat} {lw lsc : Addr} {t₁ : Tok}
    {wv sv : List Value} {ws : List (List Nat)} {sns : List Int}
    (R : Room A (m + 4)) (hn : 4 ≤ n ∧ n ≤ 6) (S : State mg mb (lawEnv L a cd) K s.heap ρ []) (O : Off (lawEnv L a cd) K)
    (H : Has ρ [("count", .int n t₁), ("words", .ref lw), ("script", .ref lsc)])
    (hw : ListK K lw wv) (hW : TxAre wv ws) (hwn : ws.length = n) (hws : ∀ cs ∈ ws, WordOk cs)
    (hs : LiK K lsc sv) (hJ : IntsAre sv sns) (h64 : sv.length < 64) :
    wpAny (model prog w) A (execs ((recAt 17).body.drop 3) (lawEnv L a cd)) (LawEnd s K) Never s := by
  show wpAny _ _ (execs (_ :: _ :: _) _) _ _ _
  have hsl := sizeLine_eq
  have R' := R.handled
  have R1 : Room A (m + 1) := R.le (by omega)
  have R3 : Room A (m + 3) := R.le (by omega)
  replace S := S.has H
  repeat (walk_at "m")
  try dsimp only
  refine compE (fun _ => true) (fun _ y => ∃ z t, y = Value.int z t) (CompOk.of (by with_unfolding_all rfl) (by with_unfolding_all rfl)) ?_
  repeat (walk_at "m")
  try dsimp only
  refine sliceLH (lo := none) (hi := some 36) (st := none) (hs.at S) .none (.int _ _) .none (by simp) (by omega) (fun b₂ h₅ tk₆ hx₅ hb₂ hpl₅ => ?_) (by with_unfolding_all rfl)
  have hJ₅ := slice_ints_uptoW hJ (y := 36) (by omega)
  have hlen₅ := hJ₅.length
  replace S := S.ext hx₅
  try dsimp only at S ⊢
  refine comp_list (fun _ => true) (fun _ y => ∃ z t, y = Value.int z t) R' hpl₅.isList (by rw [hlen₅]; simp; omega) S (CompOk.of (by with_unfolding_all rfl) (by with_unfolding_all rfl)) ?_ ?_ ?_
  · intro C v s₃ hv hx₃ S₃
    exact wpAny_tests_nil ⟨rfl, _, _, rfl, Ext.refl _⟩
  · intro C v s₃ hv _ hx₃ S₃
    obtain ⟨k, t, rfl, hk⟩ := ints_mem hJ₅ v hv
    repeat (walk_at "m")
    try dsimp only
    with_reducible refine mod2 (by omega) fun t₃ tk₃ => ?_
    exact ⟨⟨_, _, rfl⟩, _, _, rfl, Ext.refl _⟩
  intro D₂ h₈ tk₈ ys hx₈ hD₂ hpl₈ hP
  obtain ⟨zs, hzI⟩ := ints_all (paired_all hP fun v y h => h)
  replace S := S.ext hx₈
  try dsimp only at S ⊢
  repeat (walk_at "m")
  try dsimp only
  refine sumI R' hpl₈.isList hzI fun t₅ h₉ tk₉ hx₉ => ?_
  generalize zs.sum = tot
  replace S := S.ext hx₉
  try dsimp only at S ⊢
  refine storeC S O (by with_unfolding_all rfl) (by with_unfolding_all rfl) ?_
  clear S; intro h₁ tk S; dsimp only at S ⊢
  repeat (walk_at "m")
  try dsimp only
  obtain ⟨ft, ot, pmt, cdt, doct, hft, -, -, -⟩ := S.glb.fn 13 (by decide)
  refine nameG S (by with_unfolding_all rfl) hft ?_
  refine callDef 13 (by decide) hft S.glb ?_
  repeat (walk_at "m")
  try dsimp only
  refine ⟨Ext.refl _, ?_⟩
  refine costs_call R3 S.glb hft (hw.at S).isList hW (by omega) (fun cs hcs => by have := (hws cs hcs).1; omega) fun lc X h₅ tk₅ hx₅ hl₅ hM hXs hXr => ?_
  rw [hwn] at hM hXs
  have hX : ∀ (k j : Nat) cs ds, ws[k]? = some cs → ws[j]? = some ds → X k j = Mine.D subC cs ds := fun k j cs ds hcs hds => by
    have hk : k < n := by have := (List.getElem?_eq_some_iff.mp hcs).1; omega
    by_cases hkj : k ≤ j
    · exact hXr k j cs ds _ hkj hcs hds rfl
    · rw [hXs k j (by omega) hk, D_symm price_subC]; exact hXr j k ds cs _ (by omega) hds hcs rfl
  have hX6 : ∀ k j, k < n → j < n → 0 ≤ X k j ∧ X k j ≤ 6 := fun k j hk hj => by
    obtain ⟨cs, hcs⟩ : ∃ cs, ws[k]? = some cs := ⟨ws[k]'(by omega), by simp⟩
    obtain ⟨ds, hds⟩ : ∃ ds, ws[j]? = some ds := ⟨ws[j]'(by omega), by simp⟩
    rw [hX k j cs ds hcs hds]
    exact D_words (hws cs (List.mem_of_getElem? hcs)) (hws ds (List.mem_of_getElem? hds))
  replace S := S.ext hx₅
  try dsimp only at S ⊢
  obtain ⟨rs, hMK⟩ := MatK.of (K := K) hM
  replace O := O.freeze S
  replace S := S.freeze
  have hrl := hMK.1
  refine storeC S O (by with_unfolding_all rfl) (by with_unfolding_all rfl) ?_
  clear S; intro h₁ tk S; dsimp only at S ⊢
  repeat (walk_at "m")
  try dsimp only
  refine compE (fun _ => true) (RowF rs n X RadOk) (CompOk.of (by with_unfolding_all rfl) (by with_unfolding_all rfl)) ?_
  repeat (walk_at "m")
  try dsimp only
  refine comp_list (vs := rs.map Value.ref) (fun _ => true) (RowF rs n X RadOk) R' (hMK.2.1.at S).isList (by simp; omega) S (CompOk.of (by with_unfolding_all rfl) (by with_unfolding_all rfl)) ?_ ?_ ?_
  · intro C v s₃ hv hx₃ S₃
    exact wpAny_tests_nil ⟨rfl, _, _, rfl, Ext.refl _⟩
  · intro C v s₃ hv _ hx₃ S₃
    obtain ⟨r, vs, ns, rfl, hr1, hr2, hr3, hr4, ⟨k₀, hk₀, hr5⟩, hr6⟩ := hMK.row (h := s₃.heap) (fun b o e => hx₃ b o (S.kept b o e)) hv
    obtain ⟨fm, om, pmm, cdm, docm, hfm, -, -, -⟩ := S₃.glb.fn 14 (by decide)
    repeat (walk_at "m")
    try dsimp only
    refine nameG S₃ (by with_unfolding_all rfl) hfm ?_
    refine callDef 14 (by decide) hfm S₃.glb ?_
    repeat (walk_at "m")
    try dsimp only
    refine ⟨Ext.refl _, ?_⟩
    have hvl := hr3.length
    refine radius_call (M := 6) R1 S₃.glb hfm hr1.isList hr3 (by omega) (by omega) (fun x hx => ?_) (by omega) fun rr tv h₆ tk₆ hx₆ h1 h2 => ?_
    · rw [hr5] at hx
      obtain ⟨j, hj, rfl⟩ := List.mem_map.mp hx
      exact hX6 k₀ j hk₀ (List.mem_range.mp hj)
    · exact ⟨⟨r, rr, tv, rfl, rfl, fun k hk => by rw [hr6 k hk]; exact ⟨rr, rfl, h1, h2⟩⟩, _, _, rfl, hx₆⟩
  intro D₃ h₃ tk₃ yr hx₃ hD₃ hpl₃ hP₃
  rw [filter_true] at hP₃
  obtain ⟨rns, hrI, hrnl, hrad⟩ := rows_paired (rs := rs) 0 (fun k => by rw [Nat.zero_add]) hP₃
  rw [hrl] at hrnl
  replace hrad : ∀ (k : Nat) r, rns[k]? = some r → RadOk ((List.range n).map (X k)) r := fun k z hk => by have := hrad k z hk; rwa [Nat.zero_add] at this
  have hr6 : ∀ r ∈ rns, 0 ≤ r ∧ r ≤ 6 := fun r hr => by
    obtain ⟨k, hk⟩ := List.getElem?_of_mem hr
    have hkl : k < n := by have := (List.getElem?_eq_some_iff.mp hk).1; omega
    refine rad_le (by simp; omega) (fun x hx => ?_) (hrad k r hk)
    obtain ⟨j, hj, rfl⟩ := List.mem_map.mp hx
    exact (hX6 k j hkl (List.mem_range.mp hj)).2
  replace S := S.ext hx₃
  try dsimp only at S ⊢
  have hrK : ListK (Froz (Froz K h₅) h₃) D₃ yr := .of hpl₃
  replace O := O.freeze S
  replace S := S.freeze
  refine storeC S O (by with_unfolding_all rfl) (by with_unfolding_all rfl) ?_
  clear S; intro h₁ tk S; dsimp only at S ⊢
  refine wpAny_mono (law_6 R hn S O (has_cons (by with_unfolding_all rfl) (has_cons (by with_unfolding_all rfl) (has_cons (by with_unfolding_all rfl) (has_cons (by with_unfolding_all rfl) (has_cons (by with_unfolding_all rfl) has_nil)))))
    ((hw.mono Froz.up).mono Froz.up) hW hwn hws (hMK.mono Froz.up) hX hrK hrI hrnl hrad hr6) (fun f s' hf => ?_) fun _ _ e => e
  obtain ⟨h1, h', tk', rfl, h2⟩ := hf
  exact ⟨h1, h', tk', rfl, fun b o e => h2 b o (Froz.up _ _ (Froz.up _ _ e))⟩

set_option maxHeartbeats 4000000 in
/-- the whole body of law -/
theorem law_0 {prog : Program} {w : World} {A : Around} {s : Shared} {mg mb : Str → Option Value} {K : Addr → Obj → Prop} {ρ : Str → Option Value} {L a : Addr} {cd : Value} {m : Nat} {lsc : Addr}
    {sv : List Value} {sns : List Int}
    (R : Room A (m + 4)) (S : State mg mb (lawEnv L a cd) K s.heap ρ []) (O : Off (lawEnv L a cd) K)
    (H : Has ρ [("script", .ref lsc)])
    (hs : LiK K lsc sv) (hJ : IntsAre sv sns) (h64 : sv.length < 64) :
    wpAny (model prog w) A (execs (recAt 17).body (lawEnv L a cd)) (LawEnd s K) Never s := by
  show wpAny _ _ (execs (_ :: _ :: _) _) _ _ _
  have hsl := sizeLine_eq
  have R' := R.handled
  have R1 : Room A (m + 1) := R.le (by omega)
  replace S := S.has H
  repeat (walk_at "m")
  try dsimp only
  with_reducible refine lenList (hs.at S) (by omega) fun t₁ tk₁ => ?_
  repeat (walk_at "m")
  try dsimp only
  with_reducible refine floordiv2 (by omega) (by omega) fun t₂ tk₂ => ?_
  repeat (walk_at "m")
  try dsimp only
  with_reducible refine mod2 (by omega) fun t₃ tk₃ => ?_
  repeat (walk_at "m")
  try dsimp only
  obtain ⟨n, hnn⟩ : ∃ n : Nat, n = 4 + sv.length / 2 % 3 := ⟨_, rfl⟩
  have hn : 4 ≤ n ∧ n ≤ 6 := by omega
  have e1 : 4 + (sv.length : Int) / 2 % 3 = (n : Int) := by omega
  rw [e1]
  refine storeC S O (by with_unfolding_all rfl) (by with_unfolding_all rfl) ?_
  clear S; intro h₁ tk S; dsimp only at S ⊢
  repeat (walk_at "m")
  try dsimp only
  refine List_ ?_
  repeat (walk_at "m")
  try dsimp only
  with_reducible refine newListI (by simp) fun lw h₂ tk₂ hx₂ hlw hpl₂ => ?_
  have hK : ∀ o, ¬ K lw o := fun o e => by
    have := S.kept lw o e
    rw [hlw] at this; cases this
  replace S := (S.ext hx₂).add hpl₂
  try dsimp only at S ⊢
  refine storeL S O (by with_unfolding_all rfl) ?_
  clear S; intro h₁ tk S; dsimp only at S ⊢
  refine wpAny_execs_cons ?_
  refine wpAny_For ?_
  repeat (walk_at "m")
  try dsimp only
  refine List_ ?_
  repeat (walk_at "m")
  try dsimp only
  with_reducible refine newListI (by simp; omega) fun l₀ h₃ tk₄ hx₃ hl₀ hpl₃ => ?_
  replace S := (S.ext hx₃)
  try dsimp only at S ⊢
  repeat (walk_at "m")
  try dsimp only
  have hlw₃ : h₃.PlainList lw ([] : List Value).toArray := S.lists _ (List.Mem.head _)
  refine sliceTH (lo := none) (hi := some (n : Int)) (st := none) hpl₃.isList .none (.int _ _) .none (by simp) (by simp; omega) (fun l₁ h₄ tk₅ hx₄ hl₁ hpl₄ => ?_) (by with_unfolding_all rfl)
  rw [slicePick_upto'] at hpl₄
  replace S := (S.ext hx₄)
  try dsimp only at S ⊢
  repeat (walk_at "m")
  try dsimp only
  obtain ⟨vs₁, hpl₅, hvl, hvi⟩ : ∃ vs₁ : List Value, h₄.PlainList l₁ vs₁.toArray ∧ vs₁.length = n ∧ ∀ v ∈ vs₁, ∃ z t, v = .int z t := by
    refine ⟨_, by simpa only [List.toList_toArray] using hpl₄, by rw [List.length_take]; simp; omega, fun v hv => ?_⟩
    have := List.mem_of_mem_take hv
    simp only [List.mem_cons, List.not_mem_nil, or_false] at this
    rcases this with rfl | rfl | rfl | rfl | rfl | rfl <;> exact ⟨_, _, rfl⟩
  clear hpl₄
  refine call_enumerate_list hpl₅.isList fun h₅ he hit hsz hx₅ => ?_
  have hKsz : ∀ b o, K b o → b < h₄.objs.size := fun b o e => Heap.lt_size (S.kept b o e)
  have hwl₁ : lw ≠ l₁ := fun q => by
    obtain ⟨o, ho⟩ := hlw₃
    rw [q, hl₁] at ho; cases ho
  replace S := (S.ext hx₅)
  have hl₅ : h₅.IsList l₁ vs₁.toArray := hpl₅.isList.at fun o e => hx₅ _ o e
  refine wpAny_pyIter_enum he ?_
  refine loop_enum R' (Nat.succ_ne_self _) he hit hl₅ S O (.inl (by with_unfolding_all rfl)) (.inl (by with_unfolding_all rfl)) (fun o e => absurd (hKsz _ _ e) (by show ¬ (h₄.objs.size + 1 < h₄.objs.size); omega)) (fun o e => absurd (hKsz _ _ e) (Nat.lt_irrefl _))
    (fun i ρ ls => ∃ wv ws, Has ρ [("words", .ref lw), ("count", .int n tk₃), ("script", .ref lsc)] ∧ (lw, wv) ∈ ls ∧ TxAre wv ws ∧ ws.length = i ∧ ∀ cs ∈ ws, WordOk cs)
    ⟨[], [], (has_cons (by with_unfolding_all rfl) (has_cons (by with_unfolding_all rfl) (has_cons (by with_unfolding_all rfl) has_nil))), List.Mem.head _, TxAre.nil, rfl, fun cs h => nomatch h⟩ ?_ ?_
  · rintro i v ti K' ρ' ls h₆ tk₆ hv hKK hnl ⟨wv, ws, hH, hlm, hW, hwn, hws⟩ S O
    obtain ⟨z, tz, rfl⟩ := hvi v (List.mem_of_getElem? hv)
    have hi : i < n := by have := (List.getElem?_eq_some_iff.mp hv).1; omega
    have hK' : ∀ o, ¬ K' lw o := fun o e => hK o (hnl _ hlm hwl₁ o e)
    replace S := S.has ((hH.upd (x := "place") (show ("place" : Str) ∉ (["words", "count", "script"] : List Str) by decide)).upd (x := "own") (show ("own" : Str) ∉ (["place", "words", "count", "script"] : List Str) by decide))
    refine wpAny_execs_cons ?_
    refine wpAny_Expr ?_ (by with_unfolding_all rfl) (by with_unfolding_all rfl)
    refine MethodCall_ ?_ (by with_unfolding_all rfl)
    repeat (walk_at "m")
    try dsimp only
    refine appendMeth (S.lists _ hlm) ?_
    refine callWith_method1 ?_ (by with_unfolding_all rfl) (by with_unfolding_all rfl)
    repeat (walk_at "m")
    try dsimp only
    obtain ⟨fw, ow, pmw, cdw, docw, hfw, -, -, -⟩ := S.glb.fn 11 (by decide)
    refine nameG S (by with_unfolding_all rfl) hfw ?_
    refine callDef 11 (by decide) hfw S.glb ?_
    repeat (walk_at "m")
    try dsimp only
    have S₀ := S
    refine compE (fun _ => true) (fun _ y => ∃ z t, y = Value.int z t) (CompOk.of (by with_unfolding_all rfl) (by with_unfolding_all rfl)) ?_
    repeat (walk_at "m")
    try dsimp only
    have hsK : LiK K' lsc sv := hs.mono hKK
    refine sliceLH (lo := some (i : Int)) (hi := some 36) (st := some (n : Int)) (hsK.at S) (.int _ _) (.int _ _) (.int _ _) (by simp; omega) (by omega) (fun b₂ h₇ tk₇ hx₇ hb₂ hpl₇ => ?_) (by with_unfolding_all rfl)
    have hJ₇ := hJ.pick (some (i : Int)) (some 36) (some (n : Int))
    have hlen₇ : (slicePick sv.toArray (some (i : Int)) (some 36) (some (n : Int))).toList.length ≤ sv.length := by simpa using slicePick_size_le sv.toArray (some (i : Int)) (some 36) (some (n : Int))
    replace S := S.ext hx₇
    try dsimp only at S ⊢
    refine comp_list (fun _ => true) (fun _ y => ∃ z t, y = Value.int z t) R' hpl₇.isList (by omega) S (CompOk.of (by with_unfolding_all rfl) (by with_unfolding_all rfl)) ?_ ?_ ?_
    · intro C v s₃ hv hx₃ S₃
      exact wpAny_tests_nil ⟨rfl, _, _, rfl, Ext.refl _⟩
    · intro C v s₃ hv _ hx₃ S₃
      obtain ⟨k, t, rfl, hk⟩ := ints_mem hJ₇ v hv
      repeat (walk_at "m")
      try dsimp only
      with_reducible refine mod2 (by omega) fun t₃ tk₃ => ?_
      exact ⟨⟨_, _, rfl⟩, _, _, rfl, Ext.refl _⟩
    intro D₂ h₈ tk₈ ys hx₈ hD₂ hpl₈ hP
    obtain ⟨zs, hzI⟩ := ints_all (paired_all hP fun v y h => h)
    replace S := S.ext hx₈
    try dsimp only at S ⊢
    repeat (walk_at "m")
    try dsimp only
    refine sumI R' hpl₈.isList hzI fun t₅ h₉ tk₉ hx₉ => ?_
    generalize zs.sum = tot
    replace S := S.ext hx₉
    try dsimp only at S ⊢
    repeat (walk_at "m")
    try dsimp only
    refine ⟨fun b o e => hx₉ _ _ (hx₈ _ _ (hx₇ _ _ e)), ?_⟩
    refine word_call R1 S.glb hfw fun cs t₆ h₁₀ tk₁₀ hx₁₀ hcs => ?_
    replace S := S.ext hx₁₀
    try dsimp only at S ⊢
    repeat (walk_at "m")
    try dsimp only
    have hwvl := hW.1
    refine appendL (vs := wv) (S.lists _ hlm) (by omega) fun h₁₁ hl₁₁ hs₁₁ => ?_
    replace S := (S.sub (ls' := []) (by simp)).setList (S.lists _ hlm).isList hK' (fun p hp => nomatch hp) hl₁₁ hs₁₁
    try dsimp only at S ⊢
    repeat (walk_at "m")
    try dsimp only
    have hcons : TxAre [Value.str (Tx cs) t₆] [cs] := TxAre.nil.cons
    refine ⟨_, _, _, _, rfl, S, _, ws ++ [cs], (has_cons (by with_unfolding_all rfl) (has_cons (by with_unfolding_all rfl) (has_cons (by with_unfolding_all rfl) has_nil))), List.Mem.head _, hW.append hcons, by simp [hwn], fun ds hds => ?_⟩
    rcases List.mem_append.mp hds with h | h
    · exact hws ds h
    · rw [List.mem_singleton.mp h]; exact hcs
  · rintro ρ' ls h₆ tk₆ ⟨wv, ws, hH, hlm, hW, hwn, hws⟩ S
    try dsimp only
    rw [hvl] at hwn
    have hwK : ListK (Froz K h₆) lw wv := .of (S.lists _ hlm)
    replace S := S.sub (ls' := []) (by simp)
    have O₂ := O.freeze S
    replace S := S.freeze
    refine wpAny_mono (law_3 R hn S O₂ (fun p hp => hH p (by
      simp only [List.mem_cons, List.not_mem_nil, or_false] at hp ⊢
      rcases hp with rfl | rfl | rfl
      · exact .inr (.inl rfl)
      · exact .inl rfl
      · exact .inr (.inr rfl))) hwK hW hwn hws (hs.mono Froz.up) hJ h64) (fun f s' hf => ?_) fun _ _ e => e
    obtain ⟨h1, h', tk', rfl, h2⟩ := hf
    exact ⟨h1, h', tk', rfl, fun b o e => h2 b o (Froz.up _ _ e)⟩

theorem glb_of_top {q : Program} {loose : List Str} {mean : ExcName → Option Value} {mg mb : Str → Option Value} {h : Heap} (T : Top q loose mean mg mb h)
    (hfn : ∀ i ∈ fnIdx, recAt i ∈ recsOf q)
    (hfree : ∀ x ∈ bltNames, x ∉ startupNames ∧ x ∉ loose ∧ x ∉ (recsOf q).map (·.name) ∧ x ∉ (litsOf q).map (·.1) ∧ x ∉ (clssOf q loose).map (·.name))
    (h1 : valOf q "_MOVE_COST" = some (.int 2)) (h2 : valOf q "_CASE_COST" = some (.int 1)) (h3 : valOf q "_MAX_STRING_SIZE" = some (.int 40)) : Glb mg mb h where
  g := T.g
  b := T.b
  nolimit := T.nolimit
  blt := T.builtins
  free := fun x hx => let ⟨a, b, c, d, e⟩ := hfree x hx; T.free x a b c d e
  fn := fun i hi => T.fn _ (hfn i hi)
  move := by
    obtain ⟨v, hv, hr⟩ := T.const _ _ h1
    cases hr h with
    | int i t => exact ⟨t, hv⟩
  case1 := by
    obtain ⟨v, hv, hr⟩ := T.const _ _ h2
    cases hr h with
    | int i t => exact ⟨t, hv⟩
  most := by
    obtain ⟨v, hv, hr⟩ := T.const _ _ h3
    cases hr h with
    | int i t => exact ⟨t, hv⟩

theorem mem_recs {q : Program} {d : DefRec} (h : (recsOf q).find? (fun e => e.name == d.name) = some d) : d ∈ recsOf q := List.mem_of_find?_eq_some h

/-- law, called with a list of ints, ends with True -/
theorem law_call {prog : Program} {w : World} {A : Around} {s : Shared} {mg mb : Str → Option Value} {E : Value → Shared → Prop} {m : Nat} {lsc a : Addr} {o : Obj} {pm code doc : Value} {sv : List Value} {sns : List Int}
    (R : Room A (m + 5)) (T : Glb mg mb s.heap) (h2 : s.heap.get? a = some o) (h3 : o.data = .func (docDef (recAt 17).name (recAt 17).params (recAt 17).body (recAt 17).scope pm code doc)) (h4 : s.heap.CodeRec code (recAt 17).name)
    (hl : s.heap.IsList lsc sv.toArray) (hI : IntsAre sv sns) (h64 : sv.length < 64) :
    wpAny (model prog w) A (call (.ref a) [.ref lsc]) (fun v s' => v = .bool true ∧ ∃ h tk, s' = { s with heap := h, toks := tk } ∧ Ext s.heap h) E s := by
  have hkind : (([("script", Value.ref lsc)] : List (Str × Value)).all fun y => (recAt 17).scope.names.lookup y.1 == some .local || (recAt 17).scope.names.lookup y.1 == some .cell) = true := by rfl
  refine wpAny_call (call_cells_ret (binds := [("script", .ref lsc)]) R.lt h2 h3 T.nolimit h4 rfl (kindsX hkind _) (fun h₁ tk F X => ?_) (by rfl) (by rfl) (by rfl))
  have hlow : ∀ b o, s.heap.get? b = some o → b < s.heap.objs.size := fun b o e => Heap.lt_size e
  have S : State mg mb (envOfC (recAt 17).name (recAt 17).scope s.heap.objs.size a code) (fun b o => s.heap.get? b = some o) h₁ (fun x => List.lookup x [("script", .ref lsc)]) [] := by
    refine ⟨rfl, rfl, rfl, ⟨s.heap, T, fun _ _ e => e⟩, F.keep, ⟨_, F.ns, fun x v hx hv => ?_⟩, fun x c e => ⟨_, X.cell x c e, fun u hx hu => ?_⟩, fun p hp => nomatch hp⟩
    · exact bindL_at _ _ (by simp) hx hv
    · exact bindC_at _ _ (by simp) (by rcases hx with hx | hx <;> rw [hx] <;> decide) hu
  have O : Off (envOfC (recAt 17).name (recAt 17).scope s.heap.objs.size a code) (fun b o => s.heap.get? b = some o) := by
    refine ⟨fun o e => Nat.lt_irrefl _ (hlow _ _ e), fun x c o hc e => ?_, fun x y c hx hy => name_of_addr X.apart (mem_of_lookup hx) (mem_of_lookup hy)⟩
    exact absurd (hlow _ _ e) (Nat.lt_asymm (X.above x c (mem_of_lookup hc)))
  have hs : LiK (fun b o => s.heap.get? b = some o) lsc sv := by
    obtain ⟨o, a, b, c⟩ := hl
    exact ⟨o, a, b, c⟩
  have := law_0 (prog := prog) (w := w) (s := { s with heap := h₁, toks := tk }) (m := m) (R.deeper (env := envOfC (recAt 17).name (recAt 17).scope s.heap.objs.size a code)) S O (has_cons (by with_unfolding_all rfl) has_nil) hs hI h64
  refine wpAny_mono this (fun f s' hf => ?_) fun _ _ e => e.elim
  obtain ⟨rfl, h, tk', rfl, hk⟩ := hf
  exact ⟨rfl, h, tk', rfl, hk⟩
end Mine

set_option maxRecDepth 100000 in
set_option maxHeartbeats 8000000 in
theorem PySem.Challenge.cw_rl0036_01_holds : PySem.Challenge.rw_rl0036_01.Holds := by
  (w_on; o_law; k_head; (case hw => w_witness2))
  intro w s₀ s₁ mg mb G Y fa o pm cd doc dV kV ho hd hcd hD hmg hg args vals as hpre hlay hrd hwl hlo
  have T := G.T
  have Gl : Mine.Glb mg mb s₁.heap := by
    refine Mine.glb_of_top T (fun i hi => ?_) (by decide +kernel) (by kernel_rfl) (by kernel_rfl) (by kernel_rfl)
    simp only [Mine.fnIdx, List.mem_cons, List.not_mem_nil, or_false] at hi
    rcases hi with rfl | rfl | rfl | rfl | rfl | rfl | rfl | rfl | rfl | rfl <;> exact Mine.mem_recs (by kernel_rfl)
  wrow_args hpre hlay hrd hwl hlo
  rename_i sns _ _ _ _ _ _ _ lsc sv _ hl _ _ _ hI _ hlen _
  have hlen' := hI.length
  obtain ⟨a, o', pm', cd', doc', h1, h2, h3, h4⟩ := T.fn (Mine.recAt 17) (Mine.mem_recs (by kernel_rfl))
  have e : Value.ref a = Value.ref fa := Option.some.inj (h1.symm.trans hmg)
  cases e
  refine wpAny_mono (Mine.law_call (m := 5) Mine.Room.caller Gl h2 h3 h4 hl hI (by omega)) (fun v s' h => ?_) fun _ _ h => h
  obtain ⟨rfl, h', tk, rfl, hk⟩ := h
  exact ⟨.inl ⟨.bool true, .bool true, [], rfl, fun _ => rfl, .bool true, (by first | kernel_rfl | with_unfolding_all rfl), fun _ => ⟨List.nodup_nil, fun _ h => nomatch h⟩⟩, OldK.of_keep hk, rfl, AllBare.of_eq hg⟩
