import PyProof.Rows.All
import Wide.All
import OpenK.AllK
import Wide.FinOn
import OpenK.XSeg
import Lean
import PySem.Challenge.RW_uq0008_01
set_option Elab.async false
set_option maxRecDepth 100000
set_option genSizeOfSpec false
set_option linter.unusedVariables false
section P0
open PySem PySem.W PyProof.Rows PySem.Calls PySem.Spec
namespace Mine
/-! the parts of the program's defs, by their place in the text -/
noncomputable def nthS : List Stmt → Nat → Stmt
  | [], _ => .Pass ⟨0, 0, 0, 0⟩
  | x :: _, 0 => x
  | _ :: l, k + 1 => nthS l k
noncomputable def paS : Stmt → Arguments
  | .FunctionDef _ pa _ _ _ _ _ _ _ _ => pa
  | _ => { posonlyargs := [], args := [], vararg := none, kwonlyargs := [], kw_defaults := [], kwarg := none, defaults := [] }
noncomputable def boS : Stmt → List Stmt
  | .FunctionDef _ _ bo _ _ _ _ _ _ _ => bo
  | _ => []
noncomputable def scS (d : Scope) : Stmt → Scope
  | .FunctionDef _ _ _ _ _ _ sc _ _ _ => sc
  | _ => d
noncomputable def lawProg : List Stmt := PySem.Challenge.pw_uq0008_01.main.body
noncomputable def emptySc : Scope := PySem.Challenge.pw_uq0008_01.main.scope
@[reducible] noncomputable def pa_div2 : Arguments := Subtype.val (p := fun x => x = paS (nthS lawProg 2)) (by apply Subtype.mk; conv => rhs; whnf; rfl)
@[reducible] noncomputable def bo_div2 : List Stmt := Subtype.val (p := fun x => x = boS (nthS lawProg 2)) (by apply Subtype.mk; conv => rhs; whnf; rfl)
@[reducible] noncomputable def sc_div2 : Scope := Subtype.val (p := fun x => x = scS emptySc (nthS lawProg 2)) (by apply Subtype.mk; conv => rhs; whnf; rfl)
@[reducible] noncomputable def pa_i2d : Arguments := Subtype.val (p := fun x => x = paS (nthS lawProg 4)) (by apply Subtype.mk; conv => rhs; whnf; rfl)
@[reducible] noncomputable def bo_i2d : List Stmt := Subtype.val (p := fun x => x = boS (nthS lawProg 4)) (by apply Subtype.mk; conv => rhs; whnf; rfl)
@[reducible] noncomputable def sc_i2d : Scope := Subtype.val (p := fun x => x = scS emptySc (nthS lawProg 4)) (by apply Subtype.mk; conv => rhs; whnf; rfl)
@[reducible] noncomputable def pa_d2i : Arguments := Subtype.val (p := fun x => x = paS (nthS lawProg 5)) (by apply Subtype.mk; conv => rhs; whnf; rfl)
@[reducible] noncomputable def bo_d2i : List Stmt := Subtype.val (p := fun x => x = boS (nthS lawProg 5)) (by apply Subtype.mk; conv => rhs; whnf; rfl)
@[reducible] noncomputable def sc_d2i : Scope := Subtype.val (p := fun x => x = scS emptySc (nthS lawProg 5)) (by apply Subtype.mk; conv => rhs; whnf; rfl)
@[reducible] noncomputable def pa_dpos : Arguments := Subtype.val (p := fun x => x = paS (nthS lawProg 6)) (by apply Subtype.mk; conv => rhs; whnf; rfl)
@[reducible] noncomputable def bo_dpos : List Stmt := Subtype.val (p := fun x => x = boS (nthS lawProg 6)) (by apply Subtype.mk; conv => rhs; whnf; rfl)
@[reducible] noncomputable def sc_dpos : Scope := Subtype.val (p := fun x => x = scS emptySc (nthS lawProg 6)) (by apply Subtype.mk; conv => rhs; whnf; rfl)
@[reducible] noncomputable def pa_idm : Arguments := Subtype.val (p := fun x => x = paS (nthS lawProg 7)) (by apply Subtype.mk; conv => rhs; whnf; rfl)
@[reducible] noncomputable def bo_idm : List Stmt := Subtype.val (p := fun x => x = boS (nthS lawProg 7)) (by apply Subtype.mk; conv => rhs; whnf; rfl)
@[reducible] noncomputable def sc_idm : Scope := Subtype.val (p := fun x => x = scS emptySc (nthS lawProg 7)) (by apply Subtype.mk; conv => rhs; whnf; rfl)
@[reducible] noncomputable def pa_iter : Arguments := Subtype.val (p := fun x => x = paS (nthS lawProg 9)) (by apply Subtype.mk; conv => rhs; whnf; rfl)
@[reducible] noncomputable def bo_iter : List Stmt := Subtype.val (p := fun x => x = boS (nthS lawProg 9)) (by apply Subtype.mk; conv => rhs; whnf; rfl)
@[reducible] noncomputable def sc_iter : Scope := Subtype.val (p := fun x => x = scS emptySc (nthS lawProg 9)) (by apply Subtype.mk; conv => rhs; whnf; rfl)
@[reducible] noncomputable def pa_strip : Arguments := Subtype.val (p := fun x => x = paS (nthS lawProg 10)) (by apply Subtype.mk; conv => rhs; whnf; rfl)
@[reducible] noncomputable def bo_strip : List Stmt := Subtype.val (p := fun x => x = boS (nthS lawProg 10)) (by apply Subtype.mk; conv => rhs; whnf; rfl)
@[reducible] noncomputable def sc_strip : Scope := Subtype.val (p := fun x => x = scS emptySc (nthS lawProg 10)) (by apply Subtype.mk; conv => rhs; whnf; rfl)
@[reducible] noncomputable def pa_check : Arguments := Subtype.val (p := fun x => x = paS (nthS lawProg 11)) (by apply Subtype.mk; conv => rhs; whnf; rfl)
@[reducible] noncomputable def bo_check : List Stmt := Subtype.val (p := fun x => x = boS (nthS lawProg 11)) (by apply Subtype.mk; conv => rhs; whnf; rfl)
@[reducible] noncomputable def sc_check : Scope := Subtype.val (p := fun x => x = scS emptySc (nthS lawProg 11)) (by apply Subtype.mk; conv => rhs; whnf; rfl)
@[reducible] noncomputable def pa_pre : Arguments := Subtype.val (p := fun x => x = paS (nthS lawProg 12)) (by apply Subtype.mk; conv => rhs; whnf; rfl)
@[reducible] noncomputable def bo_pre : List Stmt := Subtype.val (p := fun x => x = boS (nthS lawProg 12)) (by apply Subtype.mk; conv => rhs; whnf; rfl)
@[reducible] noncomputable def sc_pre : Scope := Subtype.val (p := fun x => x = scS emptySc (nthS lawProg 12)) (by apply Subtype.mk; conv => rhs; whnf; rfl)
@[reducible] noncomputable def pa_countOf : Arguments := Subtype.val (p := fun x => x = paS (nthS lawProg 14)) (by apply Subtype.mk; conv => rhs; whnf; rfl)
@[reducible] noncomputable def bo_countOf : List Stmt := Subtype.val (p := fun x => x = boS (nthS lawProg 14)) (by apply Subtype.mk; conv => rhs; whnf; rfl)
@[reducible] noncomputable def sc_countOf : Scope := Subtype.val (p := fun x => x = scS emptySc (nthS lawProg 14)) (by apply Subtype.mk; conv => rhs; whnf; rfl)
@[reducible] noncomputable def pa_indexOf : Arguments := Subtype.val (p := fun x => x = paS (nthS lawProg 15)) (by apply Subtype.mk; conv => rhs; whnf; rfl)
@[reducible] noncomputable def bo_indexOf : List Stmt := Subtype.val (p := fun x => x = boS (nthS lawProg 15)) (by apply Subtype.mk; conv => rhs; whnf; rfl)
@[reducible] noncomputable def sc_indexOf : Scope := Subtype.val (p := fun x => x = scS emptySc (nthS lawProg 15)) (by apply Subtype.mk; conv => rhs; whnf; rfl)
@[reducible] noncomputable def pa_imul : Arguments := Subtype.val (p := fun x => x = paS (nthS lawProg 16)) (by apply Subtype.mk; conv => rhs; whnf; rfl)
@[reducible] noncomputable def bo_imul : List Stmt := Subtype.val (p := fun x => x = boS (nthS lawProg 16)) (by apply Subtype.mk; conv => rhs; whnf; rfl)
@[reducible] noncomputable def sc_imul : Scope := Subtype.val (p := fun x => x = scS emptySc (nthS lawProg 16)) (by apply Subtype.mk; conv => rhs; whnf; rfl)
@[reducible] noncomputable def pa_isub : Arguments := Subtype.val (p := fun x => x = paS (nthS lawProg 17)) (by apply Subtype.mk; conv => rhs; whnf; rfl)
@[reducible] noncomputable def bo_isub : List Stmt := Subtype.val (p := fun x => x = boS (nthS lawProg 17)) (by apply Subtype.mk; conv => rhs; whnf; rfl)
@[reducible] noncomputable def sc_isub : Scope := Subtype.val (p := fun x => x = scS emptySc (nthS lawProg 17)) (by apply Subtype.mk; conv => rhs; whnf; rfl)
@[reducible] noncomputable def pa_drawn : Arguments := Subtype.val (p := fun x => x = paS (nthS lawProg 19)) (by apply Subtype.mk; conv => rhs; whnf; rfl)
@[reducible] noncomputable def bo_drawn : List Stmt := Subtype.val (p := fun x => x = boS (nthS lawProg 19)) (by apply Subtype.mk; conv => rhs; whnf; rfl)
@[reducible] noncomputable def sc_drawn : Scope := Subtype.val (p := fun x => x = scS emptySc (nthS lawProg 19)) (by apply Subtype.mk; conv => rhs; whnf; rfl)
@[reducible] noncomputable def pa_heights : Arguments := Subtype.val (p := fun x => x = paS (nthS lawProg 20)) (by apply Subtype.mk; conv => rhs; whnf; rfl)
@[reducible] noncomputable def bo_heights : List Stmt := Subtype.val (p := fun x => x = boS (nthS lawProg 20)) (by apply Subtype.mk; conv => rhs; whnf; rfl)
@[reducible] noncomputable def sc_heights : Scope := Subtype.val (p := fun x => x = scS emptySc (nthS lawProg 20)) (by apply Subtype.mk; conv => rhs; whnf; rfl)
@[reducible] noncomputable def pa_taken : Arguments := Subtype.val (p := fun x => x = paS (nthS lawProg 21)) (by apply Subtype.mk; conv => rhs; whnf; rfl)
@[reducible] noncomputable def bo_taken : List Stmt := Subtype.val (p := fun x => x = boS (nthS lawProg 21)) (by apply Subtype.mk; conv => rhs; whnf; rfl)
@[reducible] noncomputable def sc_taken : Scope := Subtype.val (p := fun x => x = scS emptySc (nthS lawProg 21)) (by apply Subtype.mk; conv => rhs; whnf; rfl)
@[reducible] noncomputable def pa_mates : Arguments := Subtype.val (p := fun x => x = paS (nthS lawProg 22)) (by apply Subtype.mk; conv => rhs; whnf; rfl)
@[reducible] noncomputable def bo_mates : List Stmt := Subtype.val (p := fun x => x = boS (nthS lawProg 22)) (by apply Subtype.mk; conv => rhs; whnf; rfl)
@[reducible] noncomputable def sc_mates : Scope := Subtype.val (p := fun x => x = scS emptySc (nthS lawProg 22)) (by apply Subtype.mk; conv => rhs; whnf; rfl)
@[reducible] noncomputable def pa_entry : Arguments := Subtype.val (p := fun x => x = paS (nthS lawProg 23)) (by apply Subtype.mk; conv => rhs; whnf; rfl)
@[reducible] noncomputable def bo_entry : List Stmt := Subtype.val (p := fun x => x = boS (nthS lawProg 23)) (by apply Subtype.mk; conv => rhs; whnf; rfl)
@[reducible] noncomputable def sc_entry : Scope := Subtype.val (p := fun x => x = scS emptySc (nthS lawProg 23)) (by apply Subtype.mk; conv => rhs; whnf; rfl)
@[reducible] noncomputable def pa_minors : Arguments := Subtype.val (p := fun x => x = paS (nthS lawProg 24)) (by apply Subtype.mk; conv => rhs; whnf; rfl)
@[reducible] noncomputable def bo_minors : List Stmt := Subtype.val (p := fun x => x = boS (nthS lawProg 24)) (by apply Subtype.mk; conv => rhs; whnf; rfl)
@[reducible] noncomputable def sc_minors : Scope := Subtype.val (p := fun x => x = scS emptySc (nthS lawProg 24)) (by apply Subtype.mk; conv => rhs; whnf; rfl)
@[reducible] noncomputable def pa_byh : Arguments := Subtype.val (p := fun x => x = paS (nthS lawProg 25)) (by apply Subtype.mk; conv => rhs; whnf; rfl)
@[reducible] noncomputable def bo_byh : List Stmt := Subtype.val (p := fun x => x = boS (nthS lawProg 25)) (by apply Subtype.mk; conv => rhs; whnf; rfl)
@[reducible] noncomputable def sc_byh : Scope := Subtype.val (p := fun x => x = scS emptySc (nthS lawProg 25)) (by apply Subtype.mk; conv => rhs; whnf; rfl)
@[reducible] noncomputable def pa_law : Arguments := Subtype.val (p := fun x => x = paS (nthS lawProg 26)) (by apply Subtype.mk; conv => rhs; whnf; rfl)
@[reducible] noncomputable def bo_law : List Stmt := Subtype.val (p := fun x => x = boS (nthS lawProg 26)) (by apply Subtype.mk; conv => rhs; whnf; rfl)
@[reducible] noncomputable def sc_law : Scope := Subtype.val (p := fun x => x = scS emptySc (nthS lawProg 26)) (by apply Subtype.mk; conv => rhs; whnf; rfl)
@[reducible] noncomputable def pa_inn0 : Arguments := Subtype.val (p := fun x => x = paS (nthS bo_i2d 1)) (by apply Subtype.mk; conv => rhs; whnf; rfl)
@[reducible] noncomputable def bo_inn0 : List Stmt := Subtype.val (p := fun x => x = boS (nthS bo_i2d 1)) (by apply Subtype.mk; conv => rhs; whnf; rfl)
@[reducible] noncomputable def sc_inn0 : Scope := Subtype.val (p := fun x => x = scS emptySc (nthS bo_i2d 1)) (by apply Subtype.mk; conv => rhs; whnf; rfl)
@[reducible] noncomputable def pa_inn1 : Arguments := Subtype.val (p := fun x => x = paS (nthS bo_d2i 0)) (by apply Subtype.mk; conv => rhs; whnf; rfl)
@[reducible] noncomputable def bo_inn1 : List Stmt := Subtype.val (p := fun x => x = boS (nthS bo_d2i 0)) (by apply Subtype.mk; conv => rhs; whnf; rfl)
@[reducible] noncomputable def sc_inn1 : Scope := Subtype.val (p := fun x => x = scS emptySc (nthS bo_d2i 0)) (by apply Subtype.mk; conv => rhs; whnf; rfl)
/-- a nested def: its parts and the names that it reads from around -/
structure FI where
  name : Str
  qual : Str
  params : Arguments
  body : List Stmt
  scope : Scope
  cn : List Str
noncomputable def fiOf : Nat → FI
  | 0 => ⟨Str.ofString "inner", Str.ofString "_int2digits.<locals>.inner", pa_inn0, bo_inn0, sc_inn0, [Str.ofString "a_digits", Str.ofString "inner", Str.ofString "n"]⟩
  | _ => ⟨Str.ofString "inner", Str.ofString "_digits2int.<locals>.inner", pa_inn1, bo_inn1, sc_inn1, [Str.ofString "digits", Str.ofString "inner", Str.ofString "n"]⟩
end Mine
end P0
section P1
open PySem PySem.W PyProof.Rows PySem.Calls PySem.Spec
namespace Mine
/-! pure ints: an int, a polynomial in q, the half of a polynomial (rounded down) plus a polynomial -/
inductive IX where
  | c (i : Int)
  | p (cs : List Int)
  | h (m cs : List Int)
noncomputable def evalP (q : Int) : List Int → Int
  | [] => 0
  | a :: r => a + q * evalP q r
noncomputable def IX.ev (q : Int) : IX → Int
  | .c i => i
  | .p cs => evalP q cs
  | .h m cs => Int.fdiv (evalP q m) 2 + evalP q cs
inductive MV where
  | none
  | bool (b : Bool)
  | int (e : IX)
  | str (s : List Nat)
  | ref (k : Nat)
  | old (a : Addr)
inductive MO where
  | list (vs : List MV)
  | tuple (vs : List MV)
  | cell (v : Option MV)
  | range (a b s : Int)
  | tab (e : Option (Int × Int × Nat))
  | code (kid : Nat)
  | fn (kid : Nat) (cs : List Nat) (ci : Nat)
  | any
/-- the item of number k, counted from the list's end -/
noncomputable def fromEnd {β : Type} (n : Nat) (l : List β) (k : Nat) : Option β := if Nat.blt k n then l[n - 1 - k]? else none
noncomputable def VOK (q : Int) (α : List Addr) : MV → Value → Prop
  | .none, .none => True
  | .bool a, .bool b => a = b
  | .int e, .int i _ => e.ev q = i
  | .str s, .str x _ => x = ⟨s.toArray⟩
  | .ref k, .ref a => fromEnd α.length α k = some a
  | .old b, .ref a => b = a
  | _, _ => False
inductive VsOK (q : Int) (α : List Addr) : List MV → List Value → Prop
  | nil : VsOK q α [] []
  | cons {v w vs ws} : VOK q α v w → VsOK q α vs ws → VsOK q α (v :: vs) (w :: ws)
theorem fromEnd_mono {β : Type} {l l' : List β} (hs : l <:+ l') {k : Nat} {a : β} (h : fromEnd l.length l k = some a) : fromEnd l'.length l' k = some a := by
  obtain ⟨p, rfl⟩ := hs
  unfold fromEnd at *
  by_cases hk : Nat.blt k l.length = true
  · rw [if_pos hk] at h
    have hk' : k < l.length := Z.blt_iff.mp hk
    have e : (p ++ l).length - 1 - k = p.length + (l.length - 1 - k) := by
      rw [List.length_append, Nat.sub_sub, Nat.sub_sub, Nat.add_sub_assoc (Nat.add_comm 1 k ▸ hk')]
    rw [if_pos (Z.blt_iff.mpr (Nat.lt_of_lt_of_le hk' (by rw [List.length_append]; exact Nat.le_add_left _ _))), e, List.getElem?_append_right (Nat.le_add_right _ _), Nat.add_sub_cancel_left]
    exact h
  · rw [if_neg hk] at h; cases h
theorem VOK.int_el {q : Int} {α : List Addr} {e : IX} {w : Value} {P : Value → Prop} (h : VOK q α (.int e) w) (k : ∀ t, P (.int (e.ev q) t)) : P w := by
  cases w <;> first | exact False.elim h | skip
  exact (show e.ev q = _ from h) ▸ k _
theorem VOK.str_el {q : Int} {α : List Addr} {x : List Nat} {w : Value} {P : Value → Prop} (h : VOK q α (.str x) w) (k : ∀ t, P (.str ⟨x.toArray⟩ t)) : P w := by
  cases w <;> first | exact False.elim h | skip
  exact (show _ = _ from h) ▸ k _
theorem VOK.bool_el {q : Int} {α : List Addr} {b : Bool} {w : Value} {P : Value → Prop} (h : VOK q α (.bool b) w) (k : P (.bool b)) : P w := by
  cases w <;> first | exact False.elim h | skip
  exact (show b = _ from h) ▸ k
theorem VOK.none_el {q : Int} {α : List Addr} {w : Value} {P : Value → Prop} (h : VOK q α .none w) (k : P .none) : P w := by
  cases w <;> first | exact False.elim h | exact k
theorem VOK.ref_el {q : Int} {α : List Addr} {i : Nat} {w : Value} {P : Value → Prop} (h : VOK q α (.ref i) w) (k : ∀ a, fromEnd α.length α i = some a → P (.ref a)) : P w := by
  cases w <;> first | exact False.elim h | exact k _ h
theorem VOK.old_el {q : Int} {α : List Addr} {a : Addr} {w : Value} {P : Value → Prop} (h : VOK q α (.old a) w) (k : P (.ref a)) : P w := by
  cases w <;> first | exact False.elim h | skip
  exact (show a = _ from h) ▸ k
theorem VOK.mono {q : Int} {α α' : List Addr} (hs : α <:+ α') {v : MV} {w : Value} (h : VOK q α v w) : VOK q α' v w := by
  cases v with
  | ref k => exact h.ref_el (P := VOK q α' (.ref k)) fun a e => fromEnd_mono hs e
  | none => exact h.none_el (P := VOK q α' .none) trivial
  | bool b => exact h.bool_el (P := VOK q α' (.bool b)) rfl
  | int e => exact h.int_el (P := VOK q α' (.int e)) fun t => rfl
  | str x => exact h.str_el (P := VOK q α' (.str x)) fun t => rfl
  | old a => exact h.old_el (P := VOK q α' (.old a)) rfl
theorem VsOK.mono {q : Int} {α α' : List Addr} (hs : α <:+ α') {vs : List MV} {ws : List Value} (h : VsOK q α vs ws) : VsOK q α' vs ws := by
  induction h with
  | nil => exact .nil
  | cons h1 _ ih => exact .cons (h1.mono hs) ih
/-! what an object of the pure store is on the heap (inductives: one step to open, where nested ∃ would take many) -/
inductive LstOK (q : Int) (α : List Addr) (vs : List MV) (o : Obj) : Prop
  | mk (ws : List Value) (n : Nat) (e : o = listOf ws.toArray n) (h : VsOK q α vs ws)
inductive TupOK (q : Int) (α : List Addr) (vs : List MV) (o : Obj) : Prop
  | mk (ws : List Value) (n : Nat) (e : o = { cls := .type "tuple", data := .seq ws.toArray n }) (h : VsOK q α vs ws)
inductive CllOK (q : Int) (α : List Addr) (v : MV) (o : Obj) : Prop
  | mk (w : Value) (e : o.data = .cell (some w)) (h : VOK q α v w)
inductive RngOK (a b s : Int) (o : Obj) : Prop
  | mk (t u v : Tok) (e : o = { cls := .type "range", data := .fields #[.int a t, .int b u, .int s v] })
inductive FunOK (α : List Addr) (kid : Nat) (cs : List Nat) (ci : Nat) (o : Obj) : Prop
  | mk (cl : List (Str × Addr)) (doc pm : Value) (an : Option Addr) (ct : Value) (c' : Addr)
    (e : o.data = .func (fnX (fiOf kid).name (fiOf kid).qual (fiOf kid).params (fiOf kid).body (fiOf kid).scope cl .none .none doc pm an (.ref c') ct)) (hc : fromEnd α.length α ci = some c')
    (k : ∀ (i : Nat) (x : Str) (k : Nat), (fiOf kid).cn[i]? = some x → cs[i]? = some k → ∃ a, cl.lookup x = some a ∧ fromEnd α.length α k = some a)
noncomputable def ObjOK (q : Int) (α : List Addr) : MO → Obj → Prop
  | .list vs, o => LstOK q α vs o
  | .tuple vs, o => TupOK q α vs o
  | .cell none, o => o.data = .cell none
  | .cell (some v), o => CllOK q α v o
  | .range a b s, o => RngOK a b s o
  | .tab none, o => o = tabObj #[]
  | .tab (some (l, k, ci)), o => ∃ c', o = tabObj #[rawInt l, rawInt k, .ref c'] ∧ fromEnd α.length α ci = some c'
  | .code kid, o => ∃ (vs : Array Value) (t : Tok), o.data = .fields vs ∧ vs[1]? = some (.str (fiOf kid).qual t)
  | .any, o => ∃ ps, o = tabObj ps
  | .fn kid cs ci, o => FunOK α kid cs ci o
theorem LstOK.mono {q : Int} {α α' : List Addr} (hs : α <:+ α') {vs : List MV} {o : Obj} (h : LstOK q α vs o) : LstOK q α' vs o := by
  cases h with | mk ws n e h => exact .mk ws n e (h.mono hs)
theorem TupOK.mono {q : Int} {α α' : List Addr} (hs : α <:+ α') {vs : List MV} {o : Obj} (h : TupOK q α vs o) : TupOK q α' vs o := by
  cases h with | mk ws n e h => exact .mk ws n e (h.mono hs)
theorem CllOK.mono {q : Int} {α α' : List Addr} (hs : α <:+ α') {v : MV} {o : Obj} (h : CllOK q α v o) : CllOK q α' v o := by
  cases h with | mk w e h => exact .mk w e (h.mono hs)
theorem FunOK.mono {α α' : List Addr} (hs : α <:+ α') {kid : Nat} {cs : List Nat} {ci : Nat} {o : Obj} (h : FunOK α kid cs ci o) : FunOK α' kid cs ci o := by
  cases h with | mk cl doc pm an ct c' e hc k => exact .mk cl doc pm an ct c' e (fromEnd_mono hs hc) fun i x j e1 e2 => (k i x j e1 e2).elim fun a e3 => ⟨a, e3.1, fromEnd_mono hs e3.2⟩
theorem ObjOK.mono {q : Int} {α α' : List Addr} (hs : α <:+ α') {mo : MO} {o : Obj} (h : ObjOK q α mo o) : ObjOK q α' mo o := by
  cases mo with
  | list vs => exact LstOK.mono hs h
  | tuple vs => exact TupOK.mono hs h
  | cell v => cases v with
    | none => exact h
    | some v => exact CllOK.mono hs h
  | range a b s => exact h
  | tab e => cases e with
    | none => exact h
    | some e => exact Exists.elim h fun c' h => ⟨c', h.1, fromEnd_mono hs h.2⟩
  | code k => exact h
  | any => exact h
  | fn kid cs ci => exact FunOK.mono hs h
inductive OsOK (q : Int) (α : List Addr) : List MO → List (Addr × Obj) → Prop
  | nil : OsOK q α [] []
  | cons {mo a o mos led} : ObjOK q α mo o → OsOK q α mos led → OsOK q α (mo :: mos) ((a, o) :: led)
theorem OsOK.mono {q : Int} {α α' : List Addr} (hs : α <:+ α') {mos : List MO} {led : List (Addr × Obj)} (h : OsOK q α mos led) : OsOK q α' mos led := by
  induction h with
  | nil => exact .nil
  | cons h1 _ ih => exact .cons (h1.mono hs) ih
theorem OsOK.length {q : Int} {α : List Addr} {mos : List MO} {led : List (Addr × Obj)} (h : OsOK q α mos led) : led.length = mos.length := by
  induction h with
  | nil => rfl
  | cons _ _ ih => simp [ih]
inductive GetAt (q : Int) (α : List Addr) (led : List (Addr × Obj)) (i : Nat) (mo : MO) : Prop
  | mk (a : Addr) (o : Obj) (h1 : led[i]? = some (a, o)) (h2 : ObjOK q α mo o)
theorem OsOK.get {q : Int} {α : List Addr} {mos : List MO} {led : List (Addr × Obj)} (h : OsOK q α mos led) : ∀ {i : Nat} {mo : MO}, mos[i]? = some mo → GetAt q α led i mo := by
  induction h with
  | nil => intro i mo e; cases e
  | cons h1 _ ih =>
    intro i mo e
    cases i with
    | zero => rw [List.getElem?_cons_zero] at e; exact ⟨_, _, rfl, Option.some.inj e ▸ h1⟩
    | succ i => rw [List.getElem?_cons_succ] at e; cases ih e with | mk a o e1 e2 => exact ⟨a, o, by rw [List.getElem?_cons_succ]; exact e1, e2⟩
theorem OsOK.set {q : Int} {α : List Addr} {mos : List MO} {led : List (Addr × Obj)} (h : OsOK q α mos led) : ∀ {i : Nat} {mo : MO} {a : Addr} {o : Obj}, ObjOK q α mo o → (∀ p, led[i]? = some p → p.1 = a) → OsOK q α (mos.set i mo) (led.set i (a, o)) := by
  induction h with
  | nil => intro i mo a o _ _; exact .nil
  | cons h1 h2 ih =>
    intro i mo a o ho ha
    cases i with
    | zero => exact .cons ho h2
    | succ i => exact .cons h1 (ih ho fun p hp => ha p (by simpa using hp))
/-- the store -/
structure SS where
  n : Nat
  sto : List MO
/-- the pure state of a block -/
structure PS where
  loc : List (Option MV)
  cel : List Nat
  ss : SS
set_option genInjectivity false
structure Gl where
  prog : Program
  w : World
  q : Int
  B : Heap → Prop
  hB : ∀ h h', (∀ b o, h.get? b = some o → h'.get? b = some o) → B h → B h'
  hq : q.natAbs ≤ 1000000000000000000000000000001
  hq2 : 2 ≤ q.natAbs
  tabs : List Addr
structure Sta where
  names : List Str
  cnames : List Str
  scope : Scope
structure Cx (g : Gl) (Γ : Sta) where
  A : Around
  A₀ : Around
  base : Heap
  outer : List Env
  env : Env
  fenv : Env
  h₀ : Heap
  L : Addr
  blk : Option Addr
  lvl : Nat
  bm : Str → Option Value
  hA : A.frames = some (fenv :: outer)
  hh : A.handled = none
  hff : fenv.frame = some L
  hfk : fenv.scope.kind = .function
  hfl : blk = none → env.locals = L
  hbl : ∀ a, blk = some a → env.locals = a
  below : Below A₀ base outer h₀
  hscope : env.scope = Γ.scope
  hkind : Γ.scope.kind = .function
  hglob : env.globals = mainGlobals
  hblt : env.builtins = builtinsNs
  hB : g.B h₀
  hdep : A.depth + lvl < recursionLimit
  hun : A.units + 20 * lvl + 20 < cLine
set_option genInjectivity true
noncomputable def LocOK (q : Int) (α : List Addr) (names : List Str) (m : Str → Option Value) (loc : List (Option MV)) : Prop :=
  ∀ (i : Nat) (x : Str) (v : MV), names[i]? = some x → loc[i]? = some (some v) → ∃ w, m x = some w ∧ VOK q α v w
theorem LocOK.mono {q : Int} {α α' : List Addr} (hs : α <:+ α') {names : List Str} {m : Str → Option Value} {loc : List (Option MV)} (h : LocOK q α names m loc) : LocOK q α' names m loc :=
  fun i x v e1 e2 => let ⟨w, e3, e4⟩ := h i x v e1 e2; ⟨w, e3, e4.mono hs⟩
/-- where the block's names stand -/
noncomputable def BlkOK {g : Gl} {Γ : Sta} (c : Cx g Γ) (α : List Addr) (loc : List (Option MV)) (m : Str → Option Value) (bl : List (Addr × Obj)) : Prop :=
  match c.blk with
  | none => bl = [] ∧ LocOK g.q α Γ.names m loc
  | some a => m = c.bm ∧ ∃ o es ep m', bl = [(a, o)] ∧ o.data = .dict es ep ∧ StrKeys es ∧ (∀ name, nsFind es name = m' name) ∧ LocOK g.q α Γ.names m' loc
theorem BlkOK.mono {g : Gl} {Γ : Sta} {c : Cx g Γ} {α α' : List Addr} (hs : α <:+ α') {loc : List (Option MV)} {m : Str → Option Value} {bl : List (Addr × Obj)} (h : BlkOK c α loc m bl) : BlkOK c α' loc m bl := by
  unfold BlkOK at *
  split at h
  · exact ⟨h.1, h.2.mono hs⟩
  · obtain ⟨e0, o, es, ep, m', e1, e2, e3, e4, e5⟩ := h
    exact ⟨e0, o, es, ep, m', e1, e2, e3, e4, e5.mono hs⟩
noncomputable def CelOK (α : List Addr) (cnames : List Str) (cells : List (Str × Addr)) (cel : List Nat) : Prop :=
  ∀ (i : Nat) (x : Str) (k : Nat), cnames[i]? = some x → cel[i]? = some k → ∃ a, cells.lookup x = some a ∧ fromEnd α.length α k = some a
theorem CelOK.mono {α α' : List Addr} (hs : α <:+ α') {cnames : List Str} {cells : List (Str × Addr)} {cel : List Nat} (h : CelOK α cnames cells cel) : CelOK α' cnames cells cel :=
  fun i x k e1 e2 => let ⟨a, e3, e4⟩ := h i x k e1 e2; ⟨a, e3, fromEnd_mono hs e4⟩
structure RelX {g : Gl} {Γ : Sta} (c : Cx g Γ) (α : List Addr) (ext : List (Addr × Obj)) (G : List GenState) (st : PS) (s : Shared) (m : Str → Option Value) (led bl : List (Addr × Obj)) : Prop where
  F : Fr c.h₀ c.L s.heap m
  N : News c.h₀ c.L s.heap (led ++ (bl ++ ext))
  nd : ((led ++ (bl ++ ext)).map (·.1)).Nodup
  la : led.map (·.1) = α
  lo : OsOK g.q α st.ss.sto led
  nn : st.ss.n = st.ss.sto.length
  bk : BlkOK c α st.loc m bl
  ce : CelOK α Γ.cnames c.env.cells st.cel
  ge : G <+: s.gens.toList
  ba : AllBare s.gens
  tb : g.tabs <:+ α
  tk : 0 < s.toks
inductive Rel {g : Gl} {Γ : Sta} (c : Cx g Γ) (α : List Addr) (ext : List (Addr × Obj)) (G : List GenState) (st : PS) (s : Shared) : Prop
  | mk (m : Str → Option Value) (led bl : List (Addr × Obj)) (R : RelX c α ext G st s m led bl)
noncomputable def After {g : Gl} {Γ : Sta} (c : Cx g Γ) (α : List Addr) (ext : List (Addr × Obj)) (G : List GenState) (s : Shared) (st' : PS) (P : List Addr → Shared → Prop) : Prop :=
  ∀ α' s', α <:+ α' → Rel c α' ext G st' s' → s'.os = s.os → P α' s'
noncomputable def EvOK (g : Gl) (Γ : Sta) (lv : Nat) (x : Expr) (f : PS → Option (MV × PS)) : Prop :=
  ∀ (c : Cx g Γ), lv ≤ c.lvl → ∀ α ext G st v st' s Q E, f st = some (v, st') → Rel c α ext G st s →
    (∀ w, After c α ext G s st' fun α' s' => VOK g.q α' v w → Q w s') →
    wpAny (model g.prog g.w) c.A (eval x c.env) Q E s
/-- a step that leaves the pure state as it is -/
theorem Rel.step {g : Gl} {Γ : Sta} {c : Cx g Γ} {α : List Addr} {ext : List (Addr × Obj)} {G : List GenState} {st : PS} {s : Shared} {m : Str → Option Value} {led bl : List (Addr × Obj)}
    (R : RelX c α ext G st s m led bl) {h' : Heap} {tk : Nat} (F : Fr c.h₀ c.L h' m) (N : News c.h₀ c.L h' (led ++ (bl ++ ext))) (ht : 0 < tk) : Rel c α ext G st { s with heap := h', toks := tk } :=
  ⟨m, led, bl, F, N, R.nd, R.la, R.lo, R.nn, R.bk, R.ce, R.ge, R.ba, R.tb, ht⟩
theorem Rel.tok {g : Gl} {Γ : Sta} {c : Cx g Γ} {α : List Addr} {ext : List (Addr × Obj)} {G : List GenState} {st : PS} {s : Shared} (R : Rel c α ext G st s) {tk : Nat} (ht : 0 < tk) : Rel c α ext G st { s with toks := tk } :=
  let ⟨_, _, _, R⟩ := R; Rel.step R R.F R.N ht
theorem Rel.pos {g : Gl} {Γ : Sta} {c : Cx g Γ} {α : List Addr} {ext : List (Addr × Obj)} {G : List GenState} {st : PS} {s : Shared} (R : Rel c α ext G st s) : 0 < s.toks := let ⟨_, _, _, R⟩ := R; R.tk
theorem pos_toks {M : Model} {A : Around} {β : Type} {t : Sem β} {Q : β → Shared → Prop} {E : Value → Shared → Prop} {s : Shared} (hp : 0 < s.toks) (h : wpAny M A t (fun a s' => 0 < s'.toks → Q a s') E s) : wpAny M A t Q E s :=
  wpAny_with_toks (n := 1) hp (wpAny_mono h (fun _ _ x => x) fun _ _ x _ => x)
inductive OldAt (q : Int) (α : List Addr) (led : List (Addr × Obj)) (h : Heap) (n k : Nat) (mo : MO) : Prop
  | mk (a : Addr) (o : Obj) (i : Nat) (h1 : i < led.length) (h2 : i = n - 1 - k) (h3 : led[i]? = some (a, o)) (h4 : fromEnd α.length α k = some a) (h5 : ObjOK q α mo o) (h6 : h.get? a = some o)
theorem RelX.old {g : Gl} {Γ : Sta} {c : Cx g Γ} {α : List Addr} {ext : List (Addr × Obj)} {G : List GenState} {st : PS} {s : Shared} {m : Str → Option Value} {led bl : List (Addr × Obj)}
    (R : RelX c α ext G st s m led bl) {mo : MO} {k : Nat} (h : fromEnd st.ss.n st.ss.sto k = some mo) : OldAt g.q α led s.heap st.ss.n k mo := by
  have hl : led.length = st.ss.n := by rw [R.lo.length, R.nn]
  have ha : α.length = st.ss.n := by rw [← R.la]; simpa using hl
  unfold fromEnd at h
  by_cases hk : Nat.blt k st.ss.n = true
  · rw [if_pos hk] at h
    cases R.lo.get h with | mk a o e1 e2 =>
    have hk' : k < st.ss.n := Z.blt_iff.mp hk
    refine ⟨a, o, _, ?_, rfl, e1, ?_, e2, (R.N _ (List.mem_append_left _ (List.mem_of_getElem? e1))).1⟩
    · rw [hl, Nat.sub_sub]; exact Nat.sub_lt (Nat.lt_of_le_of_lt (Nat.zero_le _) hk') (Nat.add_comm 1 k ▸ Nat.succ_pos k)
    unfold fromEnd
    rw [ha, if_pos hk, ← R.la, List.getElem?_map, e1]
    rfl
  · rw [if_neg hk] at h; cases h
/-- a new object -/
theorem Rel.alloc {g : Gl} {Γ : Sta} {c : Cx g Γ} {α : List Addr} {ext : List (Addr × Obj)} {G : List GenState} {st : PS} {s : Shared} {m : Str → Option Value} {led bl : List (Addr × Obj)}
    (R : RelX c α ext G st s m led bl) {h' : Heap} {tk : Nat} {l : Addr} {o : Obj} {mo : MO} (F : Fr c.h₀ c.L h' m) (N : News c.h₀ c.L h' ((l, o) :: (led ++ (bl ++ ext)))) (hl : ∀ p ∈ led ++ (bl ++ ext), p.1 < l)
    (ho : ObjOK g.q (l :: α) mo o) (ht : 0 < tk) : Rel c (l :: α) ext G { st with ss := ⟨st.ss.n + 1, mo :: st.ss.sto⟩ } { s with heap := h', toks := tk } := by
  have hs : α <:+ l :: α := List.suffix_cons _ _
  refine ⟨m, (l, o) :: led, bl, F, N, ?_, by rw [← R.la]; rfl, .cons ho (R.lo.mono hs), by simp [R.nn], R.bk.mono hs, R.ce.mono hs, R.ge, R.ba, R.tb.trans hs, ht⟩
  show (List.map _ ((l, o) :: (led ++ (bl ++ ext)))).Nodup
  rw [List.map_cons, List.nodup_cons]
  refine ⟨fun hm => ?_, R.nd⟩
  obtain ⟨p, hp, e⟩ := List.mem_map.mp hm
  exact Nat.lt_irrefl _ (e ▸ hl p hp)
theorem fromEnd_new {β : Type} (n : Nat) (x : β) (l : List β) : fromEnd (n + 1) (x :: l) n = some x := by
  unfold fromEnd
  rw [if_pos (Z.blt_iff.mpr (Nat.lt_succ_self n))]
  simp
/-! inversions that take the rest of the proof as their last argument: the terms stay small -/
theorem nn {β : Type} {x : β} {P : Prop} (h : none = some x) : P := nomatch h
theorem ff {P : Prop} (h : false = true) : P := nomatch h
theorem VsOK.one {q : Int} {α : List Addr} {v : MV} {ws : List Value} {P : List Value → Prop} (h : VsOK q α [v] ws) (k : ∀ w, VOK q α v w → P [w]) : P ws := by
  cases h with | cons h1 h2 => cases h2; exact k _ h1
theorem VsOK.two {q : Int} {α : List Addr} {v v2 : MV} {ws : List Value} {P : List Value → Prop} (h : VsOK q α [v, v2] ws) (k : ∀ w w2, VOK q α v w → VOK q α v2 w2 → P [w, w2]) : P ws := by
  cases h with | cons h1 h2 => exact h2.one (P := fun ws => P (_ :: ws)) fun w h2 => k _ _ h1 h2
theorem VsOK.thr {q : Int} {α : List Addr} {v v2 v3 : MV} {ws : List Value} {P : List Value → Prop} (h : VsOK q α [v, v2, v3] ws) (k : ∀ w w2 w3, VOK q α v w → VOK q α v2 w2 → VOK q α v3 w3 → P [w, w2, w3]) : P ws := by
  cases h with | cons h1 h2 => exact h2.two (P := fun ws => P (_ :: ws)) fun w w2 h2 h3 => k _ _ _ h1 h2 h3
/-- the value of a call, told by what it asks of the rest -/
noncomputable def RetP {g : Gl} {Γ : Sta} (c : Cx g Γ) (α : List Addr) (ext : List (Addr × Obj)) (G : List GenState) (s : Shared) (Q : Value → Shared → Prop) (v : MV) (st' : PS) : Prop :=
  ∀ w, After c α ext G s st' fun α' s' => VOK g.q α' v w → Q w s'
noncomputable def Ret {g : Gl} {Γ : Sta} (c : Cx g Γ) (α : List Addr) (ext : List (Addr × Obj)) (G : List GenState) (st : PS) (s : Shared) (Q : Value → Shared → Prop) (v : MV) (ss : SS) : Prop :=
  ∀ w, After c α ext G s { st with ss := ss } fun α' s' => VOK g.q α' v w → Q w s'
section
variable {β δ γ : Type} {P : Prop}
theorem som2 {a a' : β} {b b' : δ} {P : β → δ → Prop} (h : some (a, b) = some (a', b')) (k : P a' b') : P a b := by
  cases h; exact k
theorem eo {o : Option β} {f : β → Option γ} {r : γ} (h : Option.casesOn (motive := fun _ => Option γ) o none f = some r) (k : ∀ x, o = some x → f x = some r → P) : P := by
  cases o with
  | none => exact nn h
  | some x => exact k x rfl h
theorem eoN {o : Option β} {x0 : Option γ} {f : β → Option γ} {r : γ} (h : Option.casesOn (motive := fun _ => Option γ) o x0 f = some r) (k0 : o = none → x0 = some r → P) (k : ∀ x, o = some x → f x = some r → P) : P := by
  cases o with
  | none => exact k0 rfl h
  | some x => exact k x rfl h
theorem eop {o : Option (β × δ)} {f : β × δ → Option γ} {r : γ} (h : Option.casesOn (motive := fun _ => Option γ) o none f = some r) (k : ∀ x y, o = some (x, y) → f (x, y) = some r → P) : P := by
  cases o with
  | none => exact nn h
  | some x => exact k x.1 x.2 rfl h
theorem eob {o : Option (Bool × δ)} {f : Bool × δ → Option γ} {r : γ} (h : Option.casesOn (motive := fun _ => Option γ) o none f = some r)
    (k1 : ∀ y, o = some (true, y) → f (true, y) = some r → P) (k0 : ∀ y, o = some (false, y) → f (false, y) = some r → P) : P := by
  cases o with
  | none => exact nn h
  | some x => obtain ⟨b, y⟩ := x; cases b with
    | true => exact k1 y rfl h
    | false => exact k0 y rfl h
theorem emo_cell {o : Option MO} {f : Option MV → Option γ} {r : γ} (h : (match o with | some (.cell v) => f v | _ => none) = some r) (k : ∀ v, o = some (.cell v) → f v = some r → P) : P := by
  cases o with
  | none => exact nn h
  | some o => cases o with
    | cell v => exact k v rfl h
    | _ => exact nn h
theorem emo_cells {o : Option MO} {f : MV → Option γ} {r : γ} (h : (match o with | some (.cell (some v)) => f v | _ => none) = some r) (k : ∀ v, o = some (.cell (some v)) → f v = some r → P) : P := by
  cases o with
  | none => exact nn h
  | some o => cases o with
    | cell v => cases v with
      | none => exact nn h
      | some v => exact k v rfl h
    | _ => exact nn h
theorem emo_list {o : Option MO} {f : List MV → Option γ} {r : γ} (h : (match o with | some (.list v) => f v | _ => none) = some r) (k : ∀ v, o = some (.list v) → f v = some r → P) : P := by
  cases o with
  | none => exact nn h
  | some o => cases o with
    | list v => exact k v rfl h
    | _ => exact nn h
theorem emo_tup {o : Option MO} {f : List MV → Option γ} {r : γ} (h : (match o with | some (.tuple v) => f v | _ => none) = some r) (k : ∀ v, o = some (.tuple v) → f v = some r → P) : P := by
  cases o with
  | none => exact nn h
  | some o => cases o with
    | tuple v => exact k v rfl h
    | _ => exact nn h
theorem emo_rng {o : Option MO} {f : Int → Int → Int → Option γ} {r : γ} (h : (match o with | some (.range a b c) => f a b c | _ => none) = some r) (k : ∀ a b c, o = some (.range a b c) → f a b c = some r → P) : P := by
  cases o with
  | none => exact nn h
  | some o => cases o with
    | range a b c => exact k a b c rfl h
    | _ => exact nn h
theorem emv_ref {a : MV} {f : Nat → Option γ} {r : γ} (h : (match a with | .ref i => f i | _ => none) = some r) (k : ∀ i, a = .ref i → f i = some r → P) : P := by
  cases a with
  | ref i => exact k i rfl h
  | _ => exact nn h
theorem emv_str {a : MV} {f : List Nat → Option γ} {r : γ} (h : (match a with | .str x => f x | _ => none) = some r) (k : ∀ x, a = .str x → f x = some r → P) : P := by
  cases a with
  | str x => exact k x rfl h
  | _ => exact nn h
theorem emv_nat {a : MV} {f : Nat → Option γ} {r : γ} (h : (match a with | .int (.c (.ofNat x)) => f x | _ => none) = some r) (k : ∀ x, a = .int (.c (.ofNat x)) → f x = some r → P) : P := by
  cases a with
  | int e => cases e with
    | c i => cases i with
      | ofNat x => exact k x rfl h
      | negSucc _ => exact nn h
    | _ => exact nn h
  | _ => exact nn h
theorem eoo {o : Option (Option β)} {f : β → Option γ} {r : γ} (h : (match o with | some (some x) => f x | _ => none) = some r) (k : ∀ x, o = some (some x) → f x = some r → P) : P := by
  cases o with
  | none => exact nn h
  | some o => cases o with
    | some x => exact k x rfl h
    | none => exact nn h
theorem ebb {b b2 : Bool} {x : Option γ} {r : γ} (h : (match b, b2 with | true, true => x | _, _ => none) = some r) (k : b = true → b2 = true → x = some r → P) : P := by
  cases b with
  | false => exact nn h
  | true => cases b2 with
    | false => exact nn h
    | true => exact k rfl rfl h
theorem ebfb {b b2 : Bool} {x : Option γ} {r : γ} (h : (match b, b2 with | false, true => x | _, _ => none) = some r) (k : b = false → b2 = true → x = some r → P) : P := by
  cases b with
  | true => exact nn h
  | false => cases b2 with
    | false => exact nn h
    | true => exact k rfl rfl h
theorem eb {b : Bool} {x : Option γ} {r : γ} (h : Bool.casesOn (motive := fun _ => Option γ) b none x = some r) (k : b = true → x = some r → P) : P := by
  cases b with
  | false => exact nn h
  | true => exact k rfl h
theorem ebf {b : Bool} {x : Option γ} {r : γ} (h : Bool.casesOn (motive := fun _ => Option γ) b x none = some r) (k : b = false → x = some r → P) : P := by
  cases b with
  | true => exact nn h
  | false => exact k rfl h
end
section
variable {γ : Type} {K : Option γ → Prop}
/-! matches on a list of arguments -/
theorem k1any {vs : List MV} {ss : SS} {f : MV → Option γ} (n : K none) (k : ∀ a, vs = [a] → K (f a)) : K (match (generalizing := false) vs, ss with | [a], _ => f a | _, _ => none) := by
  cases vs with
  | nil => exact n
  | cons a vs => cases vs with
    | nil => exact k a rfl
    | cons _ _ => exact n
theorem k1ref {vs : List MV} {ss : SS} {f : Nat → Option γ} (n : K none) (k : ∀ i, vs = [.ref i] → K (f i)) : K (match (generalizing := false) vs, ss with | [.ref i], _ => f i | _, _ => none) := by
  cases vs with
  | nil => exact n
  | cons a vs => cases a with
    | ref i => cases vs with
      | nil => exact k i rfl
      | cons _ _ => exact n
    | _ => cases vs <;> exact n
theorem k1int {vs : List MV} {ss : SS} {f : Int → Option γ} (n : K none) (k : ∀ i, vs = [.int (.c i)] → K (f i)) : K (match (generalizing := false) vs, ss with | [.int (.c i)], _ => f i | _, _ => none) := by
  cases vs with
  | nil => exact n
  | cons a vs => cases a with
    | int e => cases e with
      | c i => cases vs with
        | nil => exact k i rfl
        | cons _ _ => exact n
      | _ => cases vs <;> exact n
    | _ => cases vs <;> exact n
theorem kmo_rng {o : Option MO} {f : Int → Int → Int → Option γ} (n : K none) (k : ∀ a b c, o = some (.range a b c) → K (f a b c)) : K (match (generalizing := false) o with | some (.range a b c) => f a b c | _ => none) := by
  cases o with
  | none => exact n
  | some o => cases o with
    | range a b c => exact k a b c rfl
    | _ => exact n
theorem kbb2 {b b2 : Bool} {x : Option γ} (n : K none) (k : b = true → b2 = true → K x) : K (match (generalizing := false) b, b2 with | true, true => x | _, _ => none) := by
  cases b with
  | false => exact n
  | true => cases b2 with
    | false => exact n
    | true => exact k rfl rfl
/-- a match on an option, `none` to `none` -/
theorem ko {β : Type} {o : Option β} {f : β → Option γ} (n : K none) (k : ∀ x, o = some x → K (f x)) : K (Option.casesOn (motive := fun _ => Option γ) o none f) := by
  cases o with
  | none => exact n
  | some x => exact k x rfl
theorem kop {β δ : Type} {o : Option (β × δ)} {f : β × δ → Option γ} (n : K none) (k : ∀ x y, o = some (x, y) → K (f (x, y))) : K (Option.casesOn (motive := fun _ => Option γ) o none f) := by
  cases o with
  | none => exact n
  | some x => exact k x.1 x.2 rfl
/-- a match on a bool, `false` to `none` -/
theorem kb {b : Bool} {x : Option γ} (n : K none) (k : b = true → K x) : K (Bool.casesOn (motive := fun _ => Option γ) b none x) := by
  cases b with
  | false => exact n
  | true => exact k rfl
theorem kbf {b : Bool} {x : Option γ} (n : K none) (k : b = false → K x) : K (Bool.casesOn (motive := fun _ => Option γ) b x none) := by
  cases b with
  | true => exact n
  | false => exact k rfl
theorem kbb {b : Bool} {x y : Option γ} (k1 : b = true → K x) (k2 : b = false → K y) : K (Bool.casesOn (motive := fun _ => Option γ) b y x) := by
  cases b with
  | true => exact k1 rfl
  | false => exact k2 rfl
end
end Mine
end P1
section P2
open PySem PySem.W PyProof.Rows PySem.Calls PySem.Spec
namespace Mine
variable {g : Gl} {Γ : Sta} {lv : Nat}
theorem Cx.kind (c : Cx g Γ) (x : Str) : c.env.kindOf x = Γ.scope.names.lookup x := by
  show c.env.scope.names.lookup x = _
  rw [c.hscope]
theorem Cx.fk (c : Cx g Γ) : c.env.scope.kind = .function := by rw [c.hscope]; exact c.hkind
section rel
variable {c : Cx g Γ} {α : List Addr} {ext : List (Addr × Obj)} {G : List GenState} {st : PS} {s : Shared} {m : Str → Option Value} {led bl : List (Addr × Obj)}
theorem BlkOK.el {P : Prop} (hb : BlkOK c α st.loc m bl) (k0 : c.blk = none → bl = [] → LocOK g.q α Γ.names m st.loc → P)
    (k1 : ∀ a o es ep m', c.blk = some a → m = c.bm → bl = [(a, o)] → o.data = .dict es ep → StrKeys es → (∀ name, nsFind es name = m' name) → LocOK g.q α Γ.names m' st.loc → P) : P := by
  unfold BlkOK at hb
  cases e : c.blk with
  | none => rw [e] at hb; exact k0 e hb.1 hb.2
  | some a => rw [e] at hb; exact hb.2.elim fun o h => h.elim fun es h => h.elim fun ep h => h.elim fun m' h => k1 a o es ep m' e hb.1 h.1 h.2.1 h.2.2.1 h.2.2.2.1 h.2.2.2.2
theorem RelX.ns {P : Prop} (R : RelX c α ext G st s m led bl) (k : ∀ m', s.heap.Ns c.env.locals m' → LocOK g.q α Γ.names m' st.loc → P) : P :=
  R.bk.el (fun e _ hl => k m (by rw [c.hfl e]; exact R.F.ns) hl)
    fun a o es ep m' e _ e1 e2 e3 e4 e5 => k m' (by rw [c.hbl a e]; exact ⟨o, es, ep, (R.N (a, o) (by rw [e1]; exact List.mem_append_right _ List.mem_cons_self)).1, e2, e3, e4⟩) e5
end rel
/-! names -/
noncomputable def locF (i : Nat) : PS → Option (MV × PS) := fun st => match st.loc[i]? with | some (some v) => some (v, st) | _ => none
set_option smartUnfolding false in
theorem locF_el {i : Nat} {st st' : PS} {v : MV} {P : Prop} (h : locF i st = some (v, st')) (k : st.loc[i]? = some (some v) → st = st' → P) : P := by
  unfold locF at h
  refine eoo h fun w e h => ?_
  have h := Prod.mk.inj (Option.some.inj h)
  exact k (e.trans (by rw [h.1])) h.2
theorem EvOK.loc {x : Str} {pos : Pos} {i : Nat} (hn : Γ.names[i]? = some x) (hk : Γ.scope.names.lookup x = some .local) (hd : (x == ("__debug__" : Str)) = false) : EvOK g Γ lv (.Name x pos) (locF i) := by
  intro c hl α ext G st v st' s Q E hf ⟨m, led, bl, R⟩ hQ
  refine locF_el hf fun e es => R.ns fun m' hns hlo => (hlo i x v hn e).elim fun w h => ?_
  exact wpAny_Name (wpAny_loadName_local c.fk ((c.kind x).trans hk) hns h.1 (hQ w α s (List.suffix_refl _) (es ▸ ⟨m, led, bl, R⟩) rfl h.2)) hd
noncomputable def celF (i : Nat) : PS → Option (MV × PS) := fun st => match st.cel[i]? with
  | some k => match fromEnd st.ss.n st.ss.sto k with
    | some (.cell (some v)) => some (v, st)
    | _ => none
  | none => none
set_option smartUnfolding false in
theorem celF_el {i : Nat} {st st' : PS} {v : MV} {P : Prop} (h : celF i st = some (v, st')) (k : ∀ k, st.cel[i]? = some k → fromEnd st.ss.n st.ss.sto k = some (.cell (some v)) → st = st' → P) : P := by
  unfold celF at h
  refine eo h fun j e h => ?_
  refine emo_cells h fun w e2 h => ?_
  have h := Prod.mk.inj (Option.some.inj h)
  exact k j e (e2.trans (by rw [h.1])) h.2
theorem RelX.cell {c : Cx g Γ} {α : List Addr} {ext : List (Addr × Obj)} {G : List GenState} {st : PS} {s : Shared} {m : Str → Option Value} {led bl : List (Addr × Obj)} (R : RelX c α ext G st s m led bl) {k : Nat} {v : MV} {a : Addr} {P : Prop} (e : fromEnd st.ss.n st.ss.sto k = some (.cell (some v))) (ha : fromEnd α.length α k = some a)
    (kk : ∀ o w, o.data = .cell (some w) → VOK g.q α v w → s.heap.get? a = some o → P) : P := by
  cases R.old e with | mk a' o j _ _ _ h3 h h6 =>
  cases (show CllOK _ _ _ _ from h) with | mk w h4 h5 =>
  exact kk o w h4 h5 (Option.some.inj (ha.symm.trans h3) ▸ h6)
theorem EvOK.cel {x : Str} {pos : Pos} {i : Nat} (hn : Γ.cnames[i]? = some x) (hk : Γ.scope.names.lookup x = some .cell ∨ Γ.scope.names.lookup x = some .free) (hd : (x == ("__debug__" : Str)) = false) (hd2 : (x == ("__classdict__" : Str)) = false) :
    EvOK g Γ lv (.Name x pos) (celF i) := by
  intro c hl α ext G st v st' s Q E hf ⟨m, led, bl, R⟩ hQ
  refine celF_el hf fun k e e2 es => ?_
  refine (R.ce i x k hn e).elim fun a h => R.cell e2 h.2 fun o w h4 h5 h6 => ?_
  have hq := hQ w α s (List.suffix_refl _) (es ▸ ⟨m, led, bl, R⟩) rfl h5
  exact hk.elim (fun hk => wpAny_Name (wpAny_loadName_cell c.fk ((c.kind x).trans hk) h.1 ⟨o, h6, h4⟩ hq) hd) fun hk => wpAny_Name (wpAny_loadName_free c.fk ((c.kind x).trans hk) h.1 ⟨o, h6, h4⟩ hq hd2) hd
noncomputable def GlobV (h : Heap) (x : Str) (v : Value) : Prop := ∃ mg, h.Ns mainGlobals mg ∧ (mg x = some v ∨ (mg x = none ∧ ∃ mb, h.Ns builtinsNs mb ∧ mb x = some v))
theorem glob_name {c : Cx g Γ} {α : List Addr} {ext : List (Addr × Obj)} {G : List GenState} {st : PS} {s : Shared} {x : Str} {pos : Pos} {v : Value} {Q E : Value → Shared → Prop} (R : Rel c α ext G st s)
    (hg : ∀ h, g.B h → GlobV h x v) (hk : Γ.scope.names.lookup x = some .globalImplicit) (hd : (x == ("__debug__" : Str)) = false) (hQ : Q v s) : wpAny (model g.prog g.w) c.A (eval (.Name x pos) c.env) Q E s := by
  obtain ⟨m, led, bl, R⟩ := R
  obtain ⟨mg, h1, h2⟩ := hg c.h₀ c.hB
  refine Name_function_global c.fk ((c.kind x).trans hk) ?_ hd
  have h1' : s.heap.Ns c.env.globals mg := by rw [c.hglob]; exact h1.keeps R.F.keep
  rcases h2 with h2 | ⟨h2, mb, h3, h4⟩
  · exact loadGlobal_global h1' h2 hQ
  · exact loadGlobal_builtin h1' h2 (by rw [c.hblt]; exact h3.keeps R.F.keep) h4 hQ
/-! constants -/
noncomputable def intF (i : Int) : PS → Option (MV × PS) := fun st => some (.int (.c i), st)
theorem EvOK.int {i : Int} {k : Nat} {pos : Pos} : EvOK g Γ lv (.Constant (.int i) k pos) (intF i) := by
  intro c hl α ext G st v st' s Q E hf R hQ
  exact wpAny_Constant_int (som2 (P := RetP c α ext G s Q) hf hQ _ α _ (List.suffix_refl _) (R.tok (Nat.succ_pos _)) rfl rfl)
noncomputable def strF (x : List Nat) : PS → Option (MV × PS) := fun st => some (.str x, st)
theorem EvOK.str {y : Str} {x : List Nat} {k : Nat} {pos : Pos} (hy : y = ⟨x.toArray⟩) : EvOK g Γ lv (.Constant (.str y) k pos) (strF x) := by
  intro c hl α ext G st v st' s Q E hf R hQ
  exact Constant_str (som2 (P := RetP c α ext G s Q) hf hQ _ α _ (List.suffix_refl _) (R.tok (Nat.succ_pos _)) rfl hy)
noncomputable def noneF : PS → Option (MV × PS) := fun st => some (.none, st)
theorem EvOK.none {k : Nat} {pos : Pos} : EvOK g Γ lv (.Constant .none k pos) noneF := by
  intro c hl α ext G st v st' s Q E hf R hQ
  exact wpAny_Constant_none (som2 (P := RetP c α ext G s Q) hf hQ _ α _ (List.suffix_refl _) R rfl trivial)
/-! operations -/
noncomputable def Op1OK (g : Gl) (lv : Nat) (t : Value → Sem Value) (F : MV → SS → Option (MV × SS)) : Prop :=
  ∀ (Γ : Sta) (c : Cx g Γ), lv ≤ c.lvl → ∀ α ext G st a wa v ss s Q E, F a st.ss = some (v, ss) → VOK g.q α a wa → Rel c α ext G st s →
    (∀ w, After c α ext G s { st with ss := ss } fun α' s' => VOK g.q α' v w → Q w s') → wpAny (model g.prog g.w) c.A (t wa) Q E s
noncomputable def Op2OK (g : Gl) (lv : Nat) (t : Value → Value → Sem Value) (F : MV → MV → SS → Option (MV × SS)) : Prop :=
  ∀ (Γ : Sta) (c : Cx g Γ), lv ≤ c.lvl → ∀ α ext G st a b wa wb v ss s Q E, F a b st.ss = some (v, ss) → VOK g.q α a wa → VOK g.q α b wb → Rel c α ext G st s →
    (∀ w, After c α ext G s { st with ss := ss } fun α' s' => VOK g.q α' v w → Q w s') → wpAny (model g.prog g.w) c.A (t wa wb) Q E s
noncomputable def OpNOK (g : Gl) (lv : Nat) (t : List Value → Sem Value) (F : List MV → SS → Option (MV × SS)) : Prop :=
  ∀ (Γ : Sta) (c : Cx g Γ), lv ≤ c.lvl → ∀ α ext G st vs ws v ss s Q E, F vs st.ss = some (v, ss) → VsOK g.q α vs ws → Rel c α ext G st s →
    (∀ w, After c α ext G s { st with ss := ss } fun α' s' => VOK g.q α' v w → Q w s') → wpAny (model g.prog g.w) c.A (t ws) Q E s
theorem Op1OK.of {t : Value → Sem Value} {F : MV → SS → Option (MV × SS)}
    (H : ∀ (Γ : Sta) (c : Cx g Γ) α ext G st a wa s Q E (K : Option (MV × SS) → Prop), lv ≤ c.lvl → VOK g.q α a wa → Rel c α ext G st s → K none →
      (∀ v ss, (Ret c α ext G st s Q v ss → wpAny (model g.prog g.w) c.A (t wa) Q E s) → K (some (v, ss))) → K (F a st.ss)) : Op1OK g lv t F := by
  intro Γ c hl α ext G st a wa v ss s Q E hf ha R hQ
  exact H Γ c α ext G st a wa s Q E (fun o => o = some (v, ss) → wpAny (model g.prog g.w) c.A (t wa) Q E s) hl ha R (fun h => nn h) (fun v' ss' h e => h (som2 (P := Ret c α ext G st s Q) e hQ)) hf
theorem Op2OK.of {t : Value → Value → Sem Value} {F : MV → MV → SS → Option (MV × SS)}
    (H : ∀ (Γ : Sta) (c : Cx g Γ) α ext G st a b wa wb s Q E (K : Option (MV × SS) → Prop), lv ≤ c.lvl → VOK g.q α a wa → VOK g.q α b wb → Rel c α ext G st s → K none →
      (∀ v ss, (Ret c α ext G st s Q v ss → wpAny (model g.prog g.w) c.A (t wa wb) Q E s) → K (some (v, ss))) → K (F a b st.ss)) : Op2OK g lv t F := by
  intro Γ c hl α ext G st a b wa wb v ss s Q E hf ha hb R hQ
  exact H Γ c α ext G st a b wa wb s Q E (fun o => o = some (v, ss) → wpAny (model g.prog g.w) c.A (t wa wb) Q E s) hl ha hb R (fun h => nn h) (fun v' ss' h e => h (som2 (P := Ret c α ext G st s Q) e hQ)) hf
theorem OpNOK.of {t : List Value → Sem Value} {F : List MV → SS → Option (MV × SS)}
    (H : ∀ (Γ : Sta) (c : Cx g Γ) α ext G st vs ws s Q E (K : Option (MV × SS) → Prop), lv ≤ c.lvl → VsOK g.q α vs ws → Rel c α ext G st s → K none →
      (∀ v ss, (Ret c α ext G st s Q v ss → wpAny (model g.prog g.w) c.A (t ws) Q E s) → K (some (v, ss))) → K (F vs st.ss)) : OpNOK g lv t F := by
  intro Γ c hl α ext G st vs ws v ss s Q E hf hv R hQ
  exact H Γ c α ext G st vs ws s Q E (fun o => o = some (v, ss) → wpAny (model g.prog g.w) c.A (t ws) Q E s) hl hv R (fun h => nn h) (fun v' ss' h e => h (som2 (P := Ret c α ext G st s Q) e hQ)) hf
theorem OpNOK.mono {lv lv' : Nat} (h : lv ≤ lv') {t : List Value → Sem Value} {F : List MV → SS → Option (MV × SS)} (o : OpNOK g lv t F) : OpNOK g lv' t F := fun Γ c hl => o Γ c (Nat.le_trans h hl)
noncomputable def binF (f1 f2 : PS → Option (MV × PS)) (F : MV → MV → SS → Option (MV × SS)) : PS → Option (MV × PS) := fun st => match f1 st with
  | .none => .none
  | some (a, st1) => match f2 st1 with
    | .none => .none
    | some (b, st2) => match F a b st2.ss with
      | .none => .none
      | some (v, ss) => some (v, { st2 with ss := ss })
inductive BinAt (f1 f2 : PS → Option (MV × PS)) (F : MV → MV → SS → Option (MV × SS)) (st st' : PS) (v : MV) : Prop
  | mk (a : MV) (st1 : PS) (b : MV) (st2 : PS) (ss : SS) (h1 : f1 st = some (a, st1)) (h2 : f2 st1 = some (b, st2)) (h3 : F a b st2.ss = some (v, ss)) (h4 : st' = { st2 with ss := ss })
set_option smartUnfolding false in
theorem binF_some {f1 f2 : PS → Option (MV × PS)} {F : MV → MV → SS → Option (MV × SS)} {st st' : PS} {v : MV} (h : binF f1 f2 F st = some (v, st')) : BinAt f1 f2 F st st' v := by
  unfold binF at h
  refine eop h fun a st1 e1 h => ?_
  refine eop h fun b st2 e2 h => ?_
  refine eop h fun v' ss e3 h => ?_
  have h := Prod.mk.inj (Option.some.inj h)
  exact ⟨a, st1, b, st2, ss, e1, e2, h.1 ▸ e3, h.2.symm⟩
theorem bin_core {c : Cx g Γ} (hl : lv ≤ c.lvl) {x y : Expr} {f1 f2 : PS → Option (MV × PS)} {F : MV → MV → SS → Option (MV × SS)} {t : Value → Value → Sem Value} (h1 : EvOK g Γ lv x f1) (h2 : EvOK g Γ lv y f2) (ho : Op2OK g lv t F)
    {α : List Addr} {ext : List (Addr × Obj)} {G : List GenState} {st st' : PS} {v : MV} {s : Shared} {Q E : Value → Shared → Prop} (hf : binF f1 f2 F st = some (v, st')) (hR : Rel c α ext G st s)
    (hQ : ∀ w, After c α ext G s st' fun α' s' => VOK g.q α' v w → Q w s') :
    wpAny (model g.prog g.w) c.A (eval x c.env) (fun a s₁ => wpAny (model g.prog g.w) c.A (eval y c.env) (fun b s₂ => wpAny (model g.prog g.w) c.A (t a b) Q E s₂) E s₁) E s := by
  obtain ⟨a, st1, b, st2, ss, e1, e2, e3, rfl⟩ := binF_some hf
  refine h1 c hl α ext G st a st1 s _ E e1 hR fun w α1 s1 hs1 R1 ho1 va => ?_
  refine h2 c hl α1 ext G st1 b st2 s1 _ E e2 R1 fun w2 α2 s2 hs2 R2 ho2 vb => ?_
  refine ho Γ c hl α2 ext G st2 a b w w2 v ss s2 Q E e3 (va.mono hs2) vb R2 fun w3 α3 s3 hs3 R3 ho3 v3 => ?_
  exact hQ w3 α3 s3 ((hs1.trans hs2).trans hs3) R3 (ho3.trans (ho2.trans ho1)) v3
theorem EvOK.bin {x y : Expr} {op : Operator} {pos : Pos} {f1 f2 : PS → Option (MV × PS)} {F : MV → MV → SS → Option (MV × SS)} (h1 : EvOK g Γ lv x f1) (h2 : EvOK g Γ lv y f2) (ho : Op2OK g lv (binaryOp op) F) :
    EvOK g Γ lv (.BinOp x op y pos) (binF f1 f2 F) := by
  intro c hl α ext G st v st' s Q E hf hR hQ
  exact wpAny_BinOp (bin_core hl h1 h2 ho hf hR hQ)
theorem EvOK.cmp {x y : Expr} {op : CmpOp} {pos : Pos} {f1 f2 : PS → Option (MV × PS)} {F : MV → MV → SS → Option (MV × SS)} (h1 : EvOK g Γ lv x f1) (h2 : EvOK g Γ lv y f2) (ho : Op2OK g lv (compareOp op) F) (hb : behindInMarks op y = false) :
    EvOK g Γ lv (.Compare x [op] [y] pos) (binF f1 f2 F) := by
  intro c hl α ext G st v st' s Q E hf hR hQ
  exact wpAny_Compare1 (bin_core hl h1 h2 ho hf hR hQ) hb
noncomputable def un1F (f1 : PS → Option (MV × PS)) (F : MV → SS → Option (MV × SS)) : PS → Option (MV × PS) := fun st => match f1 st with
  | .none => .none
  | some (a, st1) => match F a st1.ss with
    | .none => .none
    | some (v, ss) => some (v, { st1 with ss := ss })
inductive un1FAt (f1 : PS → Option (MV × PS)) (F : MV → SS → Option (MV × SS)) (st st' : PS) (v : MV) : Prop
  | mk (a : MV) (st1 : PS) (ss : SS) (h1 : f1 st = some (a, st1)) (h2 : F a st1.ss = some (v, ss)) (h3 : st' = { st1 with ss := ss })
set_option smartUnfolding false in
theorem un1F_some {f1 : PS → Option (MV × PS)} {F : MV → SS → Option (MV × SS)} {st st' : PS} {v : MV} (h : un1F f1 F st = some (v, st')) : un1FAt f1 F st st' v := by
  unfold un1F at h
  refine eop h fun a st1 e1 h => ?_
  refine eop h fun v' ss e3 h => ?_
  have h := Prod.mk.inj (Option.some.inj h)
  exact ⟨a, st1, ss, e1, h.1 ▸ e3, h.2.symm⟩
theorem un1_core {c : Cx g Γ} (hl : lv ≤ c.lvl) {x : Expr} {f1 : PS → Option (MV × PS)} {F : MV → SS → Option (MV × SS)} {t : Value → Sem Value} (h1 : EvOK g Γ lv x f1) (ho : Op1OK g lv t F)
    {α : List Addr} {ext : List (Addr × Obj)} {G : List GenState} {st st' : PS} {v : MV} {s : Shared} {Q E : Value → Shared → Prop} (hf : un1F f1 F st = some (v, st')) (hR : Rel c α ext G st s)
    (hQ : ∀ w, After c α ext G s st' fun α' s' => VOK g.q α' v w → Q w s') :
    wpAny (model g.prog g.w) c.A (eval x c.env) (fun a s₁ => wpAny (model g.prog g.w) c.A (t a) Q E s₁) E s := by
  obtain ⟨a, st1, ss, e1, e3, rfl⟩ := un1F_some hf
  refine h1 c hl α ext G st a st1 s _ E e1 hR fun w α1 s1 hs1 R1 ho1 va => ?_
  refine ho Γ c hl α1 ext G st1 a w v ss s1 Q E e3 va R1 fun w3 α3 s3 hs3 R3 ho3 v3 => ?_
  exact hQ w3 α3 s3 (hs1.trans hs3) R3 (ho3.trans ho1) v3
theorem EvOK.un {x : Expr} {op : UnaryOp} {pos : Pos} {f1 : PS → Option (MV × PS)} {F : MV → SS → Option (MV × SS)} (h1 : EvOK g Γ lv x f1) (ho : Op1OK g lv (unaryOp op) F) :
    EvOK g Γ lv (.UnaryOp op x pos) (un1F f1 F) := by
  intro c hl α ext G st v st' s Q E hf hR hQ
  exact UnaryOp_ (un1_core hl h1 ho hf hR hQ)
theorem EvOK.sub {x y : Expr} {pos : Pos} {f1 f2 : PS → Option (MV × PS)} {F : MV → MV → SS → Option (MV × SS)} (h1 : EvOK g Γ lv x f1) (h2 : EvOK g Γ lv y f2) (ho : Op2OK g lv (subscriptTail x y) F) :
    EvOK g Γ lv (.Subscript x y pos) (binF f1 f2 F) := by
  intro c hl α ext G st v st' s Q E hf hR hQ
  exact Subscript_ (bin_core hl h1 h2 ho hf hR hQ)
/-! lists of arguments -/
noncomputable def EvsOK (g : Gl) (Γ : Sta) (lv : Nat) (xs : List Expr) (f : PS → Option (List MV × PS)) : Prop :=
  ∀ (c : Cx g Γ), lv ≤ c.lvl → ∀ α ext G st vs st' s Q E pos, f st = some (vs, st') → Rel c α ext G st s →
    (∀ ws, After c α ext G s st' fun α' s' => VsOK g.q α' vs ws → Q ws s') →
    wpAny (model g.prog g.w) c.A (spliced (backTo pos (starEach xs c.env))) Q E s
noncomputable def nilF : PS → Option (List MV × PS) := fun st => some ([], st)
theorem EvsOK.nil : EvsOK g Γ lv [] nilF := by
  intro c hl α ext G st vs st' s Q E pos hf hR hQ
  exact spliced_none (som2 (P := fun vs st' => ∀ ws, After c α ext G s st' fun α' s' => VsOK g.q α' vs ws → Q ws s') hf hQ [] α s (List.suffix_refl _) hR rfl .nil)
noncomputable def consF (f1 : PS → Option (MV × PS)) (f2 : PS → Option (List MV × PS)) : PS → Option (List MV × PS) := fun st => match f1 st with
  | .none => .none
  | some (a, st1) => match f2 st1 with
    | .none => .none
    | some (vs, st2) => some (a :: vs, st2)
noncomputable def unStarred : Expr → Bool
  | .Starred _ _ => false
  | _ => true
theorem starEach_un {x : Expr} {xs : List Expr} {env : Env} (h : unStarred x = true) : starEach (x :: xs) env = (false, eval x env) :: starEach xs env := by
  cases x <;> first | rfl | exact ff h
set_option smartUnfolding false in
theorem consF_el {f1 : PS → Option (MV × PS)} {f2 : PS → Option (List MV × PS)} {st st' : PS} {vs : List MV} {P : Prop} (h : consF f1 f2 st = some (vs, st')) (k : ∀ a st1 vs2, f1 st = some (a, st1) → f2 st1 = some (vs2, st') → a :: vs2 = vs → P) : P := by
  unfold consF at h
  refine eop h fun a st1 e1 h => ?_
  refine eop h fun vs2 st2 e2 h => ?_
  have h := Prod.mk.inj (Option.some.inj h)
  exact k a st1 vs2 e1 (h.2 ▸ e2) h.1
theorem EvsOK.cons {x : Expr} {xs : List Expr} {f1 : PS → Option (MV × PS)} {f2 : PS → Option (List MV × PS)} (h1 : EvOK g Γ lv x f1) (h2 : EvsOK g Γ lv xs f2) (hu : unStarred x = true) : EvsOK g Γ lv (x :: xs) (consF f1 f2) := by
  intro c hl α ext G st vs st' s Q E pos hf hR hQ
  refine consF_el hf fun a st1 vs2 e1 e2 ev => ?_
  refine spliced_more (h1 c hl α ext G st a st1 s _ E e1 hR fun w α1 s1 hs1 R1 ho1 va => ?_) (starEach_un hu)
  refine h2 c hl α1 ext G st1 vs2 st' s1 _ E pos e2 R1 fun ws α2 s2 hs2 R2 ho2 vv => ?_
  exact hQ (w :: ws) α2 s2 (hs1.trans hs2) R2 (ho2.trans ho1) (ev ▸ .cons (va.mono hs2) vv)
/-! calls by a global name -/
noncomputable def callF (f : PS → Option (List MV × PS)) (F : List MV → SS → Option (MV × SS)) : PS → Option (MV × PS) := fun st => match f st with
  | .none => .none
  | some (vs, st1) => match F vs st1.ss with
    | .none => .none
    | some (v, ss) => some (v, { st1 with ss := ss })
inductive callFAt (f1 : PS → Option (List MV × PS)) (F : List MV → SS → Option (MV × SS)) (st st' : PS) (v : MV) : Prop
  | mk (a : List MV) (st1 : PS) (ss : SS) (h1 : f1 st = some (a, st1)) (h2 : F a st1.ss = some (v, ss)) (h3 : st' = { st1 with ss := ss })
set_option smartUnfolding false in
theorem callF_some {f1 : PS → Option (List MV × PS)} {F : List MV → SS → Option (MV × SS)} {st st' : PS} {v : MV} (h : callF f1 F st = some (v, st')) : callFAt f1 F st st' v := by
  unfold callF at h
  refine eop h fun a st1 e1 h => ?_
  refine eop h fun v' ss e3 h => ?_
  have h := Prod.mk.inj (Option.some.inj h)
  exact ⟨a, st1, ss, e1, h.1 ▸ e3, h.2.symm⟩
theorem call_core {c : Cx g Γ} (hl : lv ≤ c.lvl) {xs : List Expr} {f1 : PS → Option (List MV × PS)} {F : List MV → SS → Option (MV × SS)} {t : List Value → Sem Value} (h1 : EvsOK g Γ lv xs f1) (ho : OpNOK g lv t F)
    {α : List Addr} {ext : List (Addr × Obj)} {G : List GenState} {st st' : PS} {v : MV} {s : Shared} {Q E : Value → Shared → Prop} {pos : Pos} {P : Shared → Prop} (hf : callF f1 F st = some (v, st')) (hR : Rel c α ext G st s)
    (hP : ∀ α' st' s', Rel c α' ext G st' s' → P s')
    (hQ : ∀ w, After c α ext G s st' fun α' s' => VOK g.q α' v w → Q w s') :
    wpAny (model g.prog g.w) c.A (spliced (backTo pos (starEach xs c.env))) (fun ws s₁ => P s₁ ∧ wpAny (model g.prog g.w) c.A (t ws) Q E s₁) E s := by
  obtain ⟨a, st1, ss, e1, e3, rfl⟩ := callF_some hf
  refine h1 c hl α ext G st a st1 s _ E pos e1 hR fun w α1 s1 hs1 R1 ho1 va => ⟨hP _ _ _ R1, ?_⟩
  refine ho Γ c hl α1 ext G st1 a w v ss s1 Q E e3 va R1 fun w3 α3 s3 hs3 R3 ho3 v3 => ?_
  exact hQ w3 α3 s3 (hs1.trans hs3) R3 (ho3.trans ho1) v3
noncomputable def FunAt (h : Heap) (a : Addr) : Prop := ∃ o fd, h.get? a = some o ∧ o.data = .func fd
theorem EvOK.callFn {x : Str} {a : Addr} {e : Expr} {es : List Expr} {p pos : Pos} {f : PS → Option (List MV × PS)} {F : List MV → SS → Option (MV × SS)} (hg : ∀ h, g.B h → GlobV h x (.ref a)) (hfn : ∀ h, g.B h → FunAt h a)
    (hk : Γ.scope.names.lookup x = some .globalImplicit) (hd : (x == ("__debug__" : Str)) = false) (ho : OpNOK g lv (fun ws => call (.ref a) ws) F) (hs : EvsOK g Γ lv (e :: es) f) (hu : unStarred e = true) :
    EvOK g Γ lv (.Call (.Name x p) (e :: es) [] pos) (callF f F) := by
  intro c hl α ext G st v st' s Q E hf hR hQ
  refine Call_ (glob_name hR hg hk hd ?_) rfl
  obtain ⟨o, fd, h1, h2⟩ := hfn c.h₀ c.hB
  exact callWith_def_at h1 h2 (call_core hl hs ho hf hR (fun _ _ s' ⟨_, _, _, R'⟩ => R'.F.keep _ _ h1) hQ) (starEach_un hu)
theorem noStars : ∀ (es : List Expr) (env : Env) (pos : Pos), (es.all unStarred) = true → ((backTo pos (starEach es env)).any fun x => x.fst) = false
  | [], _, _, _ => rfl
  | e :: es, env, pos, h => by
    rw [List.all_cons, Bool.and_eq_true] at h
    rw [starEach_un h.1]
    show (false || (backTo pos (starEach es env)).any _) = false
    rw [Bool.false_or]
    exact noStars es env pos h.2
theorem EvOK.callBlt {x : Str} {id : String} {e : Expr} {es : List Expr} {p pos : Pos} {f : PS → Option (List MV × PS)} {F : List MV → SS → Option (MV × SS)} (hg : ∀ h, g.B h → GlobV h x (.builtin id))
    (hk : Γ.scope.names.lookup x = some .globalImplicit) (hd : (x == ("__debug__" : Str)) = false) (ho : OpNOK g lv (fun ws => call (.builtin id) ws) F) (hs : EvsOK g Γ lv (e :: es) f) (hu : unStarred e = true) (hus : es.all unStarred = true) :
    EvOK g Γ lv (.Call (.Name x p) (e :: es) [] pos) (callF f F) := by
  intro c hl α ext G st v st' s Q E hf hR hQ
  refine Call_ (glob_name hR hg hk hd ?_) rfl
  exact PyProof.Rows.callWith_builtin1 (wpAny_mono (call_core (P := fun _ => True) hl hs ho hf hR (fun _ _ _ _ => trivial) hQ) (fun _ _ h => h.2) fun _ _ h => h) (starEach_un hu) (noStars _ _ _ hus)
theorem EvOK.callTy {x : Str} {T : String} {e : Expr} {es : List Expr} {p pos : Pos} {f : PS → Option (List MV × PS)} {F : List MV → SS → Option (MV × SS)} (hg : ∀ h, g.B h → GlobV h x (.type T))
    (hk : Γ.scope.names.lookup x = some .globalImplicit) (hd : (x == ("__debug__" : Str)) = false) (ho : OpNOK g lv (fun ws => call (.type T) ws) F) (hs : EvsOK g Γ lv (e :: es) f) (hu : unStarred e = true) (hus : es.all unStarred = true) :
    EvOK g Γ lv (.Call (.Name x p) (e :: es) [] pos) (callF f F) := by
  intro c hl α ext G st v st' s Q E hf hR hQ
  refine Call_ (glob_name hR hg hk hd ?_) rfl
  exact PyProof.Rows.callWith_type1 (wpAny_mono (call_core (P := fun _ => True) hl hs ho hf hR (fun _ _ _ _ => trivial) hQ) (fun _ _ h => h.2) fun _ _ h => h) (starEach_un hu) (noStars _ _ _ hus)
/-! displays -/
noncomputable def listD (vs : List MV) (ss : SS) : Option (MV × SS) := some (.ref ss.n, ⟨ss.n + 1, .list vs :: ss.sto⟩)
theorem VsOK.length {q : Int} {α : List Addr} {vs : List MV} {ws : List Value} (h : VsOK q α vs ws) : ws.length = vs.length := by
  induction h with
  | nil => rfl
  | cons _ _ ih => simp [ih]
theorem Rel.ref {c : Cx g Γ} {α : List Addr} {ext : List (Addr × Obj)} {G : List GenState} {st : PS} {s : Shared} {m : Str → Option Value} {led bl : List (Addr × Obj)} (R : RelX c α ext G st s m led bl) (l : Addr) :
    VOK g.q (l :: α) (.ref st.ss.n) (.ref l) := by
  have : α.length = st.ss.n := by rw [← R.la, List.length_map, R.lo.length, R.nn]
  show fromEnd (l :: α).length (l :: α) st.ss.n = some l
  rw [List.length_cons, this]
  exact fromEnd_new _ _ _
end Mine
end P2
section P3
open PySem PySem.W PyProof.Rows PySem.Calls PySem.Spec
namespace Mine
variable {g : Gl} {Γ : Sta} {lv : Nat}
noncomputable def setE {β : Type} (n : Nat) (l : List β) (k : Nat) (x : β) : List β := l.set (n - 1 - k) x
theorem upd_of_nodup {a : Addr} {o o' : Obj} : ∀ {led rest : List (Addr × Obj)} {i : Nat}, ((led ++ rest).map (·.1)).Nodup → led[i]? = some (a, o) → Upd a o o' (led ++ rest) (led.set i (a, o') ++ rest)
  | [], _, _, _, h => by simp at h
  | p :: led, rest, 0, nd, h => by
    simp at h; subst h
    refine Upd.head fun q hq e => ?_
    simp only [List.cons_append, List.map_cons, List.nodup_cons] at nd
    exact nd.1 (List.mem_map.mpr ⟨q, hq, e⟩)
  | p :: led, rest, i + 1, nd, h => by
    simp at h
    simp only [List.cons_append, List.map_cons, List.nodup_cons] at nd
    have hm : (a, o) ∈ led ++ rest := List.mem_append_left _ (List.mem_of_getElem? h)
    exact Upd.tail (fun e => nd.1 (List.mem_map.mpr ⟨_, hm, e.symm⟩)) (upd_of_nodup nd.2 h)
theorem map_fst_set {led : List (Addr × Obj)} {i : Nat} {a : Addr} {o o' : Obj} (h : led[i]? = some (a, o)) : (led.set i (a, o')).map (·.1) = led.map (·.1) := by
  rw [List.map_set]
  apply List.ext_getElem?
  intro j
  rw [List.getElem?_set]
  split
  · rename_i e; subst e
    rw [List.getElem?_map, h]
    split
    · rfl
    · rename_i hj
      exact absurd (by simpa using (List.getElem?_eq_some_iff.mp h).1) hj
  · rfl
section rel
variable {c : Cx g Γ} {α : List Addr} {ext : List (Addr × Obj)} {G : List GenState} {st : PS} {s : Shared} {m : Str → Option Value} {led bl : List (Addr × Obj)}
theorem RelX.upd (R : RelX c α ext G st s m led bl) {k i : Nat} {a : Addr} {o o' : Obj} {mo' : MO} (hi : i = st.ss.n - 1 - k) (hl : led[i]? = some (a, o)) (ho : ObjOK g.q α mo' o') {h' : Heap} {tk : Nat}
    (F : Fr c.h₀ c.L h' m) (N : News c.h₀ c.L h' (led.set i (a, o') ++ (bl ++ ext))) (ht : 0 < tk) : Rel c α ext G { st with ss := ⟨st.ss.n, setE st.ss.n st.ss.sto k mo'⟩ } { s with heap := h', toks := tk } := by
  subst hi
  refine ⟨m, _, bl, F, N, ?_, (map_fst_set hl).trans R.la, R.lo.set ho fun p hp => by rw [hl] at hp; cases hp; rfl, ?_, R.bk, R.ce, R.ge, R.ba, R.tb, ht⟩
  · rw [List.map_append, map_fst_set hl, ← List.map_append]; exact R.nd
  · show st.ss.n = (st.ss.sto.set _ _).length
    rw [List.length_set]; exact R.nn
theorem RelX.sameBut (R : RelX c α ext G st s m led bl) {i : Nat} {a : Addr} {o o' : Obj} (hl : led[i]? = some (a, o)) {h' : Heap} (hs : Heap.SameBut a s.heap h') (ho : h'.get? a = some o') :
    Fr c.h₀ c.L h' m ∧ News c.h₀ c.L h' (led.set i (a, o') ++ (bl ++ ext)) := by
  have hm : (a, o) ∈ led ++ (bl ++ ext) := List.mem_append_left _ (List.mem_of_getElem? hl)
  obtain ⟨_, hL, h0⟩ := R.N _ hm
  refine ⟨⟨R.F.ns.sameBut hs (Ne.symm hL), fun b ob e => (hs.2 b fun q => ?_).trans (R.F.keep b ob e), R.F.above⟩, ?_⟩
  · rw [q, h0] at e; cases e
  · obtain ⟨pre, post, e1, e2, n1, n2⟩ := (upd_of_nodup (o' := o') R.nd hl).split
    rw [e2]
    have N := R.N
    rw [e1] at N
    exact N.setAt n1 n2 hs ho
theorem LocOK.put {q : Int} {names : List Str} {m' : Str → Option Value} {loc : List (Option MV)} (hl : LocOK q α names m' loc) {x : Str} {i : Nat} {v : MV} {w : Value} (hn : names[i]? = some x) (hnd : names.Nodup) (hv : VOK q α v w) :
    LocOK q α names (fun y => if y = x then some w else m' y) (loc.set i (some v)) := by
  intro j y u hj hu
  by_cases e : i = j
  · subst e
    have hx : x = y := Option.some.inj (hn.symm.trans hj)
    rw [List.getElem?_set_self' ] at hu
    cases e2 : loc[i]? with
    | none => rw [e2] at hu; exact nn hu
    | some _ => rw [e2] at hu; exact ⟨w, if_pos hx.symm, Option.some.inj (Option.some.inj hu) ▸ hv⟩
  · rw [List.getElem?_set_ne e] at hu
    exact (hl j y u hj hu).elim fun w' h => ⟨w', (if_neg fun q : y = x => e ((List.getElem?_inj (List.getElem?_eq_some_iff.mp hn).1 hnd).mp (hn.trans ((congrArg some q.symm).trans hj.symm)))).trans h.1, h.2⟩
theorem BlkOK.mk0 {loc : List (Option MV)} {m' : Str → Option Value} (e : c.blk = none) (h : LocOK g.q α Γ.names m' loc) : BlkOK c α loc m' [] := by
  unfold BlkOK; rw [e]; exact ⟨rfl, h⟩
theorem BlkOK.mk1 {loc : List (Option MV)} {m0 m' : Str → Option Value} {a : Addr} {o : Obj} {es : Array DictEntry} {ep : Nat} (e : c.blk = some a) (hm : m0 = c.bm) (h1 : o.data = .dict es ep) (h2 : StrKeys es) (h3 : ∀ name, nsFind es name = m' name) (h : LocOK g.q α Γ.names m' loc) : BlkOK c α loc m0 [(a, o)] := by
  unfold BlkOK; rw [e]; exact ⟨hm, o, es, ep, m', rfl, h1, h2, h3, h⟩
theorem blk_nodup {l e : List (Addr × Obj)} {a : Addr} {o : Obj} (h : ((l ++ ([(a, o)] ++ e)).map (·.1)).Nodup) : a ∉ l.map (·.1) ∧ a ∉ e.map (·.1) := by
  rw [List.map_append, List.nodup_append] at h
  exact ⟨fun q => h.2.2 a q a List.mem_cons_self rfl, (List.nodup_cons.mp h.2.1).1⟩
theorem blk_nodup2 {l e : List (Addr × Obj)} {a : Addr} {o : Obj} (o' : Obj) (h : ((l ++ ([(a, o)] ++ e)).map (·.1)).Nodup) : ((l ++ ([(a, o')] ++ e)).map (·.1)).Nodup := by
  rw [List.map_append] at h ⊢; exact h
/-- a name of the block's own is stored -/
theorem Rel.store (R : Rel c α ext G st s) {x : Str} {i : Nat} {v : MV} {w : Value} {Q : Unit → Shared → Prop} {E : Value → Shared → Prop} (hn : Γ.names[i]? = some x) (hnd : Γ.names.Nodup) (hk : Γ.scope.names.lookup x = some .local)
    (hv : VOK g.q α v w) (hQ : ∀ s', Rel c α ext G { st with loc := st.loc.set i (some v) } s' → s'.os = s.os → Q () s') : wpAny (model g.prog g.w) c.A (storeName c.env x w) Q E s := by
  cases R with | mk m led bl R =>
  have hcl : (c.env.scope.kind == .class || (c.env.scope.kind == .module && c.env.locals != c.env.globals)) = false := by rw [c.fk]; rfl
  refine R.bk.el (fun e eb hlo => ?_) fun a o es ep m' e hbm eb e2 e3 e4 e5 => ?_
  · subst eb
    refine wpAny_storeName_local ((c.kind x).trans hk) (by rw [c.hfl e]; exact R.F.ns) (fun h' hns hs => hQ _ ?_ rfl) hcl
    rw [c.hfl e] at hns hs
    exact ⟨_, led, [], R.F.set hns hs, R.N.set hs, R.nd, R.la, R.lo, R.nn, BlkOK.mk0 e (hlo.put hn hnd hv), R.ce, R.ge, R.ba, R.tb, Nat.succ_pos _⟩
  · subst eb
    have hm : (a, o) ∈ led ++ ([(a, o)] ++ ext) := List.mem_append_right _ (List.mem_append_left _ List.mem_cons_self)
    have hN := R.N _ hm
    refine wpAny_storeName_local ((c.kind x).trans hk) (by rw [c.hbl a e]; exact ⟨o, es, ep, hN.1, e2, e3, e4⟩) (fun h' hns hs => hQ _ ?_ rfl) hcl
    rw [c.hbl a e] at hns hs
    refine hns.elim fun o' h => h.elim fun es' h => h.elim fun ep' h => ?_
    have nd := blk_nodup R.nd
    exact ⟨m, led, [(a, o')], ⟨R.F.ns.sameBut hs (Ne.symm hN.2.1), fun b ob e => (hs.2 b fun q => by rw [q, hN.2.2] at e; exact nn e).trans (R.F.keep b ob e), R.F.above⟩,
      News.setAt (o := o) (rest := ext) R.N (fun p hp q => nd.1 (List.mem_map.mpr ⟨p, hp, q⟩)) (fun p hp q => nd.2 (List.mem_map.mpr ⟨p, hp, q⟩)) hs h.1, blk_nodup2 o' R.nd, R.la, R.lo, R.nn, BlkOK.mk1 e hbm h.2.1 h.2.2.1 h.2.2.2 (e5.put hn hnd hv), R.ce, R.ge, R.ba, R.tb, Nat.succ_pos _⟩
/-- a name that stands in a cell is stored -/
theorem Rel.storeC (R : Rel c α ext G st s) {x : Str} {i k : Nat} {v : MV} {v₀ : Option MV} {w : Value} {Q : Unit → Shared → Prop} {E : Value → Shared → Prop} (hn : Γ.cnames[i]? = some x) (hk : Γ.scope.names.lookup x = some .cell)
    (hc : st.cel[i]? = some k) (hcell : fromEnd st.ss.n st.ss.sto k = some (.cell v₀))
    (hv : VOK g.q α v w) (hQ : ∀ s', Rel c α ext G { st with ss := ⟨st.ss.n, setE st.ss.n st.ss.sto k (.cell (some v))⟩ } s' → s'.os = s.os → Q () s') : wpAny (model g.prog g.w) c.A (storeName c.env x w) Q E s := by
  cases R with | mk m led bl R =>
  refine (R.ce i x k hn hc).elim fun a ha => ?_
  cases R.old hcell with | mk a' o j _ hj hled h3 h4 h6 =>
  have ea : a = a' := Option.some.inj (ha.2.symm.trans h3)
  subst ea
  have hic : ∃ y, s.heap.IsCell a y := by
    cases v₀ with
    | none => exact ⟨_, o, h6, h4⟩
    | some v₁ => cases (show CllOK _ _ _ _ from h4) with | mk w₁ e1 _ => exact ⟨_, o, h6, e1⟩
  refine hic.elim fun y hic => wpAny_storeName_cell c.fk ((c.kind x).trans hk) ha.1 hic fun h' hv' hs => ?_
  refine hv'.elim fun o' ho' => ?_
  have FN := R.sameBut hled hs ho'.1
  exact hQ _ (R.upd hj hled (mo' := .cell (some v)) ⟨w, ho'.2, hv⟩ FN.1 FN.2 R.tk) rfl
end rel
/-! statements -/
inductive FL where
  | next
  | brk
  | cont
  | ret (v : MV)
noncomputable def FOK (q : Int) (α : List Addr) : FL → Flow → Prop
  | .next, .next => True
  | .brk, .brk => True
  | .cont, .cont => True
  | .ret v, .ret w => VOK q α v w
  | _, _ => False
noncomputable def ExOK (g : Gl) (Γ : Sta) (lv : Nat) (x : Stmt) (f : PS → Option (FL × PS)) : Prop :=
  ∀ (c : Cx g Γ), lv ≤ c.lvl → ∀ α ext G st v st' s Q E, f st = some (v, st') → Rel c α ext G st s →
    (∀ w, After c α ext G s st' fun α' s' => FOK g.q α' v w → Q w s') →
    wpAny (model g.prog g.w) c.A (exec x c.env) Q E s
noncomputable def ExsOK (g : Gl) (Γ : Sta) (lv : Nat) (xs : List Stmt) (f : PS → Option (FL × PS)) : Prop :=
  ∀ (c : Cx g Γ), lv ≤ c.lvl → ∀ α ext G st v st' s Q E, f st = some (v, st') → Rel c α ext G st s →
    (∀ w, After c α ext G s st' fun α' s' => FOK g.q α' v w → Q w s') →
    wpAny (model g.prog g.w) c.A (execs xs c.env) Q E s
noncomputable def IsOK (g : Gl) (Γ : Sta) (lv : Nat) (x : Expr) (f : PS → Option (Bool × PS)) : Prop :=
  ∀ (c : Cx g Γ), lv ≤ c.lvl → ∀ α ext G st b st' s Q E, f st = some (b, st') → Rel c α ext G st s →
    (After c α ext G s st' fun _ s' => Q b s') →
    wpAny (model g.prog g.w) c.A (isTrue x c.env (eval x c.env)) Q E s
noncomputable def FetP {g : Gl} {Γ : Sta} (c : Cx g Γ) (α : List Addr) (ext : List (Addr × Obj)) (G : List GenState) (s : Shared) (Q : Flow → Shared → Prop) (v : FL) (st' : PS) : Prop :=
  ∀ w, After c α ext G s st' fun α' s' => FOK g.q α' v w → Q w s'
noncomputable def passF : PS → Option (FL × PS) := fun st => some (.next, st)
theorem ExsOK.nil : ExsOK g Γ lv [] passF := by
  intro c hl α ext G st v st' s Q E hf hR hQ
  exact wpAny_execs_nil (som2 (P := FetP c α ext G s Q) hf hQ .next α s (List.suffix_refl _) hR rfl trivial)
noncomputable def seqF (f1 f2 : PS → Option (FL × PS)) : PS → Option (FL × PS) := fun st => match f1 st with
  | .none => .none
  | some (r, st1) => match r with
    | .next => f2 st1
    | r => some (r, st1)
set_option smartUnfolding false in
theorem ExsOK.cons {x : Stmt} {xs : List Stmt} {f1 f2 : PS → Option (FL × PS)} (h1 : ExOK g Γ lv x f1) (h2 : ExsOK g Γ lv xs f2) : ExsOK g Γ lv (x :: xs) (seqF f1 f2) := by
  intro c hl α ext G st v st' s Q E hf hR hQ
  unfold seqF at hf
  refine eop hf fun r st1 e1 hf => ?_
  refine wpAny_execs_cons (h1 c hl α ext G st r st1 s _ E e1 hR fun w α1 s1 hs1 R1 ho1 va => ?_)
  cases r with
  | next =>
    cases w <;> first | exact False.elim va | skip
    exact h2 c hl α1 ext G st1 v st' s1 Q E hf R1 fun w α2 s2 hs2 R2 ho2 vv => hQ w α2 s2 (hs1.trans hs2) R2 (ho2.trans ho1) vv
  | brk => cases w <;> first | exact False.elim va | exact som2 (P := FetP c α ext G s Q) hf hQ .brk α1 s1 hs1 R1 ho1 va
  | cont => cases w <;> first | exact False.elim va | exact som2 (P := FetP c α ext G s Q) hf hQ .cont α1 s1 hs1 R1 ho1 va
  | ret v => cases w <;> first | exact False.elim va | exact som2 (P := FetP c α ext G s Q) hf hQ (.ret _) α1 s1 hs1 R1 ho1 va
noncomputable def retF (f : PS → Option (MV × PS)) : PS → Option (FL × PS) := fun st => match f st with
  | .none => .none
  | some (v, st1) => some (.ret v, st1)
set_option smartUnfolding false in
theorem ExOK.ret {x : Expr} {pos : Pos} {f : PS → Option (MV × PS)} (h : EvOK g Γ lv x f) : ExOK g Γ lv (.Return (some x) pos) (retF f) := by
  intro c hl α ext G st v st' s Q E hf hR hQ
  unfold retF at hf
  refine eop hf fun v st1 e1 hf => ?_
  exact wpAny_Return_some (h c hl α ext G st _ _ s _ E e1 hR fun w α1 s1 hs1 R1 ho1 va => som2 (P := FetP c α ext G s Q) hf hQ (.ret w) α1 s1 hs1 R1 ho1 va)
noncomputable def ifF (t : PS → Option (Bool × PS)) (f1 f2 : PS → Option (FL × PS)) : PS → Option (FL × PS) := fun st => match t st with
  | .none => .none
  | some (true, st1) => f1 st1
  | some (false, st1) => f2 st1
set_option smartUnfolding false in
theorem ExOK.ite {x : Expr} {b o : List Stmt} {pos : Pos} {t : PS → Option (Bool × PS)} {f1 f2 : PS → Option (FL × PS)} (ht : IsOK g Γ lv x t) (h1 : ExsOK g Γ lv b f1) (h2 : ExsOK g Γ lv o f2) : ExOK g Γ lv (.If x b o pos) (ifF t f1 f2) := by
  intro c hl α ext G st v st' s Q E hf hR hQ
  unfold ifF at hf
  refine eob hf (fun st1 e1 hf => ?_) fun st1 e1 hf => ?_
  · refine wpAny_If (ht c hl α ext G st _ st1 s _ E e1 hR fun α1 s1 hs1 R1 ho1 => ?_)
    exact h1 c hl α1 ext G st1 v st' s1 Q E hf R1 fun w α2 s2 hs2 R2 ho2 vv => hQ w α2 s2 (hs1.trans hs2) R2 (ho2.trans ho1) vv
  · refine wpAny_If (ht c hl α ext G st _ st1 s _ E e1 hR fun α1 s1 hs1 R1 ho1 => ?_)
    exact h2 c hl α1 ext G st1 v st' s1 Q E hf R1 fun w α2 s2 hs2 R2 ho2 vv => hQ w α2 s2 (hs1.trans hs2) R2 (ho2.trans ho1) vv
noncomputable def iteF (t : PS → Option (Bool × PS)) (f1 f2 : PS → Option (MV × PS)) : PS → Option (MV × PS) := fun st => match t st with
  | .none => .none
  | some (true, st1) => f1 st1
  | some (false, st1) => f2 st1
set_option smartUnfolding false in
theorem EvOK.ite {x b o : Expr} {pos : Pos} {t : PS → Option (Bool × PS)} {f1 f2 : PS → Option (MV × PS)} (ht : IsOK g Γ lv x t) (h1 : EvOK g Γ lv b f1) (h2 : EvOK g Γ lv o f2) : EvOK g Γ lv (.IfExp x b o pos) (iteF t f1 f2) := by
  intro c hl α ext G st v st' s Q E hf hR hQ
  unfold iteF at hf
  refine eob hf (fun st1 e1 hf => ?_) fun st1 e1 hf => ?_
  · refine IfExp_ (ht c hl α ext G st _ st1 s _ E e1 hR fun α1 s1 hs1 R1 ho1 => ?_)
    exact h1 c hl α1 ext G st1 v st' s1 Q E hf R1 fun w α2 s2 hs2 R2 ho2 vv => hQ w α2 s2 (hs1.trans hs2) R2 (ho2.trans ho1) vv
  · refine IfExp_ (ht c hl α ext G st _ st1 s _ E e1 hR fun α1 s1 hs1 R1 ho1 => ?_)
    exact h2 c hl α1 ext G st1 v st' s1 Q E hf R1 fun w α2 s2 hs2 R2 ho2 vv => hQ w α2 s2 (hs1.trans hs2) R2 (ho2.trans ho1) vv
noncomputable def exprF (f : PS → Option (MV × PS)) : PS → Option (FL × PS) := fun st => match f st with
  | .none => .none
  | some (_, st1) => some (.next, st1)
set_option smartUnfolding false in
theorem ExOK.expr {x : Expr} {pos : Pos} {f : PS → Option (MV × PS)} (h : EvOK g Γ lv x f) (hsw : ∀ env, swapsWith x none pos.line env = pure false) : ExOK g Γ lv (.Expr x pos) (exprF f) := by
  intro c hl α ext G st v st' s Q E hf hR hQ
  unfold exprF at hf
  refine eop hf fun v st1 e1 hf => ?_
  refine wpAny_Expr_any (h c hl α ext G st _ _ s _ E e1 hR fun w α1 s1 hs1 R1 ho1 va => som2 (P := FetP c α ext G s Q) hf hQ .next α1 s1 hs1 R1 ho1 trivial) ?_ (hsw _)
  unfold interactive
  rw [c.fk]
  rfl
/-! assignments -/
noncomputable def asgF (f : PS → Option (MV × PS)) (i : Nat) : PS → Option (FL × PS) := fun st => match f st with
  | .none => .none
  | some (v, st1) => some (.next, { st1 with loc := st1.loc.set i (some v) })
set_option smartUnfolding false in
theorem ExOK.asg {x : Str} {e : Expr} {pos p : Pos} {i : Nat} {f : PS → Option (MV × PS)} (h : EvOK g Γ lv e f) (hn : Γ.names[i]? = some x) (hnd : Γ.names.Nodup) (hk : Γ.scope.names.lookup x = some .local)
    (hsw : ∀ env, swapsWith e (some (.Name x p)) pos.line env = pure false) : ExOK g Γ lv (.Assign [.Name x p] e pos) (asgF f i) := by
  intro c hl α ext G st v st' s Q E hf hR hQ
  unfold asgF at hf
  refine eop hf fun v st1 e1 hf => ?_
  refine wpAny_Assign_Name (h c hl α ext G st _ _ s _ E e1 hR fun w α1 s1 hs1 R1 ho1 va => ?_) (hsw _)
  exact R1.store hn hnd hk va fun s2 R2 ho2 => som2 (P := FetP c α ext G s Q) hf hQ .next α1 s2 hs1 R2 (ho2.trans ho1) trivial
noncomputable def setCel (st : PS) (i : Nat) (v : MV) : Option PS := match st.cel[i]? with
  | .none => .none
  | some k => match fromEnd st.ss.n st.ss.sto k with
    | some (.cell _) => some { st with ss := ⟨st.ss.n, setE st.ss.n st.ss.sto k (.cell (some v))⟩ }
    | _ => .none
set_option smartUnfolding false in
theorem Rel.setCel {c : Cx g Γ} {α : List Addr} {ext : List (Addr × Obj)} {G : List GenState} {st st' : PS} {s : Shared} (R : Rel c α ext G st s) {x : Str} {i : Nat} {v : MV} {w : Value} {Q : Unit → Shared → Prop} {E : Value → Shared → Prop} (hn : Γ.cnames[i]? = some x) (hk : Γ.scope.names.lookup x = some .cell)
    (hf : setCel st i v = some st') (hv : VOK g.q α v w) (hQ : ∀ s', Rel c α ext G st' s' → s'.os = s.os → Q () s') : wpAny (model g.prog g.w) c.A (storeName c.env x w) Q E s := by
  unfold Mine.setCel at hf
  refine eo hf fun k hc hf => ?_
  refine emo_cell hf fun v₀ ho hf => ?_
  exact R.storeC hn hk hc ho hv (Option.some.inj hf ▸ hQ)
noncomputable def asgCF (f : PS → Option (MV × PS)) (i : Nat) : PS → Option (FL × PS) := fun st => match f st with
  | .none => .none
  | some (v, st1) => match setCel st1 i v with
    | .none => .none
    | some st2 => some (.next, st2)
set_option smartUnfolding false in
theorem ExOK.asgC {x : Str} {e : Expr} {pos p : Pos} {i : Nat} {f : PS → Option (MV × PS)} (h : EvOK g Γ lv e f) (hn : Γ.cnames[i]? = some x) (hk : Γ.scope.names.lookup x = some .cell)
    (hsw : ∀ env, env.kindOf x = some .cell → swapsWith e (some (.Name x p)) pos.line env = pure false) : ExOK g Γ lv (.Assign [.Name x p] e pos) (asgCF f i) := by
  intro c hl α ext G st v st' s Q E hf hR hQ
  unfold asgCF at hf
  refine eop hf fun v st1 e1 hf => ?_
  refine eo hf fun st2 e2 hf => ?_
  refine wpAny_Assign_Name (h c hl α ext G st _ _ s _ E e1 hR fun w α1 s1 hs1 R1 ho1 va => ?_) (hsw _ ((c.kind x).trans hk))
  exact R1.setCel hn hk e2 va fun s2 R2 ho2 => som2 (P := FetP c α ext G s Q) hf hQ .next α1 s2 hs1 R2 (ho2.trans ho1) trivial
noncomputable def augF (i : Nat) (f : PS → Option (MV × PS)) (F : MV → MV → SS → Option (MV × SS)) : PS → Option (FL × PS) := asgF (binF (locF i) f F) i
set_option smartUnfolding false in
theorem ExOK.aug {x : Str} {e : Expr} {op : Operator} {pos p : Pos} {i : Nat} {f : PS → Option (MV × PS)} {F : MV → MV → SS → Option (MV × SS)} (h : EvOK g Γ lv e f) (ho : Op2OK g lv (inplaceOp op) F) (hn : Γ.names[i]? = some x) (hnd : Γ.names.Nodup) (hk : Γ.scope.names.lookup x = some .local) :
    ExOK g Γ lv (.AugAssign (.Name x p) op e pos) (augF i f F) := by
  intro c hl α ext G st v st' s Q E hf hR hQ
  unfold augF asgF at hf
  refine eop hf fun v st1 e1 hf => ?_
  cases binF_some e1 with | mk a st2 b st3 ss e2 e3 e4 e5 =>
  subst e5
  cases hR with | mk m led bl R =>
  refine locF_el e2 fun e5 es => R.ns fun m' hns hlo => (hlo i x a hn e5).elim fun w hw => ?_
  refine wpAny_AugAssign_Name (wpAny_loadName_local c.fk ((c.kind x).trans hk) hns hw.1 ?_)
  refine h c hl α ext G st b st3 s _ E (es ▸ e3) ⟨m, led, bl, R⟩ fun w2 α2 s2 hs2 R2 ho2 vb => ?_
  refine ho Γ c hl α2 ext G st3 a b w w2 v ss s2 _ E e4 (hw.2.mono hs2) vb R2 fun w3 α3 s3 hs3 R3 ho3 v3 => ?_
  exact R3.store hn hnd hk v3 fun s4 R4 ho4 => som2 (P := FetP c α ext G s Q) hf hQ .next α3 s4 (hs2.trans hs3) R4 (ho4.trans (ho3.trans ho2)) trivial
end Mine
end P3
section P4
open PySem PySem.W PyProof.Rows PySem.Calls PySem.Spec
namespace Mine
variable {g : Gl} {Γ : Sta} {lv : Nat}
inductive ObjAt (q : Int) (α : List Addr) (led : List (Addr × Obj)) (h : Heap) (n k : Nat) (mo : MO) (w : Value) : Prop
  | mk (a : Addr) (o : Obj) (i : Nat) (h1 : w = .ref a) (h2 : h.get? a = some o) (h3 : ObjOK q α mo o) (h4 : led[i]? = some (a, o)) (h5 : i = n - 1 - k)
section
variable {c : Cx g Γ} {α : List Addr} {ext : List (Addr × Obj)} {G : List GenState} {st : PS} {s : Shared} {m : Str → Option Value} {led bl : List (Addr × Obj)}
theorem RelX.objEl (R : RelX c α ext G st s m led bl) {k : Nat} {w : Value} {mo : MO} {P : Value → Prop} (hv : VOK g.q α (.ref k) w) (e : fromEnd st.ss.n st.ss.sto k = some mo)
    (kk : ∀ a o i, s.heap.get? a = some o → ObjOK g.q α mo o → led[i]? = some (a, o) → i = st.ss.n - 1 - k → P (.ref a)) : P w :=
  hv.ref_el fun a ha => by
    cases R.old e with | mk a' o j _ hj hl h3 h4 h6 =>
    have e : a = a' := Option.some.inj (ha.symm.trans h3)
    subst e
    exact kk a o j h6 h4 hl hj
theorem RelX.obj (R : RelX c α ext G st s m led bl) {k : Nat} {w : Value} {mo : MO} (hv : VOK g.q α (.ref k) w) (e : fromEnd st.ss.n st.ss.sto k = some mo) : ObjAt g.q α led s.heap st.ss.n k mo w :=
  R.objEl (P := ObjAt g.q α led s.heap st.ss.n k mo) hv e fun a o i h1 h2 h3 h4 => ⟨a, o, i, rfl, h1, h2, h3, h4⟩
end
theorem isList_of {h : Heap} {a : Addr} {ws : List Value} {n : Nat} (e : h.get? a = some (W.listOf ws.toArray n)) : h.IsList a ws.toArray := ⟨_, e, rfl, n, rfl⟩
/-! tests -/
noncomputable def listAt (ss : SS) (k : Nat) : Option (List MV) := match fromEnd ss.n ss.sto k with
  | some (.list vs) => some vs
  | _ => none
set_option smartUnfolding false in
theorem listAt_some {ss : SS} {k : Nat} {vs : List MV} (h : listAt ss k = some vs) : fromEnd ss.n ss.sto k = some (.list vs) := by
  unfold listAt at h
  exact emo_list h fun v e h => e.trans (congrArg (fun v => some (MO.list v)) (Option.some.inj h))
theorem RelX.listEl {c : Cx g Γ} {α : List Addr} {ext : List (Addr × Obj)} {G : List GenState} {st : PS} {s : Shared} {m : Str → Option Value} {led bl : List (Addr × Obj)} (R : RelX c α ext G st s m led bl)
    {k : Nat} {w : Value} {vs : List MV} {P : Value → Prop} (hv : VOK g.q α (.ref k) w) (e : listAt st.ss k = some vs)
    (kk : ∀ a ws n, s.heap.get? a = some (W.listOf ws.toArray n) → VsOK g.q α vs ws → ws.length = vs.length → P (.ref a)) : P w :=
  R.objEl hv (listAt_some e) fun a o i h1 h2 _ _ => by
    cases (show LstOK _ _ _ _ from h2) with | mk ws n e h =>
    subst e
    exact kk a ws n h1 h h.length
noncomputable def nonempty : List MV → Bool
  | [] => false
  | _ => true
theorem RelX.tupEl {c : Cx g Γ} {α : List Addr} {ext : List (Addr × Obj)} {G : List GenState} {st : PS} {s : Shared} {m : Str → Option Value} {led bl : List (Addr × Obj)} (R : RelX c α ext G st s m led bl)
    {k : Nat} {w : Value} {vs : List MV} {P : Value → Prop} (hv : VOK g.q α (.ref k) w) (e : fromEnd st.ss.n st.ss.sto k = some (.tuple vs))
    (kk : ∀ a ws, s.heap.IsTuple a ws.toArray → VsOK g.q α vs ws → ws.length = vs.length → P (.ref a)) : P w :=
  R.objEl hv e fun a o i h1 h2 _ _ => by
    cases (show TupOK _ _ _ _ from h2) with | mk ws n e h =>
    exact kk a ws ⟨_, h1, by rw [e], n, by rw [e]⟩ h h.length
theorem isList_empty {vs : List MV} {ws : List Value} (h : ws.length = vs.length) : (!ws.toArray.isEmpty) = nonempty vs := by
  cases vs with
  | nil => cases ws with
    | nil => rfl
    | cons _ _ => cases h
  | cons _ _ => cases ws with
    | nil => cases h
    | cons _ _ => rfl
theorem fits {n : Nat} (h : n < 1000000) : (n : Int) < 2 ^ 63 := by omega
theorem arr_fits {ws : List Value} {k : Nat} (h : ws.length = k) (h2 : k < 1000000) : (ws.toArray.size : Int) < 2 ^ 63 := by
  rw [List.size_toArray, h]; exact fits h2
theorem nofits {n : Nat} (h : n < 1000000) : ¬ (n : Int) ≥ 2 ^ 63 := Int.not_le.mpr (fits h)
/-- the depth and the units behind a call -/
theorem dep_in {d l lv r : Nat} (h : d + l < r) (hl : lv + 1 ≤ l) : d + 1 + (l - 1) < r := by omega
theorem un_in {u l lv r : Nat} (h : u + 20 * l + 20 < r) (hl : lv + 1 ≤ l) : u + 3 + 20 * (l - 1) + 20 < r := by omega
theorem Cx.units (c : Cx g Γ) : c.A.units < cLine := Nat.lt_of_le_of_lt (Nat.le_trans (Nat.le_add_right _ _) (Nat.le_add_right _ _)) c.hun
theorem Cx.depth (c : Cx g Γ) : c.A.depth < recursionLimit := Nat.lt_of_le_of_lt (Nat.le_add_right _ _) c.hdep
theorem lv_in {l lv : Nat} (hl : lv + 1 ≤ l) : lv ≤ l - 1 := Nat.le_sub_of_add_le hl
noncomputable def truthB : MV → SS → Option Bool
  | .bool b, _ => some b
  | .none, _ => some false
  | .int e, _ => match e with
    | .c i => some (!Z.eqB i 0)
    | _ => none
  | .str _, _ => none
  | .old _, _ => none
  | .ref k, ss => match listAt ss k with
    | none => none
    | some vs => match Nat.blt vs.length 1000000 with
      | true => some (nonempty vs)
      | false => none
theorem bne_zero (i : Int) : (i != 0) = !Z.eqB i 0 := by
  rw [bne]
  congr 1
  rw [Bool.eq_iff_iff, Z.eqB_iff, beq_iff_eq]
set_option smartUnfolding false in
theorem truth_ok {c : Cx g Γ} {α : List Addr} {ext : List (Addr × Obj)} {G : List GenState} {st : PS} {s : Shared} {v : MV} {w : Value} {b : Bool} {Q : Bool → Shared → Prop} {E : Value → Shared → Prop} {A : Around} (hf : truthB v st.ss = some b) (hv : VOK g.q α v w) (R : Rel c α ext G st s)
    (hQ : ∀ tk, Rel c α ext G st { s with toks := tk } → Q b { s with toks := tk }) : wpAny (model g.prog g.w) A (truthy w) Q E s := by
  cases v with
  | none => exact hv.none_el (P := fun w => wpAny (model g.prog g.w) A (truthy w) Q E s) (truthy_none (Option.some.inj hf ▸ hQ s.toks R))
  | bool b' => exact hv.bool_el (P := fun w => wpAny (model g.prog g.w) A (truthy w) Q E s) (wpAny_truthy_bool (Option.some.inj hf ▸ hQ s.toks R))
  | int e => cases e with
    | c i => exact hv.int_el (P := fun w => wpAny (model g.prog g.w) A (truthy w) Q E s) fun t => PyProof.Rows.truthy_int ((bne_zero i).trans (Option.some.inj hf) ▸ hQ s.toks R)
    | p => exact nn hf
    | h => exact nn hf
  | str => exact nn hf
  | old => exact nn hf
  | ref k =>
    refine eo hf fun vs e hf => ?_
    refine eb hf fun hlen hf => ?_
    cases id R with | mk m led bl R' =>
    refine R'.listEl (P := fun w => wpAny (model g.prog g.w) A (truthy w) Q E s) hv e fun a ws n h1 _ hl => ?_
    exact wpAny_truthy_list (isList_of h1) (arr_fits hl (Z.blt_iff.mp hlen)) ((isList_empty hl).trans (Option.some.inj hf) ▸ hQ _ (R.tok (Nat.succ_pos _)))
noncomputable def isF (f : PS → Option (MV × PS)) : PS → Option (Bool × PS) := fun st => match f st with
  | .none => .none
  | some (v, st1) => match truthB v st1.ss with
    | .none => .none
    | some b => some (b, st1)
set_option smartUnfolding false in
theorem isF_some {f : PS → Option (MV × PS)} {st st' : PS} {b : Bool} (h : isF f st = some (b, st')) : ∃ v, f st = some (v, st') ∧ truthB v st'.ss = some b := by
  unfold isF at h
  refine eop h fun v st1 e1 h => ?_
  refine eo h fun b' e2 h => ?_
  have h := Prod.mk.inj (Option.some.inj h)
  exact ⟨v, h.2 ▸ e1, h.2 ▸ h.1 ▸ e2⟩
theorem IsOK.cmp {x y : Expr} {op : CmpOp} {pos : Pos} {f1 f2 : PS → Option (MV × PS)} {F : MV → MV → SS → Option (MV × SS)} (h1 : EvOK g Γ lv x f1) (h2 : EvOK g Γ lv y f2) (ho : Op2OK g lv (compareOp op) F) (hb : behindInMarks op y = false) :
    IsOK g Γ lv (.Compare x [op] [y] pos) (isF (binF f1 f2 F)) := by
  intro c hl α ext G st b st' s Q E hf hR hQ
  obtain ⟨v, e1, e2⟩ := isF_some hf
  refine wpAny_isTrue_Compare1 (wpAny_mono (bin_core (Q := fun w s' => wpAny (model g.prog g.w) c.A (truthy w) Q E s') (E := E) hl h1 h2 ho e1 hR fun w α1 s1 hs1 R1 ho1 va => ?_) (fun a s1 h => ?_) fun _ _ h => h) hb
  · exact truth_ok e2 va R1 fun tk R2 => hQ α1 _ hs1 R2 ho1
  · exact wpAny_mono h (fun b s2 h2 => wpAny_mono h2 (fun _ _ h => h) fun _ _ h => h) fun _ _ h => h
theorem IsOK.plain {x : Expr} {f : PS → Option (MV × PS)} (h : EvOK g Γ lv x f) (he : ∀ env whole, isTrue x env whole = (do let v ← whole; standAt x.pos; holding [v] (truthy v))) : IsOK g Γ lv x (isF f) := by
  intro c hl α ext G st b st' s Q E hf hR hQ
  obtain ⟨v, e1, e2⟩ := isF_some hf
  refine isTrue_plain (h c hl α ext G st v st' s _ E e1 hR fun w α1 s1 hs1 R1 ho1 va => ?_) (he _ _)
  exact truth_ok e2 va R1 fun tk R2 => hQ α1 _ hs1 R2 ho1
noncomputable def notF (f : PS → Option (Bool × PS)) : PS → Option (Bool × PS) := fun st => match f st with
  | .none => .none
  | some (b, st1) => some (!b, st1)
set_option smartUnfolding false in
theorem IsOK.not {x : Expr} {pos : Pos} {f : PS → Option (Bool × PS)} (h : IsOK g Γ lv x f) : IsOK g Γ lv (.UnaryOp .Not x pos) (notF f) := by
  intro c hl α ext G st b st' s Q E hf hR hQ
  unfold notF at hf
  refine eop hf fun b' st1 e1 hf => ?_
  exact isTrue_not (h c hl α ext G st b' st1 s _ E e1 hR (som2 (P := fun b st' => After c α ext G s st' fun _ s' => Q b s') hf hQ))
noncomputable def orF (f1 f2 : PS → Option (Bool × PS)) : PS → Option (Bool × PS) := fun st => match f1 st with
  | .none => .none
  | some (true, st1) => some (true, st1)
  | some (false, st1) => f2 st1
set_option smartUnfolding false in
theorem IsOK.or2 {x y : Expr} {pos : Pos} {f1 f2 : PS → Option (Bool × PS)} (h1 : IsOK g Γ lv x f1) (h2 : IsOK g Γ lv y f2) : IsOK g Γ lv (.BoolOp .Or [x, y] pos) (orF f1 f2) := by
  intro c hl α ext G st b st' s Q E hf hR hQ
  unfold orF at hf
  refine eob hf (fun st1 e1 hf => ?_) fun st1 e1 hf => ?_
  · exact isTrue_or (h1 c hl α ext G st _ _ s _ E e1 hR fun α1 s1 hs1 R1 ho1 => som2 (P := fun b st' => After c α ext G s st' fun _ s' => Q b s') hf hQ α1 s1 hs1 R1 ho1)
  · refine isTrue_or (h1 c hl α ext G st _ _ s _ E e1 hR fun α1 s1 hs1 R1 ho1 => ?_)
    refine isTrue_or (h2 c hl α1 ext G st1 b st' s1 _ E hf R1 fun α2 s2 hs2 R2 ho2 => ?_)
    cases b with
    | true => exact hQ α2 s2 (hs1.trans hs2) R2 (ho2.trans ho1)
    | false => exact isTrue_or_nil (hQ α2 s2 (hs1.trans hs2) R2 (ho2.trans ho1))
/-! a def without cells -/
inductive FnIs (h : Heap) (a : Addr) (name qual : Str) (params : Arguments) (body : List Stmt) (scope : Scope) (cl : List (Str × Addr)) : Prop
  | mk (o : Obj) (doc pm : Value) (an : Option Addr) (cdv ct : Value) (h1 : h.get? a = some o) (h2 : o.data = .func (fnX name qual params body scope cl .none .none doc pm an cdv ct)) (h3 : h.CodeRec cdv qual)
theorem lookup_zip {x : Str} {w : Value} : ∀ {pn : List Str} {ws : List Value} {i : Nat}, pn.Nodup → pn[i]? = some x → ws[i]? = some w → (pn.zip ws).lookup x = some w := by
  intro pn
  induction pn with
  | nil => intro ws i _ h _; exact nn h
  | cons p pn ih =>
    intro ws i nd h1 h2
    cases ws with
    | nil => exact nn h2
    | cons v ws =>
      rw [List.zip_cons_cons, List.lookup_cons]
      cases i with
      | zero =>
        rw [List.getElem?_cons_zero] at h1 h2
        rw [Option.some.inj h1, beq_self_eq_true]; exact h2
      | succ i =>
        rw [List.getElem?_cons_succ] at h1 h2
        rw [beq_eq_false_iff_ne.mpr fun e : x = p => (List.nodup_cons.mp nd).1 (e ▸ List.mem_of_getElem? h1)]
        exact ih (List.nodup_cons.mp nd).2 h1 h2
theorem lookup_rev {β : Type} : ∀ {l : List (Str × β)}, (l.map (·.1)).Nodup → ∀ x, l.reverse.lookup x = l.lookup x := by
  intro l
  induction l with
  | nil => intro _ x; rfl
  | cons p l ih =>
    intro nd x
    rw [List.map_cons, List.nodup_cons] at nd
    rw [List.reverse_cons, List.lookup_append, ih nd.2]
    by_cases e : x = p.1
    · subst e
      have : l.lookup p.1 = none := by
        rw [List.lookup_eq_none_iff]
        intro q hq
        have : p.1 ≠ q.1 := fun e => nd.1 (List.mem_map.mpr ⟨q, hq, e.symm⟩)
        simpa using this
      rw [this]
      simp [List.lookup]
    · have e' : (x == p.1) = false := beq_eq_false_iff_ne.mpr e
      have h1 : [p].lookup x = none := by rw [List.lookup_cons, e']; rfl
      have h2 : (p :: l).lookup x = l.lookup x := by rw [List.lookup_cons, e']
      rw [h1, h2, Option.or_none]
theorem VsOK.get {q : Int} {α : List Addr} {vs : List MV} {ws : List Value} (h : VsOK q α vs ws) : ∀ {i : Nat} {v : MV}, vs[i]? = some v → ∃ w, ws[i]? = some w ∧ VOK q α v w := by
  induction h with
  | nil => intro i v e; exact nn e
  | cons h1 _ ih =>
    intro i v e
    cases i with
    | zero => rw [List.getElem?_cons_zero] at e; exact ⟨_, rfl, Option.some.inj e ▸ h1⟩
    | succ i => rw [List.getElem?_cons_succ] at e; exact (ih e).elim fun w h => ⟨w, List.getElem?_cons_succ.trans h.1, h.2⟩
noncomputable def fnF (np nl : Nat) (fb : PS → Option (FL × PS)) : List MV → SS → Option (MV × SS) := fun vs ss => match Nat.beq vs.length np with
  | false => none
  | true => match fb ⟨vs.map some ++ List.replicate nl none, [], ss⟩ with
    | none => none
    | some (r, st) => match r with
      | .ret v => some (v, st.ss)
      | .next => some (.none, st.ss)
      | _ => none
theorem LocOK.args {q : Int} {α : List Addr} {pn ls : List Str} {vs : List MV} {ws : List Value} {n : Nat} (hv : VsOK q α vs ws) (hlen : vs.length = pn.length) (hnd : pn.Nodup) : LocOK q α (pn ++ ls) (fun x => (pn.zip ws).reverse.lookup x) (vs.map some ++ List.replicate n none) := by
  intro i x u hx hu
  by_cases hi : i < vs.length
  · rw [List.getElem?_append_left (by rw [List.length_map]; exact hi), List.getElem?_map] at hu
    rw [List.getElem?_append_left (hlen ▸ hi)] at hx
    cases hvi : vs[i]? with
    | none => rw [hvi] at hu; exact nn hu
    | some v' =>
      rw [hvi] at hu
      refine (hv.get hvi).elim fun w hw => ⟨w, ?_, Option.some.inj (Option.some.inj hu) ▸ hw.2⟩
      show (pn.zip ws).reverse.lookup x = some w
      rw [lookup_rev (by rw [List.map_fst_zip (Nat.le_of_eq (hlen.symm.trans hv.length.symm))]; exact hnd)]
      exact lookup_zip hnd hx hw.1
  · rw [List.getElem?_append_right (by rw [List.length_map]; exact Nat.le_of_not_lt hi)] at hu
    exact nn (List.mem_replicate.mp (List.mem_of_getElem? hu)).2.symm
/-- a call's own context -/
noncomputable def Cx.call (c : Cx g Γ) {qual : Str} {Γ' : Sta} {L' a : Addr} {cdv : Value} {gh : Heap} {sc : Scope} {clo : List (Str × Addr)} (hk : sc.kind = .function) (hs : Γ'.scope = sc) (hl : lv + 1 ≤ c.lvl) (B' : Below c.A c.base (c.fenv :: c.outer) gh) (hB : g.B gh) : Cx g Γ' := {
    A := c.A.deeper (envX qual sc L' a cdv clo)
    A₀ := c.A, base := c.base, outer := c.fenv :: c.outer, env := envX qual sc L' a cdv clo, fenv := envX qual sc L' a cdv clo, h₀ := gh, L := L', blk := none, lvl := c.lvl - 1, bm := fun _ => none
    hA := by show Option.map _ c.A.frames = _; rw [c.hA]; rfl
    hh := c.hh, hff := rfl, hfk := hk, hfl := fun _ => rfl, hbl := fun _ e => (nomatch e)
    below := B'
    hscope := hs.symm, hkind := by rw [hs]; exact hk, hglob := rfl, hblt := rfl
    hB := hB
    hdep := dep_in c.hdep hl
    hun := un_in c.hun hl }
set_option smartUnfolding false in
theorem fn_ret {r : FL} {st : PS} {P : MV → SS → Prop} {v : MV} {ss : SS} (hf : (match r with | .ret v => some (v, st.ss) | .next => some (.none, st.ss) | _ => none) = some (v, ss)) (h : P v ss) : (∃ v', r = .ret v' ∧ P v' st.ss) ∨ (r = .next ∧ P .none st.ss) := by
  cases r with
  | ret v => exact .inl ⟨v, rfl, som2 (P := P) hf h⟩
  | next => exact .inr ⟨rfl, som2 (P := P) hf h⟩
  | _ => exact nn hf
set_option smartUnfolding false in
theorem OpNOK.fn {a : Addr} {name qual : Str} {params : Arguments} {body : List Stmt} {scope : Scope} {pn ls : List Str} {fb : PS → Option (FL × PS)} (hlim : ∀ h, g.B h → h.NoLimit) (hfd : ∀ h, g.B h → FnIs h a name qual params body scope [])
    (hk : scope.kind = .function) (hco : scope.isCoroutine = false) (hgen : scope.isGenerator = false) (hcell : ∀ x ∈ scope.names, x.2 ≠ .cell)
    (hbind : ∀ (doc pm : Value) (an : Option Addr) (cdv ct : Value) (ws : List Value), ws.length = pn.length → bindArgs (fnX name qual params body scope [] .none .none doc pm an cdv ct) ⟨ws, []⟩ = pure (pn.zip ws))
    (hnd : (pn ++ ls).Nodup) (hloc : ∀ x ∈ pn, scope.names.lookup x = some .local)
    (hb : ExsOK g ⟨pn ++ ls, [], scope⟩ lv body fb) : OpNOK g (lv + 1) (fun ws => call (.ref a) ws) (fnF pn.length ls.length fb) := by
  intro Γ c hl α ext G st vs ws v ss s Q E hf hvs R hQ
  unfold fnF at hf
  refine eb hf fun hlen hf => ?_
  have hlen := Nat.eq_of_beq_eq_true hlen
  refine eop hf fun r st1 e1 hf => ?_
  cases R with | mk m led bl R =>
  cases hfd c.h₀ c.hB with | mk o doc pm an cdv ct ho hd hcd =>
  have hndp : pn.Nodup := (List.nodup_append.mp hnd).1
  refine wpAny_call (callX_plain c.below R.F R.N (hlim _ c.hB) c.hA c.hff c.hfk (R.F.keep _ _ ho) hd (hcd.keeps R.F.keep) (Nat.lt_of_le_of_lt (Nat.le_add_right _ _) c.hdep) (BindsTo.of_eq (hbind doc pm an cdv ct ws (hvs.length.trans hlen)))
    (fun y hy => hloc _ (List.of_mem_zip (show (y.1, y.2) ∈ pn.zip ws from hy)).1) (fun gh L' h₁ FG F' N' B' st' lt' => ?_) hcell hco hgen hk)
  refine hb (c.call (Γ' := ⟨pn ++ ls, [], scope⟩) (a := a) (cdv := cdv) (clo := []) hk rfl hl B' (g.hB _ _ st' c.hB)) (lv_in hl) α (bl ++ ext) G _ r st1 _ _ _ e1
    ⟨_, led, [], F', N', R.nd, R.la, R.lo, R.nn, BlkOK.mk0 rfl (LocOK.args hvs hlen hndp), fun i x k h => nn h, R.ge, R.ba, R.tb, Nat.lt_of_lt_of_le R.tk (Nat.le_add_right _ _)⟩ (fun w α' s' hs R1 ho1 va => ?_)
  cases R1 with | mk m' led' bl' R1 =>
  have hbl' : bl' = [] := R1.bk.1
  subst hbl'
  refine leaveK_ R1.F R1.N fun F₂ N₂ => ?_
  have key : Rel c α' ext G { st with ss := st1.ss } s' := ⟨m, led', bl, F₂, N₂, R1.nd, R1.la, R1.lo, R1.nn, R.bk.mono hs, R.ce.mono hs, R1.ge, R1.ba, R1.tb, R1.tk⟩
  refine (fn_ret (P := Ret c α ext G st s Q) hf hQ).elim (fun h => h.elim fun v' h => ?_) fun h => ?_
  · rw [h.1] at va
    cases w <;> first | exact False.elim va | exact h.2 _ α' s' hs key ho1 va
  · rw [h.1] at va
    cases w <;> first | exact False.elim va | exact h.2 _ α' s' hs key ho1 trivial
end Mine
end P4
section P5
open PySem PySem.W PyProof.Rows PySem.Calls PySem.Spec
namespace Mine
variable {g : Gl} {Γ : Sta} {lv : Nat}
/-! polynomials -/
noncomputable def isZ (i : Int) : Bool := Z.eqB i 0
noncomputable def consP (a : Int) (r : List Int) : List Int := match r with
  | [] => match isZ a with
    | true => []
    | false => [a]
  | _ => a :: r
theorem isZ_iff {i : Int} : isZ i = true ↔ i = 0 := Z.eqB_iff i 0
theorem consP_ev (q a : Int) (r : List Int) : evalP q (consP a r) = a + q * evalP q r := by
  cases r with
  | nil =>
    show evalP q (match isZ a with | true => [] | false => [a]) = _
    cases h : isZ a with
    | true => rw [isZ_iff.mp h]; simp [evalP]
    | false => simp [evalP]
  | cons b r => rfl
noncomputable def addP : List Int → List Int → List Int
  | [], y => y
  | x, [] => x
  | a :: x, b :: y => consP (a + b) (addP x y)
theorem addP_ev (q : Int) : ∀ x y : List Int, evalP q (addP x y) = evalP q x + evalP q y
  | [], y => by simp [addP, evalP]
  | a :: x, [] => by simp [addP, evalP]
  | a :: x, b :: y => by
    simp only [addP, consP_ev, addP_ev q x y, evalP, Int.mul_add]
    omega
noncomputable def negP (x : List Int) : List Int := x.map fun a => -a
theorem negP_ev (q : Int) : ∀ x : List Int, evalP q (negP x) = -evalP q x
  | [] => rfl
  | a :: x => by
    have ih := negP_ev q x
    show (-a) + q * evalP q (negP x) = -(a + q * evalP q x)
    rw [ih, Int.mul_neg]; omega
noncomputable def scaleP (c : Int) : List Int → List Int
  | [] => []
  | a :: x => consP (c * a) (scaleP c x)
theorem scaleP_ev (q c : Int) : ∀ x : List Int, evalP q (scaleP c x) = c * evalP q x
  | [] => by simp [scaleP, evalP]
  | a :: x => by
    simp only [scaleP, consP_ev, scaleP_ev q c x, evalP, Int.mul_add]
    congr 1
    rw [← Int.mul_assoc, ← Int.mul_assoc, Int.mul_comm q c]
noncomputable def mulP : List Int → List Int → List Int
  | [], _ => []
  | a :: x, y => addP (scaleP a y) (consP 0 (mulP x y))
theorem mulP_ev (q : Int) : ∀ x y : List Int, evalP q (mulP x y) = evalP q x * evalP q y
  | [], y => by simp [mulP, evalP]
  | a :: x, y => by
    simp only [mulP, addP_ev, scaleP_ev, consP_ev, mulP_ev q x y, evalP, Int.add_mul, Int.zero_add, Int.mul_assoc]
noncomputable def qB : Nat := 1000000000000000000000000000001
noncomputable def bndP : List Int → Nat
  | [] => 0
  | a :: x => a.natAbs + qB * bndP x
theorem bndP_le {q : Int} (hq : q.natAbs ≤ qB) : ∀ x : List Int, (evalP q x).natAbs ≤ bndP x
  | [] => Nat.le_refl _
  | a :: x => by
    have ih := bndP_le hq x
    show (a + q * evalP q x).natAbs ≤ a.natAbs + qB * bndP x
    have h1 := Int.natAbs_add_le a (q * evalP q x)
    rw [Int.natAbs_mul] at h1
    have h2 := Nat.mul_le_mul hq ih
    omega
noncomputable def eqL : List Int → List Int → Bool
  | [], [] => true
  | a :: x, b :: y => match Z.eqB a b with
    | true => eqL x y
    | false => false
  | _, _ => false
theorem eqL_eq : ∀ {x y : List Int}, eqL x y = true → x = y := by
  intro x
  induction x with
  | nil => intro y h; cases y with
    | nil => rfl
    | cons _ _ => exact ff h
  | cons a x ih => intro y h; cases y with
    | nil => exact ff h
    | cons b y =>
      have h : (match Z.eqB a b with | true => eqL x y | false => false) = true := h
      cases e : Z.eqB a b with
      | false => rw [e] at h; exact ff h
      | true => rw [e] at h; rw [(Z.eqB_iff a b).mp e, ih h]
/-! ints -/
noncomputable def toP : IX → Option (List Int)
  | .c i => some (consP i [])
  | .p cs => some cs
  | .h _ _ => none
theorem toP_ev {q : Int} {e : IX} {x : List Int} (h : toP e = some x) : evalP q x = e.ev q := by
  cases e with
  | c i => cases h; rw [consP_ev]; simp [evalP, IX.ev]
  | p cs => cases h; rfl
  | h => cases h
noncomputable def fromP : List Int → IX
  | [] => .c 0
  | [a] => .c a
  | x => .p x
theorem fromP_ev (q : Int) (x : List Int) : (fromP x).ev q = evalP q x := by
  unfold fromP
  split
  · rfl
  · simp [IX.ev, evalP]
  · rfl
noncomputable def addX : IX → IX → Option IX
  | .c i, .c j => some (.c (i + j))
  | .h m x, b => match toP b with
    | none => none
    | some y => some (.h m (addP x y))
  | a, b => match toP a with
    | none => none
    | some x => match toP b with
      | none => none
      | some y => some (fromP (addP x y))
theorem addP_toP {q : Int} {a b e : IX} (h : (match toP a with | none => none | some x => match toP b with | none => none | some y => some (fromP (addP x y))) = some e) : e.ev q = a.ev q + b.ev q := by
  cases e1 : toP a with
  | none => rw [e1] at h; exact nn h
  | some x => cases e2 : toP b with
    | none => rw [e1, e2] at h; exact nn h
    | some y =>
      rw [e1, e2] at h
      rw [← Option.some.inj h, fromP_ev, addP_ev, toP_ev e1, toP_ev e2]
theorem addX_ev {q : Int} {a b e : IX} (h : addX a b = some e) : e.ev q = a.ev q + b.ev q := by
  cases a with
  | h m x =>
    have h : (match toP b with | none => none | some y => some (.h m (addP x y))) = some e := by cases b <;> exact h
    cases e2 : toP b with
    | none => rw [e2] at h; exact nn h
    | some y =>
      rw [e2] at h
      rw [← Option.some.inj h]
      show Int.fdiv _ 2 + evalP q (addP _ y) = (Int.fdiv _ 2 + _) + _
      rw [addP_ev, toP_ev e2, Int.add_assoc]
  | c i => cases b with
    | c j => rw [← Option.some.inj h]; rfl
    | p y => exact addP_toP (a := .c i) (b := .p y) h
    | h n y => exact nn h
  | p x => cases b with
    | c j => exact addP_toP (a := .p x) (b := .c j) h
    | p y => exact addP_toP (a := .p x) (b := .p y) h
    | h n y => exact nn h
noncomputable def negX : IX → Option IX
  | .c i => some (.c (-i))
  | .p x => some (.p (negP x))
  | .h _ _ => none
theorem negX_ev {q : Int} {a e : IX} (h : negX a = some e) : e.ev q = -a.ev q := by
  cases a with
  | c i => exact Option.some.inj h ▸ rfl
  | p x => exact Option.some.inj h ▸ negP_ev q _
  | h => exact nn h
noncomputable def subX (a b : IX) : Option IX := match b with
  | .c j => addX a (.c (-j))
  | .p y => addX a (.p (negP y))
  | .h _ _ => none
theorem subX_ev {q : Int} {a b e : IX} (h : subX a b = some e) : e.ev q = a.ev q - b.ev q := by
  cases b with
  | c j => exact (addX_ev (b := .c (-j)) h).trans Int.sub_eq_add_neg.symm
  | p y => exact (addX_ev (b := .p (negP y)) h).trans ((congrArg (a.ev q + ·) (negP_ev q y)).trans Int.sub_eq_add_neg.symm)
  | h => exact nn h
set_option exponentiation.threshold 5000 in
noncomputable def bigB : Nat := 2 ^ 4096
noncomputable def bndX : IX → Nat
  | .c i => i.natAbs
  | .p x => bndP x
  | .h m x => bndP m + bndP x + 1
noncomputable def okX (e : IX) : Bool := Nat.blt (bndX e) bigB
theorem fdiv2_le (a : Int) : (Int.fdiv a 2).natAbs ≤ a.natAbs + 1 := by
  rw [Int.fdiv_eq_ediv_of_nonneg _ (by omega)]; omega
theorem bndX_le {q : Int} (hq : q.natAbs ≤ qB) (e : IX) : (e.ev q).natAbs ≤ bndX e := by
  cases e with
  | c i => exact Nat.le_refl _
  | p x => exact bndP_le hq x
  | h m x =>
    show (Int.fdiv (evalP q m) 2 + evalP q x).natAbs ≤ bndP m + bndP x + 1
    have h1 := Int.natAbs_add_le (Int.fdiv (evalP q m) 2) (evalP q x)
    have h2 := bndP_le hq x
    have h3 := bndP_le hq m
    have h4 := fdiv2_le (evalP q m)
    omega
theorem okX_bits {q : Int} (hq : q.natAbs ≤ qB) {e : IX} (h : okX e = true) : Builtin.Int.intBits (e.ev q) ≤ 4096 :=
  intBits_le (Nat.lt_of_le_of_lt (bndX_le hq e) (Z.blt_iff.mp h))
noncomputable def mulX (a b : IX) : Option IX := match okX a, okX b with
  | true, true => match a, b with
    | .c i, .c j => some (.c (i * j))
    | a, b => match toP a with
      | none => none
      | some x => match toP b with
        | none => none
        | some y => some (fromP (mulP x y))
  | _, _ => none
set_option smartUnfolding false in
theorem mulX_ok {q : Int} (hq : q.natAbs ≤ qB) {a b e : IX} (h : mulX a b = some e) : e.ev q = a.ev q * b.ev q ∧ IntMulOk (a.ev q) (b.ev q) := by
  unfold mulX at h
  refine ebb h fun h1 h2 h => ?_
  refine ⟨?_, IntMulOk.of_bits (Nat.le_trans (okX_bits hq h1) (by decide)) (Nat.le_trans (okX_bits hq h2) (by decide))⟩
  have key : ∀ x y, toP a = some x → toP b = some y → some (fromP (mulP x y)) = some e → e.ev q = a.ev q * b.ev q := fun x y e1 e2 h => by
    rw [← Option.some.inj h, fromP_ev, mulP_ev, toP_ev e1, toP_ev e2]
  cases a with
  | h => exact nn h
  | c i => cases b with
    | c j => exact Option.some.inj h ▸ rfl
    | p y => exact key _ _ rfl rfl h
    | h => exact nn h
  | p x => cases b with
    | c j => exact key _ _ rfl rfl h
    | p y => exact key _ _ rfl rfl h
    | h => exact nn h
noncomputable def divX (a b : IX) : Option IX := match b with
  | .c j => match isZ j, Nat.blt j.natAbs 1073741824 with
    | false, true => match (generalizing := false) a with
      | .c i => some (.c (Int.fdiv i j))
      | .p m => match Z.eqB j 2 with
        | true => some (.h m [])
        | false => none
      | .h _ _ => none
    | _, _ => none
  | _ => none
set_option smartUnfolding false in
theorem divX_ok {q : Int} {a b e : IX} (h : divX a b = some e) : e.ev q = Int.fdiv (a.ev q) (b.ev q) ∧ b.ev q ≠ 0 ∧ Builtin.divisionGoesByPylong (a.ev q) (b.ev q) = false := by
  cases b with
  | c j =>
    have h : (match isZ j, Nat.blt j.natAbs 1073741824 with
    | false, true => match (generalizing := false) a with
      | .c i => some (.c (Int.fdiv i j))
      | .p m => match Z.eqB j 2 with
        | true => some (.h m [])
        | false => none
      | .h _ _ => none
    | _, _ => none) = some e := h
    refine ebfb h fun h1 h2 h => ?_
    refine ⟨?_, fun e => ff (h1.symm.trans (isZ_iff.mpr e)), PyProof.noPylong_small (Z.blt_iff.mp h2)⟩
    cases a with
    | c i => exact Option.some.inj h ▸ rfl
    | p m =>
      refine eb h fun h3 h => ?_
      rw [← Option.some.inj h, (Z.eqB_iff j 2).mp h3]
      exact Int.add_zero _
    | h => exact nn h
  | p => exact nn h
  | h => exact nn h
noncomputable def modX : IX → IX → Option IX
  | .c i, .c j => match isZ j with
    | false => some (.c (Int.fmod i j))
    | true => none
  | _, _ => none
set_option smartUnfolding false in
theorem modX_ok {q : Int} {a b e : IX} (h : modX a b = some e) : e.ev q = Int.fmod (a.ev q) (b.ev q) ∧ b.ev q ≠ 0 := by
  cases a with
  | c i => cases b with
    | c j =>
      have h : (match isZ j with | false => some (.c (Int.fmod i j)) | true => none) = some e := h
      refine ebf h fun h1 h => ⟨Option.some.inj h ▸ rfl, fun e => ff (h1.symm.trans (isZ_iff.mpr e))⟩
    | p => exact nn h
    | h => exact nn h
  | p => exact nn h
  | h => exact nn h
noncomputable def powX : IX → IX → Option IX
  | .c i, .c (.ofNat n) => match Nat.blt i.natAbs 1000, Nat.blt n 1000 with
    | true, true => some (.c (i ^ n))
    | _, _ => none
  | _, _ => none
set_option smartUnfolding false in
theorem powX_ok {q : Int} {a b e : IX} (h : powX a b = some e) : e.ev q = (a.ev q) ^ (b.ev q).toNat ∧ 0 ≤ b.ev q ∧ (Builtin.Int.intBits (a.ev q) : Int) * b.ev q ≤ 2 ^ 27 := by
  cases a with
  | c i => cases b with
    | c j => cases j with
      | ofNat n =>
        have h : (match Nat.blt i.natAbs 1000, Nat.blt n 1000 with | true, true => some (.c (i ^ n)) | _, _ => none) = some e := h
        refine ebb h fun h1 h2 h => ⟨Option.some.inj h ▸ rfl, Int.natCast_nonneg n, ?_⟩
        have h5 : Builtin.Int.intBits i ≤ 10 := intBits_le (Nat.lt_of_lt_of_le (Z.blt_iff.mp h1) (by decide))
        show (Builtin.Int.intBits i : Int) * (n : Int) ≤ 2 ^ 27
        rw [← Int.natCast_mul]
        exact Int.ofNat_le.mpr (Nat.le_trans (Nat.mul_le_mul h5 (Nat.le_of_lt (Z.blt_iff.mp h2))) (by decide))
      | negSucc n => exact nn h
    | p => exact nn h
    | h => exact nn h
  | p => exact nn h
  | h => exact nn h
noncomputable def eqX : IX → IX → Option Bool
  | .c i, .c j => some (Z.eqB i j)
  | .p x, .p y => match eqL x y with
    | true => some true
    | false => none
  | .h m x, .h n y => match eqL m n, eqL x y with
    | true, true => some true
    | _, _ => none
  | _, _ => none
set_option smartUnfolding false in
theorem eqX_ok {q : Int} {a b : IX} {r : Bool} (h : eqX a b = some r) : (a.ev q == b.ev q) = r := by
  cases a with
  | c i => cases b with
    | c j =>
      rw [← Option.some.inj h]
      show (i == j) = _
      rw [Bool.eq_iff_iff, Z.eqB_iff, beq_iff_eq]
    | p => exact nn h
    | h => exact nn h
  | p x => cases b with
    | p y =>
      have h : (match eqL x y with | true => some true | false => none) = some r := h
      refine eb h fun e h => ?_
      rw [← Option.some.inj h, eqL_eq e]; exact beq_self_eq_true _
    | c => exact nn h
    | h => exact nn h
  | h m x => cases b with
    | h n y =>
      have h : (match eqL m n, eqL x y with | true, true => some true | _, _ => none) = some r := h
      refine ebb h fun e1 e2 h => ?_
      rw [← Option.some.inj h, eqL_eq e1, eqL_eq e2]; exact beq_self_eq_true _
    | c => exact nn h
    | p => exact nn h
noncomputable def ltX : IX → IX → Option Bool
  | .c i, .c j => some (Z.ltB i j)
  | _, _ => none
theorem ltX_ok {q : Int} {a b : IX} {r : Bool} (h : ltX a b = some r) : decide (a.ev q < b.ev q) = r := by
  cases a with
  | c i => cases b with
    | c j =>
      rw [← Option.some.inj h]
      show decide (i < j) = _
      rw [Bool.eq_iff_iff, Z.ltB_iff, decide_eq_true_iff]
    | p => exact nn h
    | h => exact nn h
  | p => exact nn h
  | h => exact nn h
noncomputable def leX : IX → IX → Option Bool
  | .c i, .c j => some (Z.leB i j)
  | _, _ => none
theorem leX_ok {q : Int} {a b : IX} {r : Bool} (h : leX a b = some r) : decide (a.ev q ≤ b.ev q) = r := by
  cases a with
  | c i => cases b with
    | c j =>
      rw [← Option.some.inj h]
      show decide (i ≤ j) = _
      rw [Bool.eq_iff_iff, Z.leB_iff, decide_eq_true_iff]
    | p => exact nn h
    | h => exact nn h
  | p => exact nn h
  | h => exact nn h
end Mine
end P5
section P6
open PySem PySem.W PyProof.Rows PySem.Calls PySem.Spec
namespace Mine
variable {g : Gl} {Γ : Sta} {lv : Nat}
theorem VOK.int_inv {q : Int} {α : List Addr} {e : IX} {w : Value} (h : VOK q α (.int e) w) : ∃ t, w = .int (e.ev q) t := h.int_el (P := fun w => ∃ t, w = .int (e.ev q) t) fun t => ⟨t, rfl⟩
theorem VOK.str_inv {q : Int} {α : List Addr} {x : List Nat} {w : Value} (h : VOK q α (.str x) w) : ∃ t, w = .str ⟨x.toArray⟩ t := h.str_el (P := fun w => ∃ t, w = .str ⟨x.toArray⟩ t) fun t => ⟨t, rfl⟩
theorem VOK.bool_inv {q : Int} {α : List Addr} {b : Bool} {w : Value} (h : VOK q α (.bool b) w) : w = .bool b := h.bool_el (P := fun w => w = .bool b) rfl
theorem VOK.none_inv {q : Int} {α : List Addr} {w : Value} (h : VOK q α .none w) : w = .none := h.none_el (P := fun w => w = .none) rfl
section
variable {q : Int} {α : List Addr} {wa wb : Value} {P : Value → Value → Prop}
theorem ints_el {x y : IX} (ha : VOK q α (.int x) wa) (hb : VOK q α (.int y) wb) (k : ∀ t u, P (.int (x.ev q) t) (.int (y.ev q) u)) : P wa wb :=
  ha.int_el (P := fun w => P w wb) fun t => hb.int_el (P := P _) fun u => k t u
theorem strs_el {x y : List Nat} (ha : VOK q α (.str x) wa) (hb : VOK q α (.str y) wb) (k : ∀ t u, P (.str ⟨x.toArray⟩ t) (.str ⟨y.toArray⟩ u)) : P wa wb :=
  ha.str_el (P := fun w => P w wb) fun t => hb.str_el (P := P _) fun u => k t u
end
noncomputable def small (n : Nat) : Bool := Nat.blt n 1000000
theorem small_lt {n : Nat} (h : small n = true) : n < 1000000 := Z.blt_iff.mp h
noncomputable def liftI (F : IX → IX → Option IX) (x y : IX) (ss : SS) : Option (MV × SS) := match F x y with
  | .none => .none
  | some z => some (.int z, ss)
noncomputable def liftB (F : IX → IX → Option Bool) (x y : IX) (ss : SS) : Option (MV × SS) := match F x y with
  | .none => .none
  | some z => some (.bool z, ss)
section
variable {K : Option (MV × SS) → Prop} {x y : IX} {ss : SS}
theorem liftI_k {F : IX → IX → Option IX} (n : K none) (k : ∀ z, F x y = some z → K (some (.int z, ss))) : K (liftI F x y ss) := by
  unfold liftI
  cases e : F x y with
  | none => exact n
  | some z => exact k z e
theorem liftB_k {F : IX → IX → Option Bool} (n : K none) (k : ∀ z, F x y = some z → K (some (.bool z, ss))) : K (liftB F x y ss) := by
  unfold liftB
  cases e : F x y with
  | none => exact n
  | some z => exact k z e
end
theorem liftI_some {F : IX → IX → Option IX} {x y : IX} {ss ss' : SS} {v : MV} (h : liftI F x y ss = some (v, ss')) : ∃ z, F x y = some z ∧ v = .int z ∧ ss' = ss :=
  liftI_k (K := fun o => o = some (v, ss') → ∃ z, F x y = some z ∧ v = .int z ∧ ss' = ss) nn (fun z e h => have h := Prod.mk.inj (Option.some.inj h); ⟨z, e, h.1.symm, h.2.symm⟩) h
theorem liftB_some {F : IX → IX → Option Bool} {x y : IX} {ss ss' : SS} {v : MV} (h : liftB F x y ss = some (v, ss')) : ∃ z, F x y = some z ∧ v = .bool z ∧ ss' = ss :=
  liftB_k (K := fun o => o = some (v, ss') → ∃ z, F x y = some z ∧ v = .bool z ∧ ss' = ss) nn (fun z e h => have h := Prod.mk.inj (Option.some.inj h); ⟨z, e, h.1.symm, h.2.symm⟩) h
/-- an operation on two ints -/
noncomputable def intsM (F : IX → IX → Option IX) (a b : MV) (ss : SS) : Option (MV × SS) := match a with
  | .int x => match b with
    | .int y => liftI F x y ss
    | _ => .none
  | _ => .none
theorem Op2OK.ints {t : Value → Value → Sem Value} {F : IX → IX → Option IX}
    (h : ∀ (x y z : IX), F x y = some z → ∀ (A : Around) (tx ty : Tok) (Q E : Value → Shared → Prop) (s : Shared), (∀ tk, 0 < tk → ∀ tz, Q (.int (z.ev g.q) tz) { s with toks := tk }) → wpAny (model g.prog g.w) A (t (.int (x.ev g.q) tx) (.int (y.ev g.q) ty)) Q E s) : Op2OK g lv t (intsM F) := by
  refine Op2OK.of fun Γ c α ext G st a b wa wb s Q E K hl ha hb R hn hK => ?_
  cases a with
  | int x => cases b with
    | int y => exact liftI_k hn fun z e => hK _ _ fun hQ => ints_el (P := fun wa wb => wpAny (model g.prog g.w) c.A (t wa wb) Q E s) ha hb fun tx ty => h x y z e c.A tx ty Q E s fun tk ht tz => hQ _ α _ (List.suffix_refl _) (R.tok ht) rfl rfl
    | _ => exact hn
  | _ => exact hn
/-! + -/
noncomputable def newL (vs : List MV) (ss : SS) : Option (MV × SS) := match small vs.length with
  | true => some (.ref ss.n, ⟨ss.n + 1, .list vs :: ss.sto⟩)
  | false => .none
noncomputable def addM (a b : MV) (ss : SS) : Option (MV × SS) := match a with
  | .int x => match b with
    | .int y => liftI addX x y ss
    | _ => .none
  | .str x => match b with
    | .str y => match small (x.length + y.length) with
      | true => some (.str (x ++ y), ss)
      | false => .none
    | _ => .none
  | .ref i => match b with
    | .ref j => match listAt ss i with
      | .none => .none
      | some x => match listAt ss j with
        | .none => .none
        | some y => newL (x ++ y) ss
    | _ => .none
  | _ => .none
theorem str_app (x y : List Nat) : ((⟨x.toArray⟩ : Str) ++ (⟨y.toArray⟩ : Str)) = ⟨(x ++ y).toArray⟩ := by
  show (⟨x.toArray ++ y.toArray⟩ : Str) = _
  congr 1
  simp
theorem str_len (x : List Nat) : (⟨x.toArray⟩ : Str).length = x.length := by
  show x.toArray.size = _
  simp
theorem VsOK.append {q : Int} {α : List Addr} {vs us : List MV} {ws zs : List Value} (h : VsOK q α vs ws) (k : VsOK q α us zs) : VsOK q α (vs ++ us) (ws ++ zs) := by
  induction h with
  | nil => exact k
  | cons h1 _ ih => exact .cons h1 ih
theorem newL_k {K : Option (MV × SS) → Prop} {vs : List MV} {ss : SS} (n : K none) (k : vs.length < 1000000 → K (some (.ref ss.n, ⟨ss.n + 1, .list vs :: ss.sto⟩))) : K (newL vs ss) := by
  unfold newL
  cases e : small vs.length with
  | false => exact n
  | true => exact k (small_lt e)
theorem newL_some {vs : List MV} {ss ss' : SS} {v : MV} (h : newL vs ss = some (v, ss')) : vs.length < 1000000 ∧ v = .ref ss.n ∧ ss' = ⟨ss.n + 1, .list vs :: ss.sto⟩ :=
  newL_k (K := fun o => o = some (v, ss') → vs.length < 1000000 ∧ v = .ref ss.n ∧ ss' = ⟨ss.n + 1, .list vs :: ss.sto⟩) nn (fun e h => have h := Prod.mk.inj (Option.some.inj h); ⟨e, h.1.symm, h.2.symm⟩) h
/-- the end of a step that makes a list -/
theorem made_list {c : Cx g Γ} {α : List Addr} {ext : List (Addr × Obj)} {G : List GenState} {st : PS} {s : Shared} {m : Str → Option Value} {led bl : List (Addr × Obj)} (R : RelX c α ext G st s m led bl)
    {vs : List MV} {ws : List Value} {n : Nat} {l : Addr} {h' : Heap} {tk : Nat} {Q : Value → Shared → Prop} (F : Fr c.h₀ c.L h' m) (N : News c.h₀ c.L h' ((l, W.listOf ws.toArray n) :: (led ++ (bl ++ ext)))) (hl : ∀ p ∈ led ++ (bl ++ ext), p.1 < l)
    (hv : VsOK g.q α vs ws) (ht : 0 < tk) (hQ : ∀ w, After c α ext G s { st with ss := ⟨st.ss.n + 1, .list vs :: st.ss.sto⟩ } fun α' s' => VOK g.q α' (.ref st.ss.n) w → Q w s') :
    Q (.ref l) { s with heap := h', toks := tk } :=
  hQ (.ref l) (l :: α) _ (List.suffix_cons _ _) (Rel.alloc R F N hl ⟨ws, n, rfl, hv.mono (List.suffix_cons _ _)⟩ ht) rfl (Rel.ref R l)
theorem News.below {h₀ h : Heap} {L : Addr} {news : List (Addr × Obj)} (N : News h₀ L h news) : ∀ p ∈ news, p.1 < h.objs.size := fun p hp => Heap.lt_size (N p hp).1
theorem line_of {n : Nat} (h : n < 1000000) : n ≤ sizeLine := by rw [sizeLine_eq]; omega
set_option smartUnfolding false in
theorem add_ok : Op2OK g lv (binaryOp .Add) addM := by
  refine Op2OK.of fun Γ c α ext G st a b wa wb s Q E K hl ha hb R hn hK => ?_
  cases a with
  | int x => cases b with
    | int y => exact liftI_k hn fun z e => hK _ _ fun hQ => ints_el (P := fun wa wb => wpAny (model g.prog g.w) c.A (binaryOp .Add wa wb) Q E s) ha hb fun tx ty => add_int (hQ _ α _ (List.suffix_refl _) (R.tok (Nat.succ_pos _)) rfl (addX_ev e))
    | _ => exact hn
  | str x => cases b with
    | str y =>
      refine kb (K := K) hn fun hsm => hK _ _ fun hQ => ?_
      refine strs_el (P := fun wa wb => wpAny (model g.prog g.w) c.A (binaryOp .Add wa wb) Q E s) ha hb fun tx ty => ?_
      refine pos_toks R.pos (SB.add (fun t' k hk => ?_) ?_)
      · rw [str_app]
        exact hQ _ α _ (List.suffix_refl _) (R.tok hk) rfl rfl
      · rw [str_len, str_len]
        exact line_of (small_lt hsm)
    | _ => exact hn
  | ref i => cases b with
    | ref j =>
      refine ko (K := K) hn fun x ex => ?_
      refine ko (K := K) hn fun y ey => ?_
      refine newL_k hn fun hlen => hK _ _ fun hQ => ?_
      cases R with | mk m led bl R =>
      refine R.listEl (P := fun wa => wpAny (model g.prog g.w) c.A (binaryOp .Add wa wb) Q E s) ha ex fun a1 ws1 n1 h1 hv1 hl1 => ?_
      refine R.listEl (P := fun wb => wpAny (model g.prog g.w) c.A (binaryOp .Add (.ref a1) wb) Q E s) hb ey fun a2 ws2 n2 h2 hv2 hl2 => ?_
      refine add_arrays R.F R.N (isList_of h1) (isList_of h2) (fun h' F' N' => ?_) (by rw [List.size_toArray, List.size_toArray, hl1, hl2, ← List.length_append]; exact line_of hlen)
      exact made_list R F' N' (News.below R.N) (hv1.append hv2) R.tk hQ
    | _ => exact hn
  | _ => exact hn
/-! -, *, //, %, ** -/
noncomputable def subM : MV → MV → SS → Option (MV × SS) := intsM subX
theorem sub_ok : Op2OK g lv (binaryOp .Sub) subM := Op2OK.ints fun _ _ _ e _ _ _ _ _ _ h => sub_int (subX_ev e ▸ h _ (Nat.succ_pos _) _)
theorem isub_ok : Op2OK g lv (inplaceOp .Sub) subM := Op2OK.ints fun _ _ _ e _ _ _ _ _ _ h => PyProof.Rows.isub_int (subX_ev e ▸ h _ (Nat.succ_pos _) _)
noncomputable def iaddM : MV → MV → SS → Option (MV × SS) := intsM addX
theorem iadd_ok : Op2OK g lv (inplaceOp .Add) iaddM := Op2OK.ints fun _ _ _ e _ _ _ _ _ _ h => PyProof.Rows.iadd_int (addX_ev e ▸ h _ (Nat.succ_pos _) _)
noncomputable def imulM : MV → MV → SS → Option (MV × SS) := intsM mulX
theorem imul_ok : Op2OK g lv (inplaceOp .Mult) imulM := Op2OK.ints fun _ _ _ e _ _ _ _ _ _ h => imul_int ((mulX_ok g.hq e).1 ▸ h _ (Nat.succ_pos _) _) (mulX_ok g.hq e).2
noncomputable def repL {β : Type} (x : List β) : Nat → List β
  | 0 => []
  | n + 1 => x ++ repL x n
theorem repL_len {β : Type} (x : List β) : ∀ n, (repL x n).length = n * x.length
  | 0 => by simp [repL]
  | n + 1 => by rw [repL, List.length_append, repL_len x n, Nat.succ_mul]; omega
theorem foldl_rep {β : Type} (x acc : List β) : ∀ n, List.foldl (fun (a b : Array β) => a ++ b) acc.toArray (List.replicate n x.toArray) = (acc ++ repL x n).toArray
  | 0 => by simp [repL]
  | n + 1 => by
    rw [List.replicate_succ, List.foldl_cons]
    have : acc.toArray ++ x.toArray = (acc ++ x).toArray := by simp
    rw [this, foldl_rep x (acc ++ x) n, repL, List.append_assoc]
theorem repL_ok {q : Int} {α : List Addr} {vs : List MV} {ws : List Value} (h : VsOK q α vs ws) : ∀ n, VsOK q α (repL vs n) (repL ws n)
  | 0 => .nil
  | n + 1 => h.append (repL_ok h n)
noncomputable def mulM (a b : MV) (ss : SS) : Option (MV × SS) := match a with
  | .int x => match b with
    | .int y => liftI mulX x y ss
    | _ => .none
  | .str x => match b with
    | .int (.c n) => match small n.natAbs, small (n.toNat * x.length), small x.length with
      | true, true, true => some (.str (repL x n.toNat), ss)
      | _, _, _ => .none
    | _ => .none
  | .ref i => match b with
    | .int (.c n) => match listAt ss i with
      | .none => .none
      | some x => match small n.natAbs, small (x.length * n.toNat), nonempty x with
        | true, true, true => newL (repL x n.toNat) ss
        | _, _, _ => .none
    | _ => .none
  | _ => .none
theorem txt_mul (x : List Nat) (n : Int) : Txt.mul ⟨x.toArray⟩ n = ⟨(repL x n.toNat).toArray⟩ := by
  unfold Txt.mul
  split
  · rename_i h
    have : n.toNat = 0 := by omega
    rw [this]
    rfl
  · split
    · rename_i h1 h2
      rw [Bool.or_eq_true, beq_iff_eq, beq_iff_eq, str_len] at h2
      rcases h2 with rfl | h2
      · show _ = (⟨(repL x 1).toArray⟩ : Str)
        simp [repL]
      · have : x = [] := List.length_eq_zero_iff.mp h2
        subst this
        have : ∀ k, repL ([] : List Nat) k = [] := fun k => List.length_eq_zero_iff.mp (by rw [repL_len]; simp)
        rw [this]
    · have := foldl_rep x [] n.toNat
      simp only [List.nil_append] at this
      rw [← this]
theorem mul_room {x n : Int} {l k : Nat} (h : k * l < 1000000) (e : n.toNat = k) (ex : x = l) (hn : ¬ n < 1) : ¬ (x > (2 ^ 63 - 1) / n) := by
  subst e ex
  have hn : 1 ≤ n := Int.not_lt.mp hn
  refine Int.not_lt.mpr ((Int.le_ediv_iff_mul_le hn).mpr ?_)
  have e : n = (n.toNat : Int) := (Int.toNat_of_nonneg (Int.le_trans (by decide) hn)).symm
  rw [e, ← Int.natCast_mul, Nat.mul_comm]
  exact Int.le_trans (Int.ofNat_le.mpr (Nat.le_of_lt h)) (by decide)
theorem abs_fits {n : Int} (h : n.natAbs < 1000000) : -2 ^ 63 ≤ n ∧ n < 2 ^ 63 := by omega
theorem abs_line {n : Int} (h : n.natAbs < 1000000) : (decide (n < -2 ^ 63) || decide (n ≥ 2 ^ 63)) = false := by
  have := abs_fits h
  rw [decide_eq_false (Int.not_lt.mpr this.1), decide_eq_false (Int.not_le.mpr this.2)]; rfl
theorem kbbb {γ : Type} {K : Option γ → Prop} {b b2 b3 : Bool} {x : Option γ} (n : K none) (k : b = true → b2 = true → b3 = true → K x) : K (match (generalizing := false) b, b2, b3 with | true, true, true => x | _, _, _ => none) := by
  cases b with
  | false => exact n
  | true => cases b2 with
    | false => exact n
    | true => cases b3 with
      | false => exact n
      | true => exact k rfl rfl rfl
set_option smartUnfolding false in
theorem mul_ok : Op2OK g lv (binaryOp .Mult) mulM := by
  refine Op2OK.of fun Γ c α ext G st a b wa wb s Q E K hl ha hb R hn hK => ?_
  cases a with
  | int x => cases b with
    | int y => exact liftI_k hn fun z e => hK _ _ fun hQ => ints_el (P := fun wa wb => wpAny (model g.prog g.w) c.A (binaryOp .Mult wa wb) Q E s) ha hb fun tx ty => mul_int (hQ _ α _ (List.suffix_refl _) (R.tok (Nat.succ_pos _)) rfl (mulX_ok g.hq e).1) (mulX_ok g.hq e).2
    | _ => exact hn
  | str x => cases b with
    | int y => cases y with
      | c n =>
        refine kbbb (K := K) hn fun h1 h2 h3 => hK _ _ fun hQ => ?_
        refine ha.str_el (P := fun wa => wpAny (model g.prog g.w) c.A (binaryOp .Mult wa wb) Q E s) fun t => ?_
        refine hb.int_el (P := fun wb => wpAny (model g.prog g.w) c.A (binaryOp .Mult (.str ⟨x.toArray⟩ t) wb) Q E s) fun u => ?_
        refine pos_toks R.pos (SB.mul ⟨abs_line (small_lt h1), fun hn _ => ?_, fun hn _ => ?_⟩ fun t' k hk => ?_)
        · rw [str_len]
          exact mul_room (small_lt h2) rfl rfl hn
        · rw [str_len]
          show Builtin.Str.tooLong (x.length * n.toNat) = false
          rw [Nat.mul_comm]
          unfold Builtin.Str.tooLong
          exact decide_eq_false (Nat.not_lt.mpr (line_of (small_lt h2)))
        · rw [show (IX.c n).ev g.q = n from rfl, txt_mul]
          exact hQ _ α _ (List.suffix_refl _) (R.tok hk) rfl rfl
      | _ => exact hn
    | _ => exact hn
  | ref i => cases b with
    | int y => cases y with
      | c n =>
        refine ko (K := K) hn fun x ex => ?_
        refine kbbb (K := K) hn fun h1 h2 h3 => ?_
        refine newL_k hn fun hlen => hK _ _ fun hQ => ?_
        cases R with | mk m led bl R =>
        refine R.listEl (P := fun wa => wpAny (model g.prog g.w) c.A (binaryOp .Mult wa wb) Q E s) ha ex fun a1 ws1 n1 g1 hv1 hl1 => ?_
        refine hb.int_el (P := fun wb => wpAny (model g.prog g.w) c.A (binaryOp .Mult (.ref a1) wb) Q E s) fun u => ?_
        have hne : ws1.toArray.isEmpty = false := by
          have := (isList_empty hl1).trans h3
          cases e : ws1.toArray.isEmpty with
          | false => rfl
          | true => rw [e] at this; exact ff this
        have hf := abs_fits (small_lt h1)
        refine mul_list R.F R.N g1 hf.1 hf.2 (by show ws1.toArray.size * n.toNat ≤ 2 ^ 24; rw [List.size_toArray, hl1]; exact Nat.le_trans (Nat.le_of_lt (small_lt h2)) (by decide)) fun h' F' N' => ?_
        rw [hne] at N'
        have := foldl_rep ws1 [] n.toNat
        rw [show (if (false : Bool) = true then 0 else ((IX.c n).ev g.q).toNat) = n.toNat from rfl, show (#[] : Array Value) = ([] : List Value).toArray from rfl, this, List.nil_append] at N'
        exact made_list R F' N' (News.below R.N) (repL_ok hv1 _) R.tk hQ
      | _ => exact hn
    | _ => exact hn
  | _ => exact hn
noncomputable def divM : MV → MV → SS → Option (MV × SS) := intsM divX
theorem div_ok : Op2OK g lv (binaryOp .FloorDiv) divM := Op2OK.ints fun _ _ _ e _ _ _ _ _ _ h => have d := divX_ok (q := g.q) e; floordiv_int d.2.1 (d.1 ▸ h _ (Nat.succ_pos _) _) (.inl d.2.2)
noncomputable def modM : MV → MV → SS → Option (MV × SS) := intsM modX
theorem mod_ok : Op2OK g lv (binaryOp .Mod) modM := Op2OK.ints fun _ _ _ e _ _ _ _ _ _ h => have d := modX_ok (q := g.q) e; mod_int' d.2 (d.1 ▸ h _ (Nat.succ_pos _) _)
noncomputable def powM : MV → MV → SS → Option (MV × SS) := intsM powX
theorem pow_ok : Op2OK g lv (binaryOp .Pow) powM := Op2OK.ints fun _ _ _ e _ _ _ _ _ _ h => have d := powX_ok (q := g.q) e; pow_int d.2.1 d.2.2 (d.1 ▸ h _ (Nat.succ_pos _) _)
noncomputable def negM (a : MV) (ss : SS) : Option (MV × SS) := match a with
  | .int x => match negX x with
    | .none => .none
    | some z => some (.int z, ss)
  | _ => .none
set_option smartUnfolding false in
theorem neg_ok : Op1OK g lv (unaryOp .USub) negM := by
  refine Op1OK.of fun Γ c α ext G st a wa s Q E K hl ha R hn hK => ?_
  cases a with
  | int x =>
    refine ko (K := K) hn fun z e => hK _ _ fun hQ => ?_
    exact ha.int_el (P := fun wa => wpAny (model g.prog g.w) c.A (unaryOp .USub wa) Q E s) fun t => neg_int (hQ _ α _ (List.suffix_refl _) (R.tok (Nat.succ_pos _)) rfl (negX_ev e))
  | _ => exact hn
end Mine
end P6
section P7
open PySem PySem.W PyProof.Rows PySem.Calls PySem.Spec PySem.SeqAt
namespace Mine
variable {g : Gl} {Γ : Sta} {lv : Nat}
/-! comparisons -/
noncomputable def beqN : List Nat → List Nat → Bool
  | [], [] => true
  | a :: x, b :: y => match Nat.beq a b with
    | true => beqN x y
    | false => false
  | _, _ => false
theorem beqN_iff : ∀ {x y : List Nat}, beqN x y = true ↔ x = y := by
  intro x
  induction x with
  | nil => intro y; cases y with
    | nil => exact ⟨fun _ => rfl, fun _ => rfl⟩
    | cons _ _ => exact ⟨fun h => ff h, fun h => nomatch h⟩
  | cons a x ih => intro y; cases y with
    | nil => exact ⟨fun h => ff h, fun h => nomatch h⟩
    | cons b y =>
      show (match Nat.beq a b with | true => beqN x y | false => false) = true ↔ _
      rw [List.cons.injEq, ← ih]
      cases e : Nat.beq a b with
      | true => exact ⟨fun h => ⟨Nat.eq_of_beq_eq_true e, h⟩, fun h => h.2⟩
      | false => exact ⟨fun h => ff h, fun h => absurd h.1 (Nat.ne_of_beq_eq_false e)⟩
theorem beqN_str (x y : List Nat) : ((⟨x.toArray⟩ : Str) == (⟨y.toArray⟩ : Str)) = beqN x y := by
  rw [Bool.eq_iff_iff, beqN_iff, beq_iff_eq]
  exact ⟨fun h => congrArg (fun s : Str => s.cps.toList) h, fun h => by rw [h]⟩
noncomputable def pair2 : List MV → Option (IX × IX)
  | [.int a, .int b] => some (a, b)
  | _ => none
noncomputable def tupAt (ss : SS) (k : Nat) : Option (List MV) := match fromEnd ss.n ss.sto k with
  | some (.tuple vs) => some vs
  | _ => none
set_option smartUnfolding false in
theorem tupAt_some {ss : SS} {k : Nat} {vs : List MV} (h : tupAt ss k = some vs) : fromEnd ss.n ss.sto k = some (.tuple vs) := by
  unfold tupAt at h
  exact emo_tup h fun v e h => e.trans (congrArg (fun v => some (MO.tuple v)) (Option.some.inj h))
noncomputable def eqM (a b : MV) (ss : SS) : Option (MV × SS) := match a with
  | .int x => match b with
    | .int y => liftB eqX x y ss
    | _ => .none
  | .str x => match b with
    | .str y => some (.bool (beqN x y), ss)
    | _ => .none
  | .bool x => match b with
    | .bool y => some (.bool (x == y), ss)
    | _ => .none
  | .ref i => match b with
    | .ref j => match (tupAt ss i).bind pair2 with
      | .none => .none
      | some (a, b) => match (tupAt ss j).bind pair2 with
        | .none => .none
        | some (c, d) => match eqX a c with
          | .none => .none
          | some r => match eqX b d with
            | .none => .none
            | some t => some (.bool (r && t), ss)
    | _ => .none
  | _ => .none
theorem pair2_some {vs : List MV} {a b : IX} (h : pair2 vs = some (a, b)) : vs = [.int a, .int b] := by
  cases vs with
  | nil => exact nn h
  | cons x vs => cases vs with
    | nil => cases x <;> exact nn h
    | cons y vs => cases vs with
      | cons _ _ => cases x <;> first | exact nn h | (cases y <;> exact nn h)
      | nil => cases x with
        | int x => cases y with
          | int y => have h := Prod.mk.inj (Option.some.inj h); rw [h.1, h.2]
          | _ => exact nn h
        | _ => exact nn h
theorem tup2_some {ss : SS} {k : Nat} {a b : IX} (h : (tupAt ss k).bind pair2 = some (a, b)) : fromEnd ss.n ss.sto k = some (.tuple [.int a, .int b]) :=
  (Option.bind_eq_some_iff.mp h).elim fun _ h => pair2_some h.2 ▸ tupAt_some h.1
theorem ints2_eq {A : Around} {s : Shared} {a b c d : Int} {r t : Bool} {ta tb tc td : Tok} (e3 : (a == c) = r) (e4 : (b == d) = t) (j : Nat) (h1 : j < [Value.int a ta, .int b tb].toArray.size) (h2 : j < [Value.int c tc, .int d td].toArray.size) :
    EqAt A s [Value.int a ta, .int b tb].toArray[j] [Value.int c tc, .int d td].toArray[j] (Nat.rec r (fun _ _ => t) j) := by
  cases j with
  | zero => exact e3 ▸ EqAt.int_int _ _ _ _
  | succ j => cases j with
    | zero => exact e4 ▸ EqAt.int_int _ _ _ _
    | succ j => exact absurd h1 (Nat.not_lt.mpr (Nat.le_add_left 2 j))
set_option smartUnfolding false in
theorem eq_ok : Op2OK g lv (compareOp .Eq) eqM := by
  refine Op2OK.of fun Γ c α ext G st a b wa wb s Q E K hl ha hb R hn hK => ?_
  cases a with
  | int x => cases b with
    | int y => exact liftB_k hn fun z e => hK _ _ fun hQ => ints_el (P := fun wa wb => wpAny (model g.prog g.w) c.A (compareOp .Eq wa wb) Q E s) ha hb fun tx ty => eq_int (eqX_ok e ▸ hQ _ α _ (List.suffix_refl _) R rfl rfl)
    | _ => exact hn
  | str x => cases b with
    | str y => exact hK _ _ fun hQ => strs_el (P := fun wa wb => wpAny (model g.prog g.w) c.A (compareOp .Eq wa wb) Q E s) ha hb fun tx ty => eq_str (beqN_str x y ▸ hQ _ α _ (List.suffix_refl _) R rfl rfl)
    | _ => exact hn
  | bool x => cases b with
    | bool y => exact hK _ _ fun hQ => ha.bool_el (P := fun wa => wpAny (model g.prog g.w) c.A (compareOp .Eq wa wb) Q E s) (hb.bool_el (P := fun wb => wpAny (model g.prog g.w) c.A (compareOp .Eq (.bool x) wb) Q E s) (eq_bool (hQ _ α _ (List.suffix_refl _) R rfl rfl)))
    | _ => exact hn
  | ref i => cases b with
    | ref j =>
      refine kop (K := K) hn fun x1 y1 e1 => ?_
      refine kop (K := K) hn fun x2 y2 e2 => ?_
      refine ko (K := K) hn fun r e3 => ?_
      refine ko (K := K) hn fun t e4 => hK _ _ fun hQ => ?_
      cases id R with | mk m led bl R' =>
      refine R'.tupEl (P := fun wa => wpAny (model g.prog g.w) c.A (compareOp .Eq wa wb) Q E s) ha (tup2_some e1) fun a1 ws1 h1 hv1 _ => ?_
      refine R'.tupEl (P := fun wb => wpAny (model g.prog g.w) c.A (compareOp .Eq (.ref a1) wb) Q E s) hb (tup2_some e2) fun a2 ws2 h2 hv2 _ => ?_
      refine hv1.two (P := fun ws1 => s.heap.IsTuple a1 ws1.toArray → wpAny (model g.prog g.w) c.A (compareOp .Eq (.ref a1) (.ref a2)) Q E s) (fun w1 w2 k1 k2 h1 => ?_) h1
      refine hv2.two (P := fun ws2 => s.heap.IsTuple a2 ws2.toArray → wpAny (model g.prog g.w) c.A (compareOp .Eq (.ref a1) (.ref a2)) Q E s) (fun w3 w4 k3 k4 h2 => ?_) h2
      obtain ⟨t1, rfl⟩ := k1.int_inv
      obtain ⟨t2, rfl⟩ := k2.int_inv
      obtain ⟨t3, rfl⟩ := k3.int_inv
      obtain ⟨t4, rfl⟩ := k4.int_inv
      refine eq_tupleAt h1 h2 c.units (ints2_eq (eqX_ok e3) (eqX_ok e4)) ?_
      have : ((List.range (min 2 2)).all (fun j => (Nat.rec r (fun _ _ => t) j : Bool)) && (2 == 2)) = (r && t) := by
        cases r <;> cases t <;> rfl
      exact this ▸ hQ _ α _ (List.suffix_refl _) R rfl rfl
    | _ => exact hn
  | none => exact hn
  | old => exact hn
noncomputable def strsOf : List MV → Option (List (List Nat))
  | [] => some []
  | .str x :: r => match strsOf r with
    | some l => some (x :: l)
    | none => none
  | _ => none
set_option smartUnfolding false in
theorem strsOf_ok {q : Int} {α : List Addr} {vs : List MV} {ws : List Value} (h : VsOK q α vs ws) : ∀ {xs : List (List Nat)}, strsOf vs = some xs → StrsAre ws (xs.map fun x => (⟨x.toArray⟩ : Str)) := by
  induction h with
  | nil => intro xs e; exact Option.some.inj e ▸ .nil
  | cons h1 _ ih =>
    intro xs e
    rename_i v w vs ws _
    cases v with
    | str x =>
      refine eo (o := strsOf vs) e fun l e' e => ?_
      rw [← Option.some.inj e]
      exact h1.str_el (P := fun w => StrsAre (w :: ws) _) fun t => .cons _ t (ih e')
    | _ => exact nn e
theorem StrsAre.getE {ws : List Value} {ys : List Str} (h : StrsAre ws ys) : ∀ {j : Nat} (h1 : j < ws.length) (h2 : j < ys.length), ∃ t, ws[j] = .str ys[j] t := by
  induction h with
  | nil => intro j h1; exact absurd h1 (Nat.not_lt_zero _)
  | cons y t _ ih =>
    intro j h1 h2
    cases j with
    | zero => exact ⟨t, rfl⟩
    | succ j => exact ih (Nat.lt_of_succ_lt_succ h1) (Nat.lt_of_succ_lt_succ h2)
theorem StrsAre.len {ws : List Value} {ys : List Str} (h : StrsAre ws ys) : ws.length = ys.length := by
  induction h with
  | nil => rfl
  | cons _ _ _ ih => exact congrArg (· + 1) ih
noncomputable def neM (a b : MV) (ss : SS) : Option (MV × SS) := match a with
  | .int x => match b with
    | .int y => match eqX x y with
      | .none => .none
      | some r => some (.bool (!r), ss)
    | _ => .none
  | .ref i => match b with
    | .ref j => match (listAt ss i).bind strsOf with
      | .none => .none
      | some xs => match (listAt ss j).bind strsOf with
        | .none => .none
        | some ys => match Nat.beq xs.length ys.length with
          | false => some (.bool true, ss)
          | true => some (.bool (!((List.range xs.length).all fun j => beqN (xs.getD j []) (ys.getD j []))), ss)
    | _ => .none
  | _ => .none
theorem strs2_eq {A : Around} {s : Shared} {ws1 ws2 : List Value} {xs ys : List (List Nat)} (s1 : StrsAre ws1 (xs.map fun x => (⟨x.toArray⟩ : Str))) (s2 : StrsAre ws2 (ys.map fun x => (⟨x.toArray⟩ : Str))) (j : Nat) (h1 : j < ws1.toArray.size) (h2 : j < ws2.toArray.size) :
    EqAt A s ws1.toArray[j] ws2.toArray[j] (beqN (xs.getD j []) (ys.getD j [])) := by
  rw [List.size_toArray] at h1 h2
  have l1 := StrsAre.len s1
  have l2 := StrsAre.len s2
  have hx : j < xs.length := by rw [List.length_map] at l1; exact l1 ▸ h1
  have hy : j < ys.length := by rw [List.length_map] at l2; exact l2 ▸ h2
  refine (StrsAre.getE s1 h1 (l1 ▸ h1)).elim fun t1 q1 => (StrsAre.getE s2 h2 (l2 ▸ h2)).elim fun t2 q2 => ?_
  rw [List.getElem_toArray, List.getElem_toArray, q1, q2, List.getElem_map, List.getElem_map, List.getD_eq_getElem?_getD, List.getD_eq_getElem?_getD, List.getElem?_eq_getElem hx, List.getElem?_eq_getElem hy, Option.getD_some, Option.getD_some, ← beqN_str]
  exact (eqGives_str _ _ _ _).at _ _
set_option smartUnfolding false in
theorem ne_ok : Op2OK g lv (compareOp .NotEq) neM := by
  refine Op2OK.of fun Γ c α ext G st a b wa wb s Q E K hl ha hb R hn hK => ?_
  cases a with
  | int x => cases b with
    | int y =>
      refine ko (K := K) hn fun r e => hK _ _ fun hQ => ?_
      refine ints_el (P := fun wa wb => wpAny (model g.prog g.w) c.A (compareOp .NotEq wa wb) Q E s) ha hb fun tx ty => ne_int ?_
      rw [bne, eqX_ok e]
      exact hQ _ α _ (List.suffix_refl _) R rfl rfl
    | _ => exact hn
  | ref i => cases b with
    | ref j =>
      refine ko (K := K) hn fun xs e1 => ?_
      refine ko (K := K) hn fun ys e2 => ?_
      refine (Option.bind_eq_some_iff.mp e1).elim fun vs1 e1 => (Option.bind_eq_some_iff.mp e2).elim fun vs2 e2 => ?_
      cases id R with | mk m led bl R' =>
      refine kbb (K := K) (fun heq => hK _ _ fun hQ => ?_) fun hne => hK _ _ fun hQ => ?_
      · refine R'.listEl (P := fun wa => wpAny (model g.prog g.w) c.A (compareOp .NotEq wa wb) Q E s) ha e1.1 fun a1 ws1 n1 g1 hv1 _ => ?_
        refine R'.listEl (P := fun wb => wpAny (model g.prog g.w) c.A (compareOp .NotEq (.ref a1) wb) Q E s) hb e2.1 fun a2 ws2 n2 g2 hv2 _ => ?_
        have s1 := strsOf_ok hv1 e1.2
        have s2 := strsOf_ok hv2 e2.2
        have l1 := StrsAre.len s1
        have l2 := StrsAre.len s2
        rw [List.length_map] at l1 l2
        refine cmp_ofNotEq (RcNeAt.lists (isList_of g1) (isList_of g2) (by rw [List.size_toArray, List.size_toArray, l1, l2, Nat.eq_of_beq_eq_true heq]) c.units (strs2_eq s1 s2) g.prog g.w E Q ?_)
        rw [List.size_toArray, l1]
        exact hQ _ α _ (List.suffix_refl _) R rfl rfl
      · refine R'.listEl (P := fun wa => wpAny (model g.prog g.w) c.A (compareOp .NotEq wa wb) Q E s) ha e1.1 fun a1 ws1 n1 g1 hv1 _ => ?_
        refine R'.listEl (P := fun wb => wpAny (model g.prog g.w) c.A (compareOp .NotEq (.ref a1) wb) Q E s) hb e2.1 fun a2 ws2 n2 g2 hv2 _ => ?_
        have l1 := StrsAre.len (strsOf_ok hv1 e1.2)
        have l2 := StrsAre.len (strsOf_ok hv2 e2.2)
        rw [List.length_map] at l1 l2
        refine cmp_ofNotEq (RcNeAt.lists_lengths (isList_of g1) (isList_of g2) ?_ c.units g.prog g.w E Q (hQ _ α _ (List.suffix_refl _) R rfl rfl))
        rw [List.size_toArray, List.size_toArray, l1, l2]
        exact bne_iff_ne.mpr (Nat.ne_of_beq_eq_false hne)
    | _ => exact hn
  | _ => exact hn
noncomputable def ordM (F : IX → IX → Option Bool) (a b : MV) (ss : SS) : Option (MV × SS) := match a with
  | .int x => match b with
    | .int y => liftB F x y ss
    | _ => .none
  | _ => .none
theorem Op2OK.ords {t : Value → Value → Sem Value} {F : IX → IX → Option Bool}
    (h : ∀ (x y : IX) (z : Bool), F x y = some z → ∀ (A : Around) (tx ty : Tok) (Q E : Value → Shared → Prop) (s : Shared), Q (.bool z) s → wpAny (model g.prog g.w) A (t (.int (x.ev g.q) tx) (.int (y.ev g.q) ty)) Q E s) : Op2OK g lv t (ordM F) := by
  refine Op2OK.of fun Γ c α ext G st a b wa wb s Q E K hl ha hb R hn hK => ?_
  cases a with
  | int x => cases b with
    | int y => exact liftB_k hn fun z e => hK _ _ fun hQ => ints_el (P := fun wa wb => wpAny (model g.prog g.w) c.A (t wa wb) Q E s) ha hb fun tx ty => h x y z e c.A tx ty Q E s (hQ _ α _ (List.suffix_refl _) R rfl rfl)
    | _ => exact hn
  | _ => exact hn
theorem lt_ok : Op2OK g lv (compareOp .Lt) (ordM ltX) := Op2OK.ords fun _ _ _ e _ _ _ _ _ _ h => lt_int (ltX_ok e ▸ h)
theorem le_ok : Op2OK g lv (compareOp .LtE) (ordM leX) := Op2OK.ords fun _ _ _ e _ _ _ _ _ _ h => le_int (leX_ok e ▸ h)
noncomputable def gtM : MV → MV → SS → Option (MV × SS) := ordM fun x y => ltX y x
theorem gt_ok : Op2OK g lv (compareOp .Gt) gtM := Op2OK.ords fun _ _ _ e _ _ _ _ _ _ h => gt_int (ltX_ok e ▸ h)
/-- is, for what is no object -/
noncomputable def isM (a b : MV) (ss : SS) : Option (MV × SS) := match b with
  | .none => match a with
    | .none => some (.bool true, ss)
    | .int _ => some (.bool false, ss)
    | .str _ => some (.bool false, ss)
    | .bool _ => some (.bool false, ss)
    | .ref _ => some (.bool false, ss)
    | .old _ => some (.bool false, ss)
  | .bool y => match a with
    | .bool x => some (.bool (x == y), ss)
    | _ => .none
  | _ => .none
theorem is_ok : Op2OK g lv (compareOp .Is) isM := by
  refine Op2OK.of fun Γ c α ext G st a b wa wb s Q E K hl ha hb R hn hK => ?_
  cases b with
  | none =>
    have no : ∀ x, (wa == Value.none) = x → K (some (.bool x, st.ss)) := fun x e => hK _ _ fun hQ => hb.none_el (P := fun wb => wpAny (model g.prog g.w) c.A (compareOp .Is wa wb) Q E s) (PySem.is_none (e ▸ hQ _ α _ (List.suffix_refl _) R rfl rfl))
    cases a with
    | none => exact no true (ha.none_el (P := fun wa => (wa == Value.none) = true) rfl)
    | int x => exact no false (ha.int_el (P := fun wa => (wa == Value.none) = false) fun _ => rfl)
    | str x => exact no false (ha.str_el (P := fun wa => (wa == Value.none) = false) fun _ => rfl)
    | bool x => exact no false (ha.bool_el (P := fun wa => (wa == Value.none) = false) rfl)
    | ref x => exact no false (ha.ref_el (P := fun wa => (wa == Value.none) = false) fun _ _ => rfl)
    | old x => exact no false (ha.old_el (P := fun wa => (wa == Value.none) = false) rfl)
  | bool y => cases a with
    | bool x =>
      refine hK _ _ fun hQ => ha.bool_el (P := fun wa => wpAny (model g.prog g.w) c.A (compareOp .Is wa wb) Q E s) (hb.bool_el (P := fun wb => wpAny (model g.prog g.w) c.A (compareOp .Is (.bool x) wb) Q E s) ?_)
      rw [show compareOp .Is (.bool x) (.bool y) = pure (.bool ((Value.bool x) == (Value.bool y))) from rfl]
      have : ((Value.bool x) == (Value.bool y)) = (x == y) := by cases x <;> cases y <;> rfl
      exact wpAny_pure (this ▸ hQ _ α _ (List.suffix_refl _) R rfl rfl)
    | _ => exact hn
  | _ => exact hn
end Mine
end P7
section P8
open PySem PySem.W PyProof.Rows PySem.Calls PySem.Spec PySem.SeqAt
namespace Mine
variable {g : Gl} {Γ : Sta} {lv : Nat}
/-! in, not in -/
noncomputable def memN (k : Nat) : List Nat → Bool
  | [] => false
  | a :: r => match Nat.beq a k with
    | true => true
    | false => memN k r
theorem memN_iff {k : Nat} {l : List Nat} : memN k l = true ↔ k ∈ l := by
  induction l with
  | nil => exact ⟨fun h => ff h, fun h => nomatch h⟩
  | cons a r ih =>
    show (match Nat.beq a k with | true => true | false => memN k r) = true ↔ _
    rw [List.mem_cons, ← ih]
    cases e : Nat.beq a k with
    | true => exact ⟨fun _ => .inl (Nat.eq_of_beq_eq_true e).symm, fun _ => rfl⟩
    | false => exact ⟨.inr, fun h => h.elim (fun h => absurd h.symm (Nat.ne_of_beq_eq_false e)) id⟩
noncomputable def memS (k : List Nat) : List (List Nat) → Bool
  | [] => false
  | a :: r => match beqN a k with
    | true => true
    | false => memS k r
theorem memS_any (k : List Nat) (l : List (List Nat)) : ((l.map fun x => (⟨x.toArray⟩ : Str)).any fun x => x == (⟨k.toArray⟩ : Str)) = memS k l := by
  induction l with
  | nil => rfl
  | cons a r ih =>
    rw [List.map_cons, List.any_cons, beqN_str, ih]
    show _ = (match beqN a k with | true => true | false => memS k r)
    cases beqN a k <;> rfl
noncomputable def intsOf : List MV → Option (List Int)
  | [] => some []
  | .int (.c i) :: r => match intsOf r with
    | some l => some (i :: l)
    | none => none
  | _ => none
set_option smartUnfolding false in
theorem intsOf_ok {q : Int} {α : List Addr} {vs : List MV} {ws : List Value} (h : VsOK q α vs ws) : ∀ {xs : List Int}, intsOf vs = some xs → IntsAre ws xs := by
  induction h with
  | nil => intro xs e; exact Option.some.inj e ▸ .nil
  | cons h1 _ ih =>
    intro xs e
    rename_i v w vs ws _
    cases v with
    | int x => cases x with
      | c i =>
        refine eo (o := intsOf vs) e fun l e' e => ?_
        rw [← Option.some.inj e]
        exact h1.int_el (P := fun w => IntsAre (w :: ws) _) fun t => .cons i t (ih e')
      | _ => exact nn e
    | _ => exact nn e
noncomputable def memI (k : Int) : List Int → Bool
  | [] => false
  | a :: r => match Z.eqB a k with
    | true => true
    | false => memI k r
theorem memI_any (k : Int) (l : List Int) : (l.any fun x => x == k) = memI k l := by
  induction l with
  | nil => rfl
  | cons a r ih =>
    have : (a == k) = Z.eqB a k := by rw [Bool.eq_iff_iff, Z.eqB_iff, beq_iff_eq]
    rw [List.any_cons, ih, this]
    show _ = (match Z.eqB a k with | true => true | false => memI k r)
    cases Z.eqB a k <;> rfl
noncomputable def hasM (a b : MV) (ss : SS) : Option Bool := match b with
  | .str x => match a with
    | .str [k] => some (memN k x)
    | _ => .none
  | .ref j => match listAt ss j with
    | .none => .none
    | some vs => match a with
      | .str k => match strsOf vs with
        | .none => .none
        | some xs => some (memS k xs)
      | .int (.c k) => match intsOf vs with
        | .none => .none
        | some xs => some (memI k xs)
      | _ => .none
  | _ => .none
noncomputable def inM (a b : MV) (ss : SS) : Option (MV × SS) := match hasM a b ss with
  | .none => .none
  | some r => some (.bool r, ss)
noncomputable def ninM (a b : MV) (ss : SS) : Option (MV × SS) := match hasM a b ss with
  | .none => .none
  | some r => some (.bool (!r), ss)
theorem has_one (x : List Nat) (k : Nat) : (!(Builtin.Str.occurrences ⟨x.toArray⟩ ⟨#[k]⟩ 0 (⟨x.toArray⟩ : Str).length 1).isEmpty) = memN k x := by
  rw [StrLaws.found_one ⟨x.toArray⟩ k, Bool.eq_iff_iff, decide_eq_true_iff, memN_iff]
set_option smartUnfolding false in
theorem has_k {K : Option Bool → Prop} {c : Cx g Γ} {α : List Addr} {ext : List (Addr × Obj)} {G : List GenState} {st : PS} {s : Shared} {a b : MV} {wa wb : Value} {E : Value → Shared → Prop} (ha : VOK g.q α a wa) (hb : VOK g.q α b wb) (R : Rel c α ext G st s)
    (n : K none) (k : ∀ r, (∀ Q : Value → Shared → Prop, Q (.bool r) s → wpAny (model g.prog g.w) c.A (compareOp .In wa wb) Q E s) → (∀ Q : Value → Shared → Prop, Q (.bool (!r)) s → wpAny (model g.prog g.w) c.A (compareOp .NotIn wa wb) Q E s) → K (some r)) : K (hasM a b st.ss) := by
  cases b with
  | str x => cases a with
    | str y => cases y with
      | nil => exact n
      | cons k' y => cases y with
        | cons _ _ => exact n
        | nil =>
          refine k _ (fun Q hQ => ?_) (fun Q hQ => ?_)
          · exact strs_el (P := fun wa wb => wpAny (model g.prog g.w) c.A (compareOp .In wa wb) Q E s) ha hb fun t u => PyProof.Rows.in_str (has_one x k' ▸ hQ)
          · exact strs_el (P := fun wa wb => wpAny (model g.prog g.w) c.A (compareOp .NotIn wa wb) Q E s) ha hb fun t u => PyProof.Rows.notIn_str (has_one x k' ▸ hQ)
    | _ => exact n
  | ref j =>
    refine ko (K := K) n fun vs e1 => ?_
    cases R with | mk m led bl R =>
    cases a with
    | str y =>
      refine ko (K := K) n fun xs e2 => k _ (fun Q hQ => ?_) (fun Q hQ => ?_)
      · exact ha.str_el (P := fun wa => wpAny (model g.prog g.w) c.A (compareOp .In wa wb) Q E s) fun t => R.listEl (P := fun wb => wpAny (model g.prog g.w) c.A (compareOp .In _ wb) Q E s) hb e1 fun a2 ws2 n2 g2 hv2 _ => in_list_strs (isList_of g2) (strsOf_ok hv2 e2) (by rw [memS_any]; exact hQ)
      · exact ha.str_el (P := fun wa => wpAny (model g.prog g.w) c.A (compareOp .NotIn wa wb) Q E s) fun t => R.listEl (P := fun wb => wpAny (model g.prog g.w) c.A (compareOp .NotIn _ wb) Q E s) hb e1 fun a2 ws2 n2 g2 hv2 _ => notin_list_strs (isList_of g2) (strsOf_ok hv2 e2) (by rw [memS_any]; exact hQ)
    | int y => cases y with
      | c y =>
        refine ko (K := K) n fun xs e2 => k _ (fun Q hQ => ?_) (fun Q hQ => ?_)
        · exact ha.int_el (P := fun wa => wpAny (model g.prog g.w) c.A (compareOp .In wa wb) Q E s) fun t => R.listEl (P := fun wb => wpAny (model g.prog g.w) c.A (compareOp .In _ wb) Q E s) hb e1 fun a2 ws2 n2 g2 hv2 _ => in_list_ints (isList_of g2) (intsOf_ok hv2 e2) (by show Q (.bool (xs.any fun x => x == y)) s; rw [memI_any]; exact hQ)
        · exact ha.int_el (P := fun wa => wpAny (model g.prog g.w) c.A (compareOp .NotIn wa wb) Q E s) fun t => R.listEl (P := fun wb => wpAny (model g.prog g.w) c.A (compareOp .NotIn _ wb) Q E s) hb e1 fun a2 ws2 n2 g2 hv2 _ => notin_list_ints (isList_of g2) (intsOf_ok hv2 e2) (by show Q (.bool (!xs.any fun x => x == y)) s; rw [memI_any]; exact hQ)
      | _ => exact n
    | _ => exact n
  | _ => exact n
theorem in_ok : Op2OK g lv (compareOp .In) inM := by
  refine Op2OK.of fun Γ c α ext G st a b wa wb s Q E K hl ha hb R hn hK => ?_
  unfold inM
  exact has_k (K := fun o => K (match o with | .none => .none | some r => some (.bool r, st.ss))) (E := E) ha hb R hn fun r h _ => hK _ _ fun hQ => h Q (hQ _ α _ (List.suffix_refl _) R rfl rfl)
theorem nin_ok : Op2OK g lv (compareOp .NotIn) ninM := by
  refine Op2OK.of fun Γ c α ext G st a b wa wb s Q E K hl ha hb R hn hK => ?_
  unfold ninM
  exact has_k (K := fun o => K (match o with | .none => .none | some r => some (.bool (!r), st.ss))) (E := E) ha hb R hn fun r _ h => hK _ _ fun hQ => h Q (hQ _ α _ (List.suffix_refl _) R rfl rfl)
/-! items -/
noncomputable def placeOf (i : Int) (n : Nat) : Option Nat := match i with
  | .ofNat k => match Nat.blt k n with
    | true => some k
    | false => none
  | .negSucc k => match Nat.blt k n with
    | true => some (n - 1 - k)
    | false => none
structure PlaceAt (i : Int) (n j : Nat) : Prop where
  seq : seqIndex? i n = some j
  lt : j < n
  lo : -(n : Int) ≤ i
  hi : i < n
  at' : (if i < 0 then i + n else i).toNat = j
theorem place_pos {k n : Nat} (hk : k < n) : PlaceAt (Int.ofNat k) n k := by
  have h1 : ¬ (Int.ofNat k < 0) := Int.not_lt.mpr (Int.natCast_nonneg k)
  have h2 : Int.ofNat k < n := Int.ofNat_lt.mpr hk
  refine ⟨?_, hk, Int.le_trans (Int.neg_nonpos_of_nonneg (Int.natCast_nonneg n)) (Int.natCast_nonneg k), h2, by rw [if_neg h1]; rfl⟩
  unfold seqIndex?
  rw [if_neg h1]
  show (if (decide (0 ≤ Int.ofNat k) && decide (Int.ofNat k < (n : Int))) = true then some (Int.ofNat k).toNat else none) = some k
  rw [decide_eq_true (show (0 : Int) ≤ Int.ofNat k from Int.natCast_nonneg k), decide_eq_true h2]; rfl
theorem place_neg {k n : Nat} (hk : k < n) : PlaceAt (Int.negSucc k) n (n - 1 - k) := by
  have h1 : Int.negSucc k < 0 := Int.negSucc_lt_zero k
  have e : Int.negSucc k + (n : Int) = ((n - 1 - k : Nat) : Int) := by omega
  refine ⟨?_, by omega, by omega, Int.lt_of_lt_of_le h1 (Int.natCast_nonneg n), by rw [if_pos h1, e]; rfl⟩
  unfold seqIndex?
  rw [if_pos h1, e]
  show (if (decide (0 ≤ ((n - 1 - k : Nat) : Int)) && decide (((n - 1 - k : Nat) : Int) < (n : Int))) = true then some ((n - 1 - k : Nat) : Int).toNat else none) = some (n - 1 - k)
  rw [decide_eq_true (Int.natCast_nonneg _), decide_eq_true (Int.ofNat_lt.mpr (by omega))]; rfl
theorem placeOf_at {i : Int} {n j : Nat} (h : placeOf i n = some j) : PlaceAt i n j := by
  cases i with
  | ofNat k =>
    have h : (match Nat.blt k n with | true => some k | false => none) = some j := h
    cases e : Nat.blt k n with
    | false => rw [e] at h; exact nn h
    | true => rw [e] at h; exact Option.some.inj h ▸ place_pos (Z.blt_iff.mp e)
  | negSucc k =>
    have h : (match Nat.blt k n with | true => some (n - 1 - k) | false => none) = some j := h
    cases e : Nat.blt k n with
    | false => rw [e] at h; exact nn h
    | true => rw [e] at h; exact Option.some.inj h ▸ place_neg (Z.blt_iff.mp e)
theorem placeOf_seq {i : Int} {n j : Nat} (h : placeOf i n = some j) : seqIndex? i n = some j ∧ j < n ∧ -(n : Int) ≤ i ∧ i < n :=
  have p := placeOf_at h; ⟨p.seq, p.lt, p.lo, p.hi⟩
theorem fits2 {i : Int} {n : Nat} (h : n < 1000000) (h1 : -(n : Int) ≤ i) (h2 : i < n) : -2 ^ 63 ≤ i ∧ i < 2 ^ 63 := by omega
noncomputable def idxM (a b : MV) (ss : SS) : Option (MV × SS) := match b with
  | .int (.c i) => match a with
    | .str x => match small x.length, placeOf i x.length with
      | true, some j => match x[j]? with
        | some k => some (.str [k], ss)
        | .none => .none
      | _, _ => .none
    | .ref r => match fromEnd ss.n ss.sto r with
      | some (.list vs) => match small vs.length, placeOf i vs.length with
        | true, some j => match vs[j]? with
          | some v => some (v, ss)
          | .none => .none
        | _, _ => .none
      | some (.tuple vs) => match small vs.length, placeOf i vs.length with
        | true, some j => match vs[j]? with
          | some v => some (v, ss)
          | .none => .none
        | _, _ => .none
      | _ => .none
    | _ => .none
  | _ => .none
theorem kbo {β γ : Type} {K : Option γ → Prop} {b : Bool} {o : Option β} {f : β → Option γ} (n : K none) (k : ∀ x, b = true → o = some x → K (f x)) : K (match (generalizing := false) b, o with | true, some x => f x | _, _ => none) := by
  cases b with
  | false => exact n
  | true => cases o with
    | none => exact n
    | some x => exact k x rfl rfl
/-- an item of a list, at a place that may be counted from the end -/
theorem list_item {A : Around} {s : Shared} {x y : Expr} (hy : ∀ o i, subscripted y false o i = operate [o, i] (getItem o i)) {a : Addr} {ws : List Value} {n j : Nat} {k : Nat} {i : Int} {u : Tok} {w : Value} {Q E : Value → Shared → Prop} (h : s.heap.get? a = some (W.listOf ws.toArray n)) (hl : ws.length = k) (hk : k < 1000000) (p : PlaceAt i k j) (e : ws[j]? = some w) (hQ : Q w s) :
    wpAny (model g.prog g.w) A (subscriptTail x y (.ref a) (.int i u)) Q E s := by
  have hli := isList_of h
  refine tail_any hli.typeIs PySem.slot_list_getitem.lookup ?_ (hy _ _)
  have hf := fits2 hk p.lo p.hi
  have h3 := p.at'
  have e' : ws.toArray[j]? = some w := by rw [List.getElem?_toArray]; exact e
  by_cases hi : i < 0
  · rw [if_pos hi] at h3
    exact wpAny_getItem_list_neg hli hi (by rw [List.size_toArray, hl]; exact p.lo) hf.1 (by rw [List.size_toArray, hl, h3]; exact e') hQ
  · rw [if_neg hi] at h3
    exact wpAny_getItem_list hli (Int.not_lt.mp hi) hf.2 (by rw [h3]; exact e') hQ
set_option smartUnfolding false in
theorem idx_ok {x y : Expr} (hy : ∀ o i, subscripted y false o i = operate [o, i] (getItem o i)) : Op2OK g lv (subscriptTail x y) idxM := by
  refine Op2OK.of fun Γ c α ext G st a b wa wb s Q E K hl ha hb R hn hK => ?_
  cases b with
  | int e => cases e with
    | c i => cases a with
      | str x' =>
        refine kbo (K := K) hn fun j h1 h2 => ?_
        have p := placeOf_at h2
        refine ko (K := K) hn fun k e => hK _ _ fun hQ => ?_
        refine ha.str_el (P := fun wa => wpAny (model g.prog g.w) c.A (subscriptTail x y wa wb) Q E s) fun t => hb.int_el (P := fun wb => wpAny (model g.prog g.w) c.A (subscriptTail x y (.str ⟨x'.toArray⟩ t) wb) Q E s) fun u => ?_
        have hch : Txt.charAt ⟨x'.toArray⟩ i = some k := by
          unfold Txt.charAt
          rw [str_len, p.seq]
          show x'.toArray[j]? = some k
          rw [List.getElem?_toArray]; exact e
        have hf := fits2 (small_lt h1) p.lo p.hi
        refine tail_any (typeIs_str _ _ _) PySem.F.slot_str_getitem.lookup (SB.getItem ?_ (by rw [show (IX.c i).ev g.q = i from rfl, hch]; rfl) ?_) (hy _ _)
        · unfold fitsSsize
          rw [show (IX.c i).ev g.q = i from rfl, decide_eq_false (Int.not_lt.mpr hf.1), decide_eq_false (Int.not_le.mpr hf.2)]; rfl
        · rw [show Txt.item ⟨x'.toArray⟩ ((IX.c i).ev g.q) = ⟨#[k]⟩ by unfold Txt.item; rw [show (IX.c i).ev g.q = i from rfl, hch]; rfl]
          exact hQ _ α _ (List.suffix_refl _) (R.tok (Nat.succ_pos _)) rfl rfl
      | ref r =>
        cases e1 : fromEnd st.ss.n st.ss.sto r with
        | none => show K (idxM (.ref r) (.int (.c i)) st.ss); unfold idxM; dsimp only; rw [e1]; exact hn
        | some mo => cases mo with
          | list vs =>
            show K (idxM (.ref r) (.int (.c i)) st.ss); unfold idxM; dsimp only; rw [e1]
            refine (kbo (K := K) hn fun j h1 h2 => ko (K := K) hn fun v' e => hK _ _ fun hQ => ?_)
            cases id R with | mk m led bl R' =>
            refine R'.objEl (P := fun wa => wpAny (model g.prog g.w) c.A (subscriptTail x y wa wb) Q E s) ha e1 fun a1 o1 i1 g1 ho _ _ => hb.int_el (P := fun wb => wpAny (model g.prog g.w) c.A (subscriptTail x y (.ref a1) wb) Q E s) fun u => ?_
            cases (show LstOK _ _ _ _ from ho) with | mk ws1 n1 eo hv1 =>
            refine (hv1.get e).elim fun w hw => ?_
            exact list_item hy (eo ▸ g1) hv1.length (small_lt h1) (placeOf_at h2) hw.1 (hQ w α s (List.suffix_refl _) R rfl hw.2)
          | tuple vs =>
            show K (idxM (.ref r) (.int (.c i)) st.ss); unfold idxM; dsimp only; rw [e1]
            refine (kbo (K := K) hn fun j h1 h2 => ko (K := K) hn fun v' e => hK _ _ fun hQ => ?_)
            cases id R with | mk m led bl R' =>
            refine R'.objEl (P := fun wa => wpAny (model g.prog g.w) c.A (subscriptTail x y wa wb) Q E s) ha e1 fun a1 o1 i1 g1 ho _ _ => hb.int_el (P := fun wb => wpAny (model g.prog g.w) c.A (subscriptTail x y (.ref a1) wb) Q E s) fun u => ?_
            cases (show TupOK _ _ _ _ from ho) with | mk ws1 n1 eo hv1 =>
            refine (hv1.get e).elim fun w hw => ?_
            have ht : IsTup s.heap a1 ws1.toArray := ⟨_, g1, by rw [eo], n1, by rw [eo]⟩
            have p := placeOf_at h2
            have hf := fits2 (small_lt h1) p.lo p.hi
            exact tail_any ht.typeIs PyProof.Rows.slot_tuple_getitem.lookup (PyProof.Rows.getItem_tuple ht hf.1 hf.2 (by rw [List.size_toArray, hv1.length]; exact p.seq) (by rw [List.getElem?_toArray]; exact hw.1) (hQ w α s (List.suffix_refl _) R rfl hw.2)) (hy _ _)
          | _ => show K (idxM (.ref r) (.int (.c i)) st.ss); unfold idxM; dsimp only; rw [e1]; exact hn
      | _ => exact hn
    | _ => exact hn
  | _ => exact hn
theorem EvOK.idx {x y : Expr} {pos : Pos} {f1 f2 : PS → Option (MV × PS)} (h1 : EvOK g Γ lv x f1) (h2 : EvOK g Γ lv y f2) (hy : ∀ o i, subscripted y false o i = operate [o, i] (getItem o i)) : EvOK g Γ lv (.Subscript x y pos) (binF f1 f2 idxM) := EvOK.sub h1 h2 (idx_ok hy)
end Mine
end P8
section P9
open PySem PySem.W PyProof.Rows PySem.Calls PySem.Spec PySem.SeqAt
namespace Mine
variable {g : Gl} {Γ : Sta} {lv : Nat}
/-! slices -/
noncomputable def PartOK (g : Gl) (Γ : Sta) (lv : Nat) (x : Option Expr) (f : PS → Option (MV × PS)) : Prop :=
  ∀ (c : Cx g Γ), lv ≤ c.lvl → ∀ α ext G st v st' s Q E, f st = some (v, st') → Rel c α ext G st s →
    (∀ w, After c α ext G s st' fun α' s' => VOK g.q α' v w → Q w s') →
    wpAny (model g.prog g.w) c.A (evalPart x c.env) Q E s
theorem PartOK.none : PartOK g Γ lv none noneF := by
  intro c hl α ext G st v st' s Q E hf R hQ
  exact PySem.evalPart_none_step (som2 (P := RetP c α ext G s Q) hf hQ _ α _ (List.suffix_refl _) R rfl trivial)
theorem PartOK.some {x : Expr} {f : PS → Option (MV × PS)} (h : EvOK g Γ lv x f) : PartOK g Γ lv (some x) f := by
  intro c hl α ext G st v st' s Q E hf R hQ
  exact PySem.evalPart_some_step (h c hl α ext G st v st' s Q E hf R hQ)
noncomputable def partI : MV → Option (Option Int)
  | .none => some none
  | .int (.c i) => some (some i)
  | _ => none
theorem partI_ok {q : Int} {α : List Addr} {v : MV} {w : Value} {p : Option Int} (h : partI v = some p) (hv : VOK q α v w) : IsPart w p := by
  cases v with
  | none => exact Option.some.inj h ▸ hv.none_el (P := fun w => IsPart w none) .none
  | int e => cases e with
    | c i => exact Option.some.inj h ▸ hv.int_el (P := fun w => IsPart w (some i)) fun t => .int _ t
    | _ => exact nn h
  | _ => exact nn h
noncomputable def sliceM (a l u : MV) (ss : SS) : Option (MV × SS) := match partI l with
  | .none => .none
  | some lo => match partI u with
    | .none => .none
    | some hi => match a with
      | .str x => match small x.length with
        | true => some (.str (Txt.slice ⟨x.toArray⟩ lo hi).cps.toList, ss)
        | false => .none
      | .ref k => match listAt ss k with
        | .none => .none
        | some vs => match small vs.length with
          | true => newL ((sliceRange (sliceBounds lo hi none vs.length).1 (sliceBounds lo hi none vs.length).2.1 (sliceBounds lo hi none vs.length).2.2).filterMap (vs[·]?)) ss
          | false => .none
      | _ => .none
theorem VsOK.pick {q : Int} {α : List Addr} {vs : List MV} {ws : List Value} (h : VsOK q α vs ws) (l : List Nat) : VsOK q α (l.filterMap (vs[·]?)) (l.filterMap (ws[·]?)) := by
  induction l with
  | nil => exact .nil
  | cons i l ih =>
    cases e : vs[i]? with
    | none =>
      have : ws[i]? = none := List.getElem?_eq_none_iff.mpr (h.length ▸ List.getElem?_eq_none_iff.mp e)
      rw [List.filterMap_cons_none e, List.filterMap_cons_none this]
      exact ih
    | some v =>
      refine (h.get e).elim fun w hw => ?_
      rw [List.filterMap_cons_some e, List.filterMap_cons_some hw.1]
      exact .cons hw.2 ih
noncomputable def sliceF (f1 f2 f3 : PS → Option (MV × PS)) : PS → Option (MV × PS) := fun st => match f1 st with
  | .none => .none
  | some (a, st1) => match f2 st1 with
    | .none => .none
    | some (l, st2) => match f3 st2 with
      | .none => .none
      | some (u, st3) => match sliceM a l u st3.ss with
        | .none => .none
        | some (v, ss) => some (v, { st3 with ss := ss })
theorem letGo_str (x : Expr) (y : Str) (t : Tok) (r : Value) : letTemporaryGo x (.str y t) r = pure () := by
  cases x <;> rfl
theorem slicePick_eq (ws : List Value) (lo hi : Option Int) : slicePick ws.toArray lo hi Option.none = ((sliceRange (sliceBounds lo hi Option.none ws.length).1 (sliceBounds lo hi Option.none ws.length).2.1 (sliceBounds lo hi Option.none ws.length).2.2).filterMap (ws[·]?)).toArray := by
  unfold slicePick
  rw [List.size_toArray]
  simp
theorem part_el {w : Value} {p : Option Int} {P : Value → Option Int → Prop} (h : IsPart w p) (k0 : P .none Option.none) (k1 : ∀ i t, P (.int i t) (Option.some i)) : P w p := by
  cases h with
  | none => exact k0
  | int i t => exact k1 i t
theorem slice_str {prog : Program} {w : World} {A : Around} {h₀ : Heap} {L : Addr} {s : Shared} {m : Str → Option Value} {news : List (Addr × Obj)} (F : Fr h₀ L s.heap m) (N : News h₀ L s.heap news) {x : Expr} {lo hi : Option Expr} {p : Pos} {y : Str} {t : Tok} {wl wu : Value} {lo' hi' : Option Int} (q1 : IsPart wl lo') (q2 : IsPart wu hi') (hz : y.length ≤ sizeLine) {Q : Value → Shared → Prop} {E : Value → Shared → Prop}
    (h : ∀ h' t' k, Fr h₀ L h' m → News h₀ L h' news → 0 < k → Q (.str (Txt.slice y lo' hi') t') { s with heap := h', toks := k }) :
    wpAny (model prog w) A (subscriptTail x (.Slice lo hi Option.none p) (.str y t) (.ref s.heap.objs.size)) (fun a s' => 0 < s'.toks → Q a s') E { s with heap := s.heap.push { cls := .type "slice", data := .fields #[wl, wu, .none] } } := by
  revert h
  refine part_el (P := fun wl lo' => (∀ h' t' k, Fr h₀ L h' m → News h₀ L h' news → 0 < k → Q (.str (Txt.slice y lo' hi') t') { s with heap := h', toks := k }) → wpAny (model prog w) A (subscriptTail x (.Slice lo hi Option.none p) (.str y t) (.ref s.heap.objs.size)) (fun a s' => 0 < s'.toks → Q a s') E { s with heap := s.heap.push { cls := .type "slice", data := .fields #[wl, wu, .none] } }) q1 ?_ fun i ti => ?_
  · refine part_el (P := fun wu hi' => (∀ h' t' k, Fr h₀ L h' m → News h₀ L h' news → 0 < k → Q (.str (Txt.slice y Option.none hi') t') { s with heap := h', toks := k }) → wpAny (model prog w) A (subscriptTail x (.Slice lo hi Option.none p) (.str y t) (.ref s.heap.objs.size)) (fun a s' => 0 < s'.toks → Q a s') E { s with heap := s.heap.push { cls := .type "slice", data := .fields #[.none, wu, .none] } }) q2 (fun h => ?_) fun j tj h => ?_
    · exact slice_strN_nn F N (fun h' t' k F' N' hk => h h' t' k F' N' hk) rfl (letGo_str _ _ _) hz
    · exact slice_strN_ns F N (fun h' t' k F' N' hk => h h' t' k F' N' hk) rfl (letGo_str _ _ _) hz
  · refine part_el (P := fun wu hi' => (∀ h' t' k, Fr h₀ L h' m → News h₀ L h' news → 0 < k → Q (.str (Txt.slice y (Option.some i) hi') t') { s with heap := h', toks := k }) → wpAny (model prog w) A (subscriptTail x (.Slice lo hi Option.none p) (.str y t) (.ref s.heap.objs.size)) (fun a s' => 0 < s'.toks → Q a s') E { s with heap := s.heap.push { cls := .type "slice", data := .fields #[.int i ti, wu, .none] } }) q2 (fun h => ?_) fun j tj h => ?_
    · exact slice_strN_sn F N (fun h' t' k F' N' hk => h h' t' k F' N' hk) rfl (letGo_str _ _ _) hz
    · exact slice_strN_ss F N (fun h' t' k F' N' hk => h h' t' k F' N' hk) rfl (letGo_str _ _ _) hz
/-- a slice of a list, the slice object made -/
theorem slice_list {c : Cx g Γ} {α : List Addr} {ext : List (Addr × Obj)} {G : List GenState} {st : PS} {s : Shared} {m : Str → Option Value} {led bl : List (Addr × Obj)} (R : RelX c α ext G st s m led bl) {x : Expr} {lo hi : Option Expr} {p : Pos} {a1 : Addr} {ws : List Value} {n1 : Nat} {vs : List MV}
    (g1 : s.heap.get? a1 = some (W.listOf ws.toArray n1)) (hv : VsOK g.q α vs ws) (hlen : ws.length = vs.length) (hsm : vs.length < 1000000) {wl wu : Value} {lo' hi' : Option Int} (q1 : IsPart wl lo') (q2 : IsPart wu hi') {Q E : Value → Shared → Prop}
    (hQ : ∀ w, After c α ext G s { st with ss := ⟨st.ss.n + 1, .list ((sliceRange (sliceBounds lo' hi' Option.none vs.length).1 (sliceBounds lo' hi' Option.none vs.length).2.1 (sliceBounds lo' hi' Option.none vs.length).2.2).filterMap (vs[·]?)) :: st.ss.sto⟩ } fun α' s' => VOK g.q α' (.ref st.ss.n) w → Q w s') :
    wpAny (model g.prog g.w) c.A (subscriptTail x (.Slice lo hi Option.none p) (.ref a1) (.ref s.heap.objs.size)) Q E { s with heap := s.heap.push { cls := .type "slice", data := .fields #[wl, wu, .none] } } := by
  have hl1 := isList_of g1
  have N1 := News.push R.F R.N { cls := .type "slice", data := .fields #[wl, wu, .none] }
  have F1 := Fr.push R.F { cls := .type "slice", data := .fields #[wl, wu, .none] }
  have N0 : News c.h₀ c.L (s.heap.push { cls := .type "slice", data := .fields #[wl, wu, .none] }) (led ++ (bl ++ ext)) := fun p hp => N1 p (List.mem_cons_of_mem _ hp)
  refine tail_any (Heap.IsList.typeIs (s := { s with heap := s.heap.push { cls := .type "slice", data := .fields #[wl, wu, .none] } }) (hl1.push _)) list_getitem_lookup
    (wpAny_getItem_list_slice (hl1.push _) (Heap.IsSliceOf.new ..) q1 q2 .none (by simp) ?_ (by rw [List.size_toArray, hlen]; exact line_of hsm)) (ops := [.ref s.heap.objs.size, .ref a1]) rfl
  have hpk := hv.pick (sliceRange (sliceBounds lo' hi' Option.none ws.length).1 (sliceBounds lo' hi' Option.none ws.length).2.1 (sliceBounds lo' hi' Option.none ws.length).2.2)
  rw [slicePick_eq]
  rw [← hlen] at hQ
  exact made_list R (Fr.push F1 _) (News.push F1 N0 _) (News.below N0) hpk R.tk hQ
set_option smartUnfolding false in
theorem EvOK.slice {x : Expr} {lo hi : Option Expr} {p pos : Pos} {f1 f2 f3 : PS → Option (MV × PS)} (h1 : EvOK g Γ lv x f1) (h2 : PartOK g Γ lv lo f2) (h3 : PartOK g Γ lv hi f3) :
    EvOK g Γ lv (.Subscript x (.Slice lo hi Option.none p) pos) (sliceF f1 f2 f3) := by
  intro c hl α ext G st v st' s Q E hf R hQ
  unfold sliceF at hf
  refine eop hf fun a st1 e1 hf => ?_
  refine eop hf fun l st2 e2 hf => ?_
  refine eop hf fun u st3 e3 hf => ?_
  refine eop hf fun v' ss e4 hf => ?_
  replace hQ := som2 (P := RetP c α ext G s Q) hf hQ
  refine Subscript_ (h1 c hl α ext G st a st1 s _ E e1 R fun wa α1 s1 hs1 R1 ho1 va => ?_)
  refine wpAny_Slice (h2 c hl α1 ext G st1 l st2 s1 _ E e2 R1 fun wl α2 s2 hs2 R2 ho2 vl => ?_)
  refine h3 c hl α2 ext G st2 u st3 s2 _ E e3 R2 fun wu α3 s3 hs3 R3 ho3 vu => ?_
  refine PySem.evalPart_none_step ?_
  replace va := va.mono (hs2.trans hs3)
  replace vl := vl.mono hs3
  have hss : α <:+ α3 := (hs1.trans hs2).trans hs3
  have hoo : s3.os = s.os := ho3.trans (ho2.trans ho1)
  unfold sliceM at e4
  refine eo e4 fun lo' p1 e4 => ?_
  refine eo e4 fun hi' p2 e4 => ?_
  have q1 := partI_ok p1 vl
  have q2 := partI_ok p2 vu
  cases R3 with | mk m led bl R3 =>
  cases a with
  | str x' =>
    refine eb e4 fun hsm e4 => ?_
    replace hQ := som2 (P := fun v ss => RetP c α ext G s Q v { st3 with ss := ss }) e4 hQ
    refine va.str_el (P := fun wa => wpAny (model g.prog g.w) c.A (subscriptTail x (Expr.Slice lo hi Option.none p) wa (Value.ref s3.heap.objs.size)) Q E _) fun t => ?_
    exact pos_toks R3.tk (slice_str R3.F R3.N q1 q2 (by rw [str_len]; exact line_of (small_lt hsm)) fun h' t' k F' N' hk => hQ _ α3 _ hss (Rel.step R3 F' N' hk) hoo rfl)
  | ref k =>
    refine eo e4 fun vs ek e4 => ?_
    refine eb e4 fun hsm e4 => ?_
    have nl := newL_some e4
    rw [nl.2.1, nl.2.2] at hQ
    refine R3.listEl (P := fun wa => wpAny (model g.prog g.w) c.A (subscriptTail x (Expr.Slice lo hi Option.none p) wa (Value.ref s3.heap.objs.size)) Q E _) va ek fun a1 ws1 n1 g1 hv1 hlen => ?_
    exact slice_list R3 g1 hv1 hlen (small_lt hsm) q1 q2 fun w α4 s4 hs4 R4 ho4 v4 => hQ w α4 s4 (hss.trans hs4) R4 (ho4.trans hoo) v4
  | _ => exact nn e4
/-! methods of built-in things -/
noncomputable def methF (rc : MV → SS → Bool) (f1 : PS → Option (MV × PS)) (fa : PS → Option (List MV × PS)) (F : List MV → SS → Option (MV × SS)) : PS → Option (MV × PS) := fun st => match f1 st with
  | .none => .none
  | some (a, st1) => match rc a st1.ss with
    | false => .none
    | true => match fa st1 with
      | .none => .none
      | some (vs, st2) => match F (a :: vs) st2.ss with
        | .none => .none
        | some (v, ss) => some (v, { st2 with ss := ss })
noncomputable def GmOK (g : Gl) (name : Str) (id : String) (rc : MV → SS → Bool) : Prop :=
  ∀ (Γ : Sta) (c : Cx g Γ) α ext G st s a wa (pl : Sem Bool) Q E, rc a st.ss = true → VOK g.q α a wa → Rel c α ext G st s → Q (.builtin id, [wa]) s → wpAny (model g.prog g.w) c.A (getMethod wa name pl) Q E s
set_option smartUnfolding false in
theorem EvOK.meth {o : Expr} {name : Str} {id : String} {apos pos : Pos} {args : List Expr} {rc : MV → SS → Bool} {f1 : PS → Option (MV × PS)} {fa : PS → Option (List MV × PS)} {F : List MV → SS → Option (MV × SS)}
    (h1 : EvOK g Γ lv o f1) (hg : GmOK g name id rc) (hs : EvsOK g Γ lv args fa) (ho : OpNOK g lv (fun ws => call (.builtin id) ws) F) (hus : args.all unStarred = true)
    (he : ∀ env, ∃ pl : Sem Bool, eval ((Expr.Attribute o name apos).Call args [] pos) env = (do
          let ov ← eval o env
          standAt apos.atName
          let __x ← holding [ov] (getMethod ov name pl)
          match __x with
            | (f, first) => callWith pos f first (backTo pos (starEach args env)) [])) :
    EvOK g Γ lv ((Expr.Attribute o name apos).Call args [] pos) (methF rc f1 fa F) := by
  intro c hl α ext G st v st' s Q E hf R hQ
  unfold methF at hf
  refine eop hf fun a st1 e1 hf => ?_
  refine eb hf fun hrc hf => ?_
  refine eop hf fun vs st2 e2 hf => ?_
  refine eop hf fun v' ss e3 hf => ?_
  replace hQ := som2 (P := RetP c α ext G s Q) hf hQ
  refine (he c.env).elim fun pl he => ?_
  refine MethodCall_ (h1 c hl α ext G st a st1 s _ E e1 R fun wa α1 s1 hs1 R1 ho1 va => ?_) he
  refine hg Γ c α1 ext G st1 s1 a wa pl _ E hrc va R1 ?_
  have fin : ∀ ws α2 s2, α1 <:+ α2 → Rel c α2 ext G st2 s2 → s2.os = s1.os → VsOK g.q α2 vs ws → wpAny (model g.prog g.w) c.A (call (.builtin id) (wa :: ws)) Q E s2 := fun ws α2 s2 hs2 R2 ho2 vv =>
    ho Γ c hl α2 ext G st2 (a :: vs) (wa :: ws) v' ss s2 Q E e3 (.cons (va.mono hs2) vv) R2 fun w3 α3 s3 hs3 R3 ho3 v3 => hQ w3 α3 s3 ((hs1.trans hs2).trans hs3) R3 (ho3.trans (ho2.trans ho1)) v3
  cases args with
  | nil =>
    refine callWith_method0 ?_
    have := hs c hl α1 ext G st1 vs st2 s1 (fun ws s2 => wpAny (model g.prog g.w) c.A (call (.builtin id) (wa :: ws)) Q E s2) (fun _ _ => False) pos e2 R1 fun ws α2 s2 hs2 R2 ho2 vv => fin ws α2 s2 hs2 R2 ho2 vv
    exact fun Γ' p' hΓ => (show wpAny (model g.prog g.w) c.A (call (.builtin id) [wa]) Q E s1 from this Γ' p' hΓ) Γ' p' hΓ
  | cons e es =>
    rw [List.all_cons, Bool.and_eq_true] at hus
    exact callWith_method1 (hs c hl α1 ext G st1 vs st2 s1 _ E pos e2 R1 fun ws α2 s2 hs2 R2 ho2 vv => fin ws α2 s2 hs2 R2 ho2 vv) (starEach_un hus.1) (noStars _ _ _ hus.2)
end Mine
end P9
section P10
open PySem PySem.W PyProof.Rows PySem.Calls PySem.Spec PySem.SeqAt
namespace Mine
variable {g : Gl} {Γ : Sta} {lv : Nat}
noncomputable def isStrM : MV → SS → Bool
  | .str _, _ => true
  | _, _ => false
noncomputable def isIntM : MV → SS → Bool
  | .int _, _ => true
  | _, _ => false
noncomputable def isListM : MV → SS → Bool
  | .ref k, ss => match listAt ss k with
    | some _ => true
    | none => false
  | _, _ => false
theorem isStrM_some {v : MV} {ss : SS} (h : isStrM v ss = true) : ∃ x, v = .str x := by
  cases v with
  | str x => exact ⟨x, rfl⟩
  | _ => exact ff h
theorem isIntM_some {v : MV} {ss : SS} (h : isIntM v ss = true) : ∃ x, v = .int x := by
  cases v with
  | int x => exact ⟨x, rfl⟩
  | _ => exact ff h
theorem isListM_some {v : MV} {ss : SS} (h : isListM v ss = true) : ∃ k vs, v = .ref k ∧ listAt ss k = some vs := by
  cases v with
  | ref k =>
    have h : (match listAt ss k with | some _ => true | none => false) = true := h
    cases e : listAt ss k with
    | none => rw [e] at h; exact ff h
    | some vs => exact ⟨k, vs, rfl, e⟩
  | _ => exact ff h
/-! list.append, list.reverse -/
theorem gm_list {name : Str} {id : String} (h : ∀ {prog : Program} {w : World} {A : Around} {s : Shared} {a : Addr} {ws : Array Value} {n : Nat} {pl : Sem Bool} {Q : Value × List Value → Shared → Prop} {E : Value → Shared → Prop}, s.heap.get? a = some (W.listOf ws n) → Q (.builtin id, [.ref a]) s → wpAny (model prog w) A (getMethod (.ref a) name pl) Q E s) : GmOK g name id isListM := by
  intro Γ c α ext G st s a wa pl Q E hrc ha R hQ
  refine (isListM_some hrc).elim fun k hk => hk.elim fun vs hk => ?_
  cases R with | mk m led bl R =>
  exact R.listEl (P := fun wa => Q (.builtin id, [wa]) s → wpAny (model g.prog g.w) c.A (getMethod wa name pl) Q E s) (hk.1 ▸ ha) hk.2 (fun a1 ws1 n1 g1 _ _ hQ => h g1 hQ) hQ
theorem gm_str {name : Str} {id : String} (h : ∀ {prog : Program} {w : World} {A : Around} {s : Shared} {x : Str} {t : Tok} {pl : Sem Bool} {Q : Value × List Value → Shared → Prop} {E : Value → Shared → Prop}, Q (.builtin id, [.str x t]) s → wpAny (model prog w) A (getMethod (.str x t) name pl) Q E s) : GmOK g name id isStrM := by
  intro Γ c α ext G st s a wa pl Q E hrc ha R hQ
  refine (isStrM_some hrc).elim fun x hx => ?_
  exact (show VOK g.q α (.str x) wa from hx ▸ ha).str_el (P := fun wa => Q (.builtin id, [wa]) s → wpAny (model g.prog g.w) c.A (getMethod wa name pl) Q E s) (fun t hQ => h hQ) hQ
theorem gm_append : GmOK g "append" "list.append" isListM := gm_list fun g1 hQ => getMethod_list_append g1 rfl rfl hQ
noncomputable def appendM : List MV → SS → Option (MV × SS)
  | [.ref k, v], ss => match listAt ss k with
    | none => .none
    | some vs => match small vs.length with
      | true => some (.none, ⟨ss.n, setE ss.n ss.sto k (.list (vs ++ [v]))⟩)
      | false => .none
  | _, _ => .none
set_option smartUnfolding false in
theorem append_ok : OpNOK g lv (fun ws => call (.builtin "list.append") ws) appendM := by
  refine OpNOK.of fun Γ c α ext G st vs ws s Q E K hl hv R hn hK => ?_
  cases vs with
  | nil => exact hn
  | cons a vs => cases a with
    | ref k => cases vs with
      | nil => exact hn
      | cons v' vs => cases vs with
        | cons _ _ => exact hn
        | nil =>
          refine ko (K := K) hn fun us e => ?_
          refine kb (K := K) hn fun hsm => hK _ _ fun hQ => ?_
          cases R with | mk m led bl R =>
          refine hv.two (P := fun ws => wpAny (model g.prog g.w) c.A (call (.builtin "list.append") ws) Q E s) fun w1 w2 h1 h2 => ?_
          refine R.objEl (P := fun w1 => wpAny (model g.prog g.w) c.A (call (.builtin "list.append") [w1, w2]) Q E s) h1 (listAt_some e) fun a1 o1 i1 g1 ho hled hi => ?_
          cases (show LstOK _ _ _ _ from ho) with | mk ws1 n1 eo hv1 =>
          subst eo
          refine append_K R.F R.N (upd_of_nodup R.nd hled) (fun h' F' N' => ?_) (by rw [List.size_toArray, hv1.length]; exact line_of (small_lt hsm))
          rw [show ∀ z, ws1.toArray.push z = (ws1 ++ [z]).toArray from fun z => by simp] at N'
          exact hQ _ α _ (List.suffix_refl _) (R.upd hi hled (mo' := .list (us ++ [v'])) ⟨_, _, rfl, hv1.append (.cons h2 .nil)⟩ F' N' R.tk) rfl trivial
    | _ => cases vs with
      | nil => exact hn
      | cons _ vs => cases vs <;> exact hn
theorem gm_reverse : GmOK g "reverse" "list.reverse" isListM := gm_list fun g1 hQ => getMethod_list_of PySem.F.slot_list_reverse PySem.F.type_list_reverse ⟨_, g1, rfl, _, rfl⟩ ⟨_, g1, rfl⟩ hQ
theorem VsOK.reverse {q : Int} {α : List Addr} {vs : List MV} {ws : List Value} (h : VsOK q α vs ws) : VsOK q α vs.reverse ws.reverse := by
  induction h with
  | nil => exact .nil
  | cons h1 _ ih => rw [List.reverse_cons, List.reverse_cons]; exact ih.append (.cons h1 .nil)
noncomputable def reverseM : List MV → SS → Option (MV × SS)
  | [.ref k], ss => match listAt ss k with
    | none => .none
    | some vs => match small vs.length with
      | true => some (.none, ⟨ss.n, setE ss.n ss.sto k (.list vs.reverse)⟩)
      | false => .none
  | _, _ => .none
set_option smartUnfolding false in
theorem reverse_ok : OpNOK g lv (fun ws => call (.builtin "list.reverse") ws) reverseM := by
  refine OpNOK.of fun Γ c α ext G st vs ws s Q E K hl hv R hn hK => ?_
  cases vs with
  | nil => exact hn
  | cons a vs => cases a with
    | ref k => cases vs with
      | cons _ _ => exact hn
      | nil =>
        refine ko (K := K) hn fun us e => ?_
        refine kb (K := K) hn fun hsm => hK _ _ fun hQ => ?_
        cases R with | mk m led bl R =>
        refine hv.one (P := fun ws => wpAny (model g.prog g.w) c.A (call (.builtin "list.reverse") ws) Q E s) fun w1 h1 => ?_
        refine R.objEl (P := fun w1 => wpAny (model g.prog g.w) c.A (call (.builtin "list.reverse") [w1]) Q E s) h1 (listAt_some e) fun a1 o1 i1 g1 ho hled hi => ?_
        cases (show LstOK _ _ _ _ from ho) with | mk ws1 n1 eo hv1 =>
        subst eo
        refine kl_reverse R.F R.N (l := ws1.reverse) rfl (upd_of_nodup R.nd hled) (by show ws1.length ≤ _; rw [hv1.length]; exact line_of (small_lt hsm)) (fun h' F' N' => ?_)
        exact hQ _ α _ (List.suffix_refl _) (R.upd hi hled (mo' := .list us.reverse) ⟨_, _, rfl, hv1.reverse⟩ F' N' R.tk) rfl trivial
    | _ => cases vs <;> exact hn
/-! str.count, str.join, str.replace -/
theorem gm_count : GmOK g "count" "str.count" isStrM := gm_str fun hQ => GM.count hQ
noncomputable def cntN (k : Nat) : List Nat → Nat
  | [] => 0
  | a :: r => match Nat.beq a k with
    | true => cntN k r + 1
    | false => cntN k r
theorem cntN_eq (k : Nat) : ∀ l : List Nat, cnt k l = (cntN k l : Int)
  | [] => rfl
  | a :: r => by
    rw [cnt_cons, cntN_eq k r]
    cases e : Nat.beq a k with
    | true => rw [if_pos (Nat.eq_of_beq_eq_true e)]; simp only [cntN, e]; omega
    | false => rw [if_neg (Nat.ne_of_beq_eq_false e)]; simp only [cntN, e]; omega
noncomputable def countM : List MV → SS → Option (MV × SS)
  | [.str x, .str [k]], ss => some (.int (.c (cntN k x)), ss)
  | _, _ => .none
theorem count_ok : OpNOK g lv (fun ws => call (.builtin "str.count") ws) countM := by
  refine OpNOK.of fun Γ c α ext G st vs ws s Q E K hl hv R hn hK => ?_
  have key : ∀ x k, VsOK g.q α [.str x, .str [k]] ws → K (some (.int (.c (cntN k x)), st.ss)) := fun x k hv => hK _ _ fun hQ => by
    refine hv.two (P := fun ws => wpAny (model g.prog g.w) c.A (call (.builtin "str.count") ws) Q E s) fun w1 w2 h1 h2 => strs_el (P := fun w1 w2 => wpAny (model g.prog g.w) c.A (call (.builtin "str.count") [w1, w2]) Q E s) h1 h2 fun t u => SC.count ?_
    have e : Txt.count ⟨x.toArray⟩ ⟨[k].toArray⟩ = (cntN k x : Int) := by
      rw [show ([k] : List Nat).toArray = #[k] from rfl, count_cnt, ← cntN_eq]
    exact e ▸ hQ _ α _ (List.suffix_refl _) (R.tok (Nat.succ_pos _)) rfl rfl
  cases vs with
  | nil => exact hn
  | cons a vs => cases a with
    | str x => cases vs with
      | nil => exact hn
      | cons b vs => cases b with
        | str y => cases y with
          | nil => cases vs <;> exact hn
          | cons k y => cases y with
            | cons _ _ => cases vs <;> exact hn
            | nil => cases vs with
              | cons _ _ => exact hn
              | nil => exact key x k hv
        | _ => cases vs <;> exact hn
    | _ => cases vs with
      | nil => exact hn
      | cons _ vs => cases vs <;> exact hn
theorem gm_join : GmOK g "join" "str.join" isStrM := gm_str fun hQ => GM.join hQ
noncomputable def sumLen : List (List Nat) → Nat
  | [] => 0
  | x :: r => x.length + sumLen r
noncomputable def joinM : List MV → SS → Option (MV × SS)
  | [.str [], .ref k], ss => match (listAt ss k).bind strsOf with
    | none => .none
    | some xs => match small (sumLen xs) with
      | true => some (.str xs.flatten, ss)
      | false => .none
  | _, _ => .none
theorem glue_foldl : ∀ (xs : List (List Nat)) (acc : List Nat), List.foldl (fun (a : Array Nat) (p : Str) => a ++ (⟨#[]⟩ : Str).cps ++ p.cps) acc.toArray (xs.map fun x => (⟨x.toArray⟩ : Str)) = (acc ++ xs.flatten).toArray
  | [], acc => by simp
  | x :: xs, acc => by
    rw [List.map_cons, List.foldl_cons]
    have : acc.toArray ++ (⟨#[]⟩ : Str).cps ++ (⟨x.toArray⟩ : Str).cps = (acc ++ x).toArray := by simp
    rw [this, glue_foldl xs (acc ++ x), List.flatten_cons, List.append_assoc]
theorem txt_join (xs : List (List Nat)) : Txt.join ⟨([] : List Nat).toArray⟩ (xs.map fun x => (⟨x.toArray⟩ : Str)) = ⟨xs.flatten.toArray⟩ := by
  show (⟨_⟩ : Str) = _
  congr 1
  cases xs with
  | nil => rfl
  | cons x xs =>
    show List.foldl (fun (a : Array Nat) (p : Str) => a ++ (⟨#[]⟩ : Str).cps ++ p.cps) x.toArray (xs.map fun x => (⟨x.toArray⟩ : Str)) = _
    rw [glue_foldl xs x, List.flatten_cons]
theorem sumLen_map : ∀ xs : List (List Nat), (List.map (fun x : Str => x.length) (xs.map fun x => (⟨x.toArray⟩ : Str))).sum = sumLen xs
  | [] => rfl
  | x :: xs => by
    rw [List.map_cons, List.map_cons, List.sum_cons, sumLen_map xs, str_len]; rfl
set_option smartUnfolding false in
theorem join_ok : OpNOK g lv (fun ws => call (.builtin "str.join") ws) joinM := by
  refine OpNOK.of fun Γ c α ext G st vs ws s Q E K hl hv R hn hK => ?_
  cases vs with
  | nil => exact hn
  | cons a vs => cases a with
    | str x => cases x with
      | cons _ _ => cases vs with
        | nil => exact hn
        | cons _ vs => cases vs <;> exact hn
      | nil => cases vs with
        | nil => exact hn
        | cons b vs => cases b with
          | ref k => cases vs with
            | cons _ _ => exact hn
            | nil =>
              refine ko (K := K) hn fun xs e => ?_
              refine kb (K := K) hn fun hsm => hK _ _ fun hQ => ?_
              refine (Option.bind_eq_some_iff.mp e).elim fun us he => ?_
              cases id R with | mk m led bl R' =>
              refine hv.two (P := fun ws => wpAny (model g.prog g.w) c.A (call (.builtin "str.join") ws) Q E s) fun w1 w2 h1 h2 => h1.str_el (P := fun w1 => wpAny (model g.prog g.w) c.A (call (.builtin "str.join") [w1, w2]) Q E s) fun t => ?_
              refine R'.listEl (P := fun w2 => wpAny (model g.prog g.w) c.A (call (.builtin "str.join") [.str ⟨([] : List Nat).toArray⟩ t, w2]) Q E s) h2 he.1 fun a1 ws1 n1 g1 hv1 _ => ?_
              refine pos_toks R.pos (join_list (isList_of g1) (strsOf_ok hv1 he.2) ?_ fun t' tk hk => ?_)
              · rw [sumLen_map, str_len]; exact line_of (small_lt hsm)
              · exact txt_join xs ▸ hQ _ α _ (List.suffix_refl _) (R.tok hk) rfl rfl
          | _ => cases vs <;> exact hn
    | _ => cases vs with
      | nil => exact hn
      | cons _ vs => cases vs <;> exact hn
/-- the text with b ++ z for each sign a -/
noncomputable def replN (a : Nat) (y : List Nat) : List Nat → List Nat
  | [] => []
  | k :: r => match Nat.beq k a with
    | true => y ++ replN a y r
    | false => k :: replN a y r
theorem replN_free {a : Nat} {y : List Nat} : ∀ {l r : List Nat}, a ∉ l → replN a y (l ++ r) = l ++ replN a y r
  | [], r, _ => rfl
  | k :: l, r, h => by
    have h1 : Nat.beq k a = false := by
      cases e : Nat.beq k a with
      | false => rfl
      | true => exact absurd (by rw [Nat.eq_of_beq_eq_true e]; exact List.mem_cons_self ..) h
    show (match Nat.beq k a with | true => _ | false => _) = _
    rw [h1]
    show k :: replN a y (l ++ r) = _
    rw [replN_free fun m => h (List.mem_cons_of_mem _ m)]
    rfl
theorem repl_join (a : Nat) (y : List Nat) : ∀ parts : List Str, (∀ p ∈ parts, a ∉ p.cps.toList) → (Str.join ⟨y.toArray⟩ parts).cps.toList = replN a y (Str.join ⟨#[a]⟩ parts).cps.toList
  | [], _ => rfl
  | [p], h => by
    have := replN_free (y := y) (r := []) (h p (List.mem_singleton.mpr rfl))
    simp only [List.append_nil] at this
    exact (this.trans (by simp [replN, Str.join])).symm
  | p :: q :: r, h => by
    have ih := repl_join a y (q :: r) fun b hb => h b (List.mem_cons_of_mem _ hb)
    show (p ++ ⟨y.toArray⟩ ++ Str.join ⟨y.toArray⟩ (q :: r)).cps.toList = replN a y (p ++ ⟨#[a]⟩ ++ Str.join ⟨#[a]⟩ (q :: r)).cps.toList
    simp only [Str.cps_append, Array.toList_append]
    rw [ih, List.append_assoc, List.append_assoc, replN_free (h p (List.mem_cons_self ..))]
    show _ ++ (y ++ _) = _ ++ replN a y (a :: _)
    congr 1
    show _ = (match Nat.beq a a with | true => _ | false => _)
    rw [Nat.beq_refl]
    rfl
theorem txt_replace (x y : List Nat) (a : Nat) : Txt.replace ⟨x.toArray⟩ ⟨#[a]⟩ ⟨y.toArray⟩ = ⟨(replN a y x).toArray⟩ := by
  have h := repl_join a y _ (StrLaws.split_free ⟨x.toArray⟩ a)
  rw [StrLaws.join_split, ← StrLaws.replace_one] at h
  generalize Txt.replace ⟨x.toArray⟩ ⟨#[a]⟩ ⟨y.toArray⟩ = r at h
  obtain ⟨⟨l⟩⟩ := r
  have e : l = replN a y x := h
  rw [e]
theorem gm_replace : GmOK g "replace" "str.replace" isStrM :=
  gm_str fun hQ => GM.replace hQ
noncomputable def replF (f1 : PS → Option (MV × PS)) (a : Nat) (b : List Nat) (fh : PS → Option (MV × PS)) : PS → Option (MV × PS) := fun st => match f1 st with
  | .none => .none
  | some (x, st1) => match x with
    | .str x => match fh st1 with
      | .none => .none
      | some (z, st2) => match z with
        | .str z => match small x.length, small ((x.length + 1) * (b ++ z).length) with
          | true, true => some (.str (replN a (b ++ z) x), st2)
          | _, _ => .none
        | _ => .none
    | _ => .none
set_option smartUnfolding false in
theorem EvOK.repl {o h : Expr} {a b : Nat} {sa sb : Str} {k1 k2 : Nat} {p1 p2 p3 apos pos : Pos} {f1 fh : PS → Option (MV × PS)} (hnb : ∀ h, g.B h → NoneBooked h) (h1 : EvOK g Γ lv o f1) (hh : EvOK g Γ lv h fh)
    (hsa : sa = ⟨#[a]⟩) (hsb : sb = ⟨#[b]⟩)
    (he : ∀ env, ∃ pl : Sem Bool, eval ((Expr.Attribute o "replace" apos).Call [.Constant (.str sa) k1 p1, .BinOp (.Constant (.str sb) k2 p2) .Add h p3] [] pos) env = (do
          let ov ← eval o env
          standAt apos.atName
          let __x ← holding [ov] (getMethod ov "replace" pl)
          match __x with
            | (f, first) => callWith pos f first (backTo pos (starEach [.Constant (.str sa) k1 p1, .BinOp (.Constant (.str sb) k2 p2) .Add h p3] env)) [])) :
    EvOK g Γ lv ((Expr.Attribute o "replace" apos).Call [.Constant (.str sa) k1 p1, .BinOp (.Constant (.str sb) k2 p2) .Add h p3] [] pos) (replF f1 a [b] fh) := by
  intro c hl α ext G st v st' s Q E hf R hQ
  unfold replF at hf
  refine eop hf fun x0 st1 e1 hf => ?_
  refine emv_str hf fun x ex hf => ?_
  refine eop hf fun z0 st2 e2 hf => ?_
  refine emv_str hf fun z ez hf => ?_
  refine ebb hf fun hs1 hs2 hf => ?_
  replace hQ := som2 (P := RetP c α ext G s Q) hf hQ
  subst ex ez
  have hs1 := small_lt hs1
  have hs2 : (x.length + 1) * (b :: z).length < 1000000 := small_lt hs2
  refine (he c.env).elim fun pl he => ?_
  refine MethodCall_ (h1 c hl α ext G st _ st1 s _ E e1 R fun wa α1 s1 hs1' R1 ho1 va => ?_) he
  obtain ⟨t0, rfl⟩ := va.str_inv
  refine GM.replace (callWith_method1 ?_ rfl (noStars _ _ _ rfl))
  refine spliced_more (Constant_str ?_) rfl
  refine spliced_more (wpAny_BinOp (Constant_str ?_)) rfl
  have R1' : Rel c α1 ext G st1 { s1 with toks := s1.toks + 1 + 1 } := R1.tok (Nat.succ_pos _)
  refine wpAny_with_toks (n := s1.toks + 1 + 1) (Nat.le_refl _) ?_
  refine wpAny_mono (hh c hl α1 ext G st1 _ st2 { s1 with toks := s1.toks + 1 + 1 } (fun b s₂ => s1.toks + 1 + 1 ≤ s₂.toks → wpAny (model g.prog g.w) c.A (binaryOp .Add (.str sb (s1.toks + 1)) b) _ E s₂) E e2 R1' fun wz α2 s2 hs2' R2 ho2 vz htk => ?_) (fun _ _ h => h) (fun _ _ h _ => h)
  obtain ⟨t3, rfl⟩ := vz.str_inv
  have hpos := R1.pos
  subst hsa hsb
  have key : ∀ (t' : Tok) (tk : Nat), s1.toks + 1 ≤ t' → 0 < tk → wpAny (model g.prog g.w) c.A (spliced (backTo pos (starEach [] c.env))) (fun vs s₂ => wpAny (model g.prog g.w) c.A (call (.builtin "str.replace") ([.str ⟨x.toArray⟩ t0] ++ .str ⟨#[a]⟩ s1.toks :: .str ⟨(b :: z).toArray⟩ t' :: vs)) Q E s₂) E { s2 with toks := tk } := by
    intro t' tk h1 h2
    refine spliced_none ?_
    have R3 : Rel c α2 ext G st2 { s2 with toks := tk } := R2.tok h2
    refine pos_toks h2 (SC.replaceA (Nat.pos_iff_ne_zero.mp hpos) (Nat.pos_iff_ne_zero.mp (Nat.lt_of_lt_of_le (Nat.succ_pos _) h1)) (Nat.ne_of_lt h1) (by rw [str_len, str_len]; exact Nat.le_trans (Nat.add_le_add (Nat.le_of_lt hs1) (Nat.le_of_lt hs2)) (by decide)) (fun t'' k hk => ?_) ?_)
    · rw [txt_replace]
      exact hQ _ α2 _ (hs1'.trans hs2') (R2.tok hk) (ho2.trans ho1) rfl
    · obtain ⟨m, led, bl, R3⟩ := R3
      obtain ⟨mc, hm1, hm2⟩ := hnb _ c.hB
      exact ⟨mc, hm1.keeps R3.F.keep, hm2⟩
  refine concat_gives (typeIs_str _ _ _) (typeIs_str _ _ _) PySem.noFill_str_add PySem.seq_str_add PySem.F.slot_str_add PySem.F.entry_str_add (PySem.F.args_str_add_2 _ _) (gives_str_add ⟨#[b]⟩ ⟨z.toArray⟩ _ _) ?_
  rw [if_neg (by simp [Str.length])]
  cases z with
  | nil =>
    rw [if_pos (by rfl)]
    exact key (s1.toks + 1) s2.toks (Nat.le_refl _) R2.pos
  | cons z0 zr =>
    rw [if_neg (by simp [Str.length])]
    refine ⟨?_, ?_⟩
    · show ((⟨#[b]⟩ : Str) ++ (⟨(z0 :: zr).toArray⟩ : Str)).length ≤ _
      have : (⟨#[b]⟩ : Str) = ⟨[b].toArray⟩ := rfl
      rw [this, str_app, str_len, sizeLine_eq]
      have : (x.length + 1) * (b :: z0 :: zr).length ≥ (b :: z0 :: zr).length := Nat.le_mul_of_pos_left _ (Nat.succ_pos _)
      show (b :: z0 :: zr).length ≤ _
      omega
    · have e : (⟨#[b]⟩ : Str) ++ (⟨(z0 :: zr).toArray⟩ : Str) = ⟨(b :: z0 :: zr).toArray⟩ := by
        have : (⟨#[b]⟩ : Str) = ⟨[b].toArray⟩ := rfl
        rw [this, str_app]; rfl
      rw [e]
      exact key s2.toks (s2.toks + 1) (by omega) (Nat.succ_pos _)
end Mine
end P10
section P11
open PySem PySem.W PyProof.Rows PySem.Calls PySem.Spec PySem.SeqAt
namespace Mine
variable {g : Gl} {Γ : Sta} {lv : Nat}
/-! built-in functions -/
noncomputable def lenM : List MV → SS → Option (MV × SS)
  | [a], ss => match a with
    | .str x => match small x.length with
      | true => some (.int (.c x.length), ss)
      | false => .none
    | .ref k => match listAt ss k with
      | .none => .none
      | some vs => match small vs.length with
        | true => some (.int (.c vs.length), ss)
        | false => .none
    | _ => .none
  | _, _ => .none
set_option smartUnfolding false in
theorem len_ok : OpNOK g lv (fun ws => call (.builtin "len") ws) lenM := by
  refine OpNOK.of fun Γ c α ext G st vs ws s Q E K hl hv R hn hK => ?_
  unfold lenM
  refine k1any (K := K) (ss := st.ss) hn fun a ea => ?_
  subst ea
  cases a with
  | str x =>
    refine kb (K := K) hn fun hsm => hK _ _ fun hQ => ?_
    refine hv.one (P := fun ws => wpAny (model g.prog g.w) c.A (call (.builtin "len") ws) Q E s) fun w h1 => h1.str_el (P := fun w => wpAny (model g.prog g.w) c.A (call (.builtin "len") [w]) Q E s) fun t => ?_
    refine len_str (by rw [str_len]; exact nofits (small_lt hsm)) ?_
    rw [str_len]
    exact hQ _ α _ (List.suffix_refl _) (R.tok (Nat.succ_pos _)) rfl rfl
  | ref k =>
    refine ko (K := K) hn fun us e => ?_
    refine kb (K := K) hn fun hsm => hK _ _ fun hQ => ?_
    cases id R with | mk m led bl R' =>
    refine hv.one (P := fun ws => wpAny (model g.prog g.w) c.A (call (.builtin "len") ws) Q E s) fun w h1 => R'.listEl (P := fun w => wpAny (model g.prog g.w) c.A (call (.builtin "len") [w]) Q E s) h1 e fun a1 ws1 n1 g1 _ hlen => ?_
    refine call_len_list (isList_of g1) (arr_fits hlen (small_lt hsm)) ?_
    rw [List.size_toArray, hlen]
    exact hQ _ α _ (List.suffix_refl _) (R.tok (Nat.succ_pos _)) rfl rfl
  | _ => exact hn
noncomputable def rangeOk (a b s : Int) : Bool := small a.natAbs && (small b.natAbs && (small s.natAbs && !isZ s))
noncomputable def newR (a b s : Int) (ss : SS) : Option (MV × SS) := match rangeOk a b s with
  | true => some (.ref ss.n, ⟨ss.n + 1, .range a b s :: ss.sto⟩)
  | false => .none
structure RangeAt (a b s : Int) : Prop where
  h1 : a.natAbs < 1000000
  h2 : b.natAbs < 1000000
  h3 : s.natAbs < 1000000
  h4 : s ≠ 0
theorem rangeOk_at {a b s : Int} (h : rangeOk a b s = true) : RangeAt a b s := by
  have h1 := Bool.and_eq_true_iff.mp h
  have h2 := Bool.and_eq_true_iff.mp h1.2
  have h3 := Bool.and_eq_true_iff.mp h2.2
  exact ⟨small_lt h1.1, small_lt h2.1, small_lt h3.1, fun q => by have := h3.2; rw [isZ_iff.mpr q] at this; exact ff this⟩
theorem newR_k {K : Option (MV × SS) → Prop} {a b s : Int} {ss : SS} (n : K none) (k : RangeAt a b s → K (some (.ref ss.n, ⟨ss.n + 1, .range a b s :: ss.sto⟩))) : K (newR a b s ss) := by
  unfold newR
  cases e : rangeOk a b s with
  | false => exact n
  | true => exact k (rangeOk_at e)
noncomputable def rangeM (vs : List MV) (ss : SS) : Option (MV × SS) := match intsOf vs with
  | none => .none
  | some xs => match xs with
    | [] => .none
    | a :: r => match r with
      | [] => newR 0 a 1 ss
      | b :: r => match r with
        | [] => newR a b 1 ss
        | d :: r => match r with
          | [] => newR a b d ss
          | _ :: _ => .none
section
variable {P : List Value → Prop} {ws : List Value} {a b d : Int}
theorem ints1 (h : IntsAre ws [a]) (k : ∀ t, P [.int a t]) : P ws := by
  cases h with | cons _ t h => cases h; exact k t
theorem ints2 (h : IntsAre ws [a, b]) (k : ∀ t u, P [.int a t, .int b u]) : P ws := by
  cases h with | cons _ t h => exact ints1 (P := fun ws => P (_ :: ws)) h fun u => k t u
theorem ints3 (h : IntsAre ws [a, b, d]) (k : ∀ t u v, P [.int a t, .int b u, .int d v]) : P ws := by
  cases h with | cons _ t h => exact ints2 (P := fun ws => P (_ :: ws)) h fun u v => k t u v
end
theorem made_range {c : Cx g Γ} {α : List Addr} {ext : List (Addr × Obj)} {G : List GenState} {st : PS} {s : Shared} {a b d : Int} {t u v : Tok} {tk : Nat} {Q : Value → Shared → Prop} (R : Rel c α ext G st s) (ht : 0 < tk)
    (hQ : ∀ w, After c α ext G s { st with ss := ⟨st.ss.n + 1, .range a b d :: st.ss.sto⟩ } fun α' s' => VOK g.q α' (.ref st.ss.n) w → Q w s') :
    Q (.ref s.heap.objs.size) { s with heap := s.heap.push { cls := .type "range", data := .fields #[.int a t, .int b u, .int d v] }, toks := tk } := by
  obtain ⟨m, led, bl, R⟩ := R
  exact hQ _ (s.heap.objs.size :: α) _ (List.suffix_cons _ _) (Rel.alloc R (Fr.push R.F _) (News.push R.F R.N _) (News.below R.N) ⟨t, u, v, rfl⟩ ht) rfl (Rel.ref R _)
set_option smartUnfolding false in
theorem range_ok : OpNOK g lv (fun ws => call (.type "range") ws) rangeM := by
  refine OpNOK.of fun Γ c α ext G st vs ws s Q E K hl hv R hn hK => ?_
  unfold rangeM
  refine ko (K := K) hn fun xs e => ?_
  have hi := intsOf_ok hv e
  cases xs with
  | nil => exact hn
  | cons a r => cases r with
    | nil => exact newR_k hn fun p => hK _ _ fun hQ => ints1 (P := fun ws => wpAny (model g.prog g.w) c.A (call (.type "range") ws) Q E s) hi fun t => call_range_1 (made_range R (Nat.succ_pos _) hQ)
    | cons b r => cases r with
      | nil => exact newR_k hn fun p => hK _ _ fun hQ => ints2 (P := fun ws => wpAny (model g.prog g.w) c.A (call (.type "range") ws) Q E s) hi fun t u => call_range_2 (made_range R (Nat.succ_pos _) hQ)
      | cons d r => cases r with
        | nil => exact newR_k hn fun p => hK _ _ fun hQ => ints3 (P := fun ws => wpAny (model g.prog g.w) c.A (call (.type "range") ws) Q E s) hi fun t u v => call_range_3 p.h4 (made_range R R.pos hQ) (.inl (PyProof.noPylong_small (Nat.lt_trans p.h3 (by decide))))
        | cons _ _ => exact hn
noncomputable def minI : List Int → Option Int
  | [] => none
  | a :: r => match minI r with
    | none => some a
    | some b => match Z.leB a b with
      | true => some a
      | false => some b
theorem minI_nil {r : List Int} (h : minI r = none) : r = [] := by
  cases r with
  | nil => rfl
  | cons b t =>
    have h : (match minI t with | none => some b | some c => match Z.leB b c with | true => some b | false => some c) = none := h
    cases e : minI t with
    | none => rw [e] at h; exact nn h.symm
    | some c => rw [e] at h; dsimp only at h; cases e2 : Z.leB b c <;> rw [e2] at h <;> exact nn h.symm
theorem minI_spec {l : List Int} : ∀ {m : Int}, minI l = some m → m ∈ l ∧ ∀ a ∈ l, m ≤ a := by
  induction l with
  | nil => intro m h; exact nn h
  | cons a r ih =>
    intro m h
    have h : (match minI r with | none => some a | some c => match Z.leB a c with | true => some a | false => some c) = some m := h
    cases e : minI r with
    | none =>
      rw [e] at h
      rw [minI_nil e, Option.some.inj h]
      exact ⟨List.mem_cons_self, fun x hx => by rw [List.mem_singleton.mp hx]; exact Int.le_refl _⟩
    | some c =>
      have ih := ih e
      rw [e] at h
      dsimp only at h
      cases e2 : Z.leB a c with
      | true =>
        rw [e2] at h
        rw [← Option.some.inj h]
        exact ⟨List.mem_cons_self, fun x hx => (List.mem_cons.mp hx).elim (fun e => e ▸ Int.le_refl _) fun hx => Int.le_trans ((Z.leB_iff _ _).mp e2) (ih.2 x hx)⟩
      | false =>
        rw [e2] at h
        rw [← Option.some.inj h]
        have hle : ¬ a ≤ c := fun q => by rw [(Z.leB_iff _ _).mpr q] at e2; exact ff e2.symm
        exact ⟨List.mem_cons_of_mem _ ih.1, fun x hx => (List.mem_cons.mp hx).elim (fun e => e ▸ Int.le_of_lt (Int.not_le.mp hle)) fun hx => ih.2 x hx⟩
noncomputable def minM (vs : List MV) (ss : SS) : Option (MV × SS) := match intsOf vs with
  | some xs => (match xs with
    | [] => .none
    | a :: r => match r with
      | [] => .none
      | b :: r => match r with
        | [] => some (.int (.c (match Z.ltB b a with | true => b | false => a)), ss)
        | _ :: _ => .none)
  | none => (match vs, ss with
    | [.ref k], ss => match (listAt ss k).bind intsOf with
      | none => .none
      | some xs => match minI xs with
        | none => .none
        | some m => some (.int (.c m), ss)
    | _, _ => .none)
theorem IntsAre.len {ws : List Value} {ys : List Int} (h : IntsAre ws ys) : ws.length = ys.length := by
  induction h with
  | nil => rfl
  | cons _ _ _ ih => simp [ih]
theorem min_pick (a b : Int) : (match Z.ltB b a with | true => b | false => a) = if b < a then b else a := by
  cases h : Z.ltB b a with
  | true => rw [if_pos ((Z.ltB_iff b a).mp h)]
  | false => rw [if_neg fun q => by rw [(Z.ltB_iff b a).mpr q] at h; exact ff h.symm]
set_option smartUnfolding false in
theorem min_ok : OpNOK g lv (fun ws => call (.builtin "min") ws) minM := by
  refine OpNOK.of fun Γ c α ext G st vs ws s Q E K hl hv R hn hK => ?_
  unfold minM
  cases ex : intsOf vs with
  | some xs =>
    have hi := intsOf_ok hv ex
    cases xs with
    | nil => exact hn
    | cons a r => cases r with
      | nil => exact hn
      | cons b r => cases r with
        | cons _ _ => exact hn
        | nil =>
          refine hK _ _ fun hQ => ints2 (P := fun ws => wpAny (model g.prog g.w) c.A (call (.builtin "min") ws) Q E s) hi fun t u => ?_
          cases R with | mk m led bl R =>
          exact pos_toks R.tk (min_two_N c.hh R.F R.N fun h' tk F' N' hk => hQ _ α _ (List.suffix_refl _) (Rel.step R F' N' hk) rfl (min_pick a b))
  | none =>
    refine k1ref (K := K) (ss := st.ss) hn fun k ek => ?_
    refine ko (K := K) hn fun xs e => ?_
    refine ko (K := K) hn fun m0 em => hK _ _ fun hQ => ?_
    subst ek
    cases R with | mk m led bl R =>
    refine (Option.bind_eq_some_iff.mp e).elim fun us he => ?_
    refine hv.one (P := fun ws => wpAny (model g.prog g.w) c.A (call (.builtin "min") ws) Q E s) fun w h1 => R.listEl (P := fun w => wpAny (model g.prog g.w) c.A (call (.builtin "min") [w]) Q E s) h1 he.1 fun a1 ws1 n1 g1 hv1 _ => ?_
    have hm := minI_spec em
    refine pos_toks R.tk (min_list_N c.hh R.F R.N (isList_of g1) (intsOf_ok hv1 he.2) (List.length_pos_of_mem hm.1) fun h' M t tk F' N' hM1 hM2 hk => ?_)
    exact Int.le_antisymm (hM2 _ hm.1) (hm.2 _ hM1) ▸ hQ _ α _ (List.suffix_refl _) (Rel.step R F' N' hk) rfl rfl
noncomputable def absM : List MV → SS → Option (MV × SS)
  | [.int (.c a)], ss => some (.int (.c (match Z.ltB a 0 with | true => -a | false => a)), ss)
  | _, _ => .none
theorem abs_pick (a : Int) : (match Z.ltB a 0 with | true => -a | false => a) = if a < 0 then -a else a := by
  cases h : Z.ltB a 0 with
  | true => rw [if_pos ((Z.ltB_iff a 0).mp h)]
  | false => rw [if_neg fun q => by rw [(Z.ltB_iff a 0).mpr q] at h; exact ff h.symm]
set_option smartUnfolding false in
theorem abs_ok : OpNOK g lv (fun ws => call (.builtin "abs") ws) absM := by
  refine OpNOK.of fun Γ c α ext G st vs ws s Q E K hl hv R hn hK => ?_
  unfold absM
  refine k1int (K := K) (ss := st.ss) hn fun a ea => hK _ _ fun hQ => ?_
  subst ea
  refine hv.one (P := fun ws => wpAny (model g.prog g.w) c.A (call (.builtin "abs") ws) Q E s) fun w h1 => h1.int_el (P := fun w => wpAny (model g.prog g.w) c.A (call (.builtin "abs") [w]) Q E s) fun t => ?_
  exact pos_toks R.pos (call_abs_int fun u tk hk => hQ _ α _ (List.suffix_refl _) (R.tok hk) rfl (abs_pick a))
noncomputable def sumI : List Int → Int
  | [] => 0
  | a :: r => a + sumI r
theorem sumI_eq : ∀ l : List Int, l.sum = sumI l
  | [] => rfl
  | a :: r => by rw [List.sum_cons, sumI_eq r]; rfl
noncomputable def sumM : List MV → SS → Option (MV × SS)
  | [.ref k], ss => match (listAt ss k).bind intsOf with
    | none => .none
    | some xs => some (.int (.c (sumI xs)), ss)
  | _, _ => .none
set_option smartUnfolding false in
theorem sum_ok : OpNOK g lv (fun ws => call (.builtin "sum") ws) sumM := by
  refine OpNOK.of fun Γ c α ext G st vs ws s Q E K hl hv R hn hK => ?_
  unfold sumM
  refine k1ref (K := K) (ss := st.ss) hn fun k ek => ?_
  refine ko (K := K) hn fun xs e => hK _ _ fun hQ => ?_
  subst ek
  cases R with | mk m led bl R =>
  refine (Option.bind_eq_some_iff.mp e).elim fun us he => ?_
  refine hv.one (P := fun ws => wpAny (model g.prog g.w) c.A (call (.builtin "sum") ws) Q E s) fun w h1 => R.listEl (P := fun w => wpAny (model g.prog g.w) c.A (call (.builtin "sum") [w]) Q E s) h1 he.1 fun a1 ws1 n1 g1 hv1 _ => ?_
  refine pos_toks R.tk (sumK c.hh R.F R.N (isList_of g1) (intsOf_ok hv1 he.2) fun h' tk t' F' N' hk => ?_)
  rw [sumI_eq]
  exact hQ _ α _ (List.suffix_refl _) (Rel.step R F' N' hk) rfl rfl
/-- range(a, b) by ones as ints -/
noncomputable def upI (a : Int) : Nat → List Int
  | 0 => []
  | n + 1 => a :: upI (a + 1) n
theorem upI_get : ∀ {n : Nat} {a : Int} {i : Nat}, i < n → (upI a n)[i]? = some (a + i)
  | 0, _, _, h => by omega
  | n + 1, a, 0, _ => by simp [upI]
  | n + 1, a, i + 1, h => by
    rw [upI, List.getElem?_cons_succ, upI_get (by omega)]
    congr 1; omega
theorem upI_len : ∀ (n : Nat) (a : Int), (upI a n).length = n
  | 0, _ => rfl
  | n + 1, a => by rw [upI, List.length_cons, upI_len n]
noncomputable def listR : List MV → SS → Option (MV × SS)
  | [.ref k], ss => match fromEnd ss.n ss.sto k with
    | some (.range a b s) => match Z.eqB s 1, rangeOk a b s with
      | true, true => newL ((upI a (b - a).toNat).map fun i => .int (.c i)) ss
      | _, _ => .none
    | _ => .none
  | _, _ => .none
theorem VsOK.of_get {q : Int} {α : List Addr} {vs : List MV} : ∀ {ws : List Value}, ws.length = vs.length → (∀ (i : Nat) (v : MV) (w : Value), vs[i]? = some v → ws[i]? = some w → VOK q α v w) → VsOK q α vs ws := by
  induction vs with
  | nil => intro ws h _; rw [List.length_eq_zero_iff.mp h]; exact .nil
  | cons v vs ih =>
    intro ws h k
    cases ws with
    | nil => exact absurd h.symm (Nat.succ_ne_zero _)
    | cons w ws => exact .cons (k 0 v w rfl rfl) (ih (Nat.succ.inj h) fun i v w e1 e2 => k (i + 1) v w e1 e2)
theorem fresh_none {h₀ h : Heap} {L : Addr} {m : Str → Option Value} (F : Fr h₀ L h m) : h₀.get? h.objs.size = none := by
  cases hq : h₀.get? h.objs.size with
  | none => rfl
  | some o => exact absurd (Heap.lt_size (F.keep _ _ hq)) (Nat.lt_irrefl _)
theorem one_size {a b : Int} : Builtin.Range.rangeSize a b 1 = ((b - a).toNat : Int) := by
  rw [rangeSize_one]; split <;> omega
theorem abs_bd {n : Int} (h : n.natAbs < 1000000) : -9223372036854775808 ≤ n ∧ n < 9223372036854775808 := by omega
theorem max_bd {a b : Int} (h1 : a.natAbs < 1000000) (h2 : b.natAbs < 1000000) : -9223372036854775808 ≤ max (b - a) 0 ∧ max (b - a) 0 < 9223372036854775808 := by omega
theorem one_small {a b : Int} (h1 : a.natAbs < 1000000) (h2 : b.natAbs < 1000000) : Builtin.Range.small a b 1 = true := by
  unfold Builtin.Range.small
  rw [one_size]
  simp only [Builtin.Range.rangeFitsLong]
  simp
  exact ⟨⟨⟨abs_bd h1, abs_bd h2⟩, max_bd h1 h2⟩, .inr (abs_bd h2)⟩
theorem up_ok {q : Int} {α : List Addr} {a : Int} {n : Nat} {ws : List Value} (hl : ws.length = n) (h : ∀ (i : Nat) (w : Value), ws[i]? = some w → ∃ t, w = Value.int (a + (i : Int) * 1) t) : VsOK q α ((upI a n).map fun i => .int (.c i)) ws := by
  refine VsOK.of_get (by rw [List.length_map, upI_len, hl]) fun i v w hv hw => ?_
  rw [List.getElem?_map, upI_get (hl ▸ (List.getElem?_eq_some_iff.mp hw).1)] at hv
  refine (h i w hw).elim fun t ht => ?_
  rw [← Option.some.inj hv, ht, Int.mul_one]
  exact rfl
set_option smartUnfolding false in
theorem listR_ok : OpNOK g lv (fun ws => call (.type "list") ws) listR := by
  refine OpNOK.of fun Γ c α ext G st vs ws s Q E K hl hv R hn hK => ?_
  unfold listR
  refine k1ref (K := K) (ss := st.ss) hn fun k ek => ?_
  refine kmo_rng (K := K) hn fun a b d e => ?_
  refine kbb2 (K := K) hn fun h1 h2 => ?_
  refine newL_k hn fun hlen => hK _ _ fun hQ => ?_
  subst ek
  have hd : d = 1 := (Z.eqB_iff d 1).mp h1
  subst hd
  have p := rangeOk_at h2
  cases R with | mk m led bl R =>
  refine hv.one (P := fun ws => wpAny (model g.prog g.w) c.A (call (.type "list") ws) Q E s) fun w k1 => R.objEl (P := fun w => wpAny (model g.prog g.w) c.A (call (.type "list") [w]) Q E s) k1 e fun a1 o1 i1 q1 ho _ _ => ?_
  cases (show RngOK _ _ _ _ from ho) with | mk t u x eo =>
  subst eo
  rw [List.length_map, upI_len] at hlen
  refine pos_toks R.tk (call_list_range c.hh q1 (one_small p.h1 p.h2) one_size (Nat.le_trans (Nat.le_of_lt hlen) (by decide)) fun h' tk acc' c' hk hS hacc hp => ?_)
  have F' : Fr c.h₀ c.L h' m := R.F.keeps hk
  have N' : News c.h₀ c.L h' ((s.heap.objs.size, W.listOf acc'.toList.toArray c') :: (led ++ (bl ++ ext))) := fun p hp => (List.mem_cons.mp hp).elim (fun e => e ▸ ⟨hS, Nat.ne_of_gt R.F.ns.lt, fresh_none R.F⟩) fun hp => ⟨hk _ _ (R.N p hp).1, (R.N p hp).2⟩
  exact made_list R F' N' (News.below R.N) (up_ok (by rw [Array.length_toList]; exact hacc.1) fun i w hw => hacc.2 i w (by rw [← Array.getElem?_toList]; exact hw)) hp hQ
/-! xs[i] = v -/
noncomputable def setF (f1 f2 f3 : PS → Option (MV × PS)) : PS → Option (FL × PS) := fun st => match f1 st with
  | .none => .none
  | some (v, st1) => match f2 st1 with
    | .none => .none
    | some (o, st2) => match f3 st2 with
      | .none => .none
      | some (i, st3) => match o with
        | .ref k => match i with
          | .int (.c (.ofNat j)) => match listAt st3.ss k with
            | .none => .none
            | some vs => match small vs.length, Nat.blt j vs.length with
              | true, true => some (.next, { st3 with ss := ⟨st3.ss.n, setE st3.ss.n st3.ss.sto k (.list (vs.set j v))⟩ })
              | _, _ => .none
          | _ => .none
        | _ => .none
theorem VsOK.set {q : Int} {α : List Addr} {vs : List MV} {ws : List Value} (h : VsOK q α vs ws) {v : MV} {w : Value} (hv : VOK q α v w) : ∀ j, VsOK q α (vs.set j v) (ws.set j w) := by
  induction h with
  | nil => intro j; exact .nil
  | cons h1 h2 ih =>
    intro j
    cases j with
    | zero => exact .cons hv h2
    | succ j => exact .cons h1 (ih j)
theorem setL_some {l : List Value} : ∀ {k : Nat} {v : Value}, k < l.length → ki_setL l k v = some (l.set k v) := by
  induction l with
  | nil => intro k v h; exact absurd h (Nat.not_lt_zero _)
  | cons a l ih =>
    intro k v h
    cases k with
    | zero => rfl
    | succ k =>
      have ih := ih (k := k) (v := v) (Nat.lt_of_succ_lt_succ h)
      simp only [ki_setL, ih]; rfl
set_option smartUnfolding false in
theorem ExOK.setI {e o i : Expr} {p pos : Pos} {f1 f2 f3 : PS → Option (MV × PS)} (h1 : EvOK g Γ lv e f1) (h2 : EvOK g Γ lv o f2) (h3 : EvOK g Γ lv i f3) (hsw : ∀ env, swapsWith e (some (.Subscript o i p)) pos.line env = pure false) :
    ExOK g Γ lv (.Assign [.Subscript o i p] e pos) (setF f1 f2 f3) := by
  intro c hl α ext G st v st' s Q E hf R hQ
  unfold setF at hf
  refine eop hf fun x st1 e1 hf => ?_
  refine eop hf fun o' st2 e2 hf => ?_
  refine eop hf fun i' st3 e3 hf => ?_
  refine emv_ref hf fun k ek hf => ?_
  refine emv_nat hf fun j ej hf => ?_
  refine eo hf fun vs el hf => ?_
  refine ebb hf fun hs1 hs2 hf => ?_
  replace hQ := som2 (P := FetP c α ext G s Q) hf hQ
  have hs2 : j < vs.length := Z.blt_iff.mp hs2
  refine wpAny_Assign_Subscript (h1 c hl α ext G st x st1 s _ E e1 R fun wx α1 s1 hs1' R1 ho1 vx => ?_) (hsw _)
  refine h2 c hl α1 ext G st1 _ st2 s1 _ E e2 R1 fun wo α2 s2 hs2' R2 ho2 vo => ?_
  refine h3 c hl α2 ext G st2 _ st3 s2 _ E e3 R2 fun wi α3 s3 hs3' R3 ho3 vi => ?_
  subst ek ej
  replace vx := vx.mono (hs2'.trans hs3')
  replace vo := vo.mono hs3'
  obtain ⟨t, rfl⟩ := vi.int_inv
  cases R3 with | mk m led bl R3 =>
  cases R3.obj vo (listAt_some el) with | mk a1 o1 i1 ew g1 ho hled hi =>
  subst ew
  cases (show LstOK _ _ _ _ from ho) with | mk ws1 n1 eo hv1 =>
  subst eo
  refine ki_set (k := (j : Int)) (its := ws1.toArray) R3.F R3.N (Int.natCast_nonneg _) (Int.lt_trans (Int.ofNat_lt.mpr hs2) (fits (small_lt hs1))) (setL_some (l := ws1) (hv1.length.symm ▸ hs2)) (upd_of_nodup R3.nd hled) fun h' F' N' => ?_
  exact hQ .next α3 _ ((hs1'.trans hs2').trans hs3') (R3.upd hi hled (mo' := .list (vs.set j x)) ⟨_, _, rfl, hv1.set vx j⟩ F' N' R3.tk) (ho3.trans (ho2.trans ho1)) trivial
end Mine
end P11
section P12
open PySem PySem.W PyProof.Rows PySem.Calls PySem.Spec
namespace Mine
variable {g : Gl} {Γ : Sta} {lv : Nat}
section
variable {c : Cx g Γ} {α : List Addr} {ext own own' : List (Addr × Obj)} {G gx : List GenState} {st : PS} {s : Shared} {m : Str → Option Value} {led bl : List (Addr × Obj)}
/-- the private objects in front of ext are changed -/
theorem RelX.priv (R : RelX c α (own ++ ext) G st s m led bl) {h' : Heap} {tk : Nat}
    (hk : ∀ b o, (∀ p ∈ own, b ≠ p.1) → s.heap.get? b = some o → h'.get? b = some o)
    (hn : ∀ p ∈ own', h'.get? p.1 = some p.2 ∧ ((∃ r ∈ own, r.1 = p.1) ∨ s.heap.objs.size ≤ p.1))
    (nd : (own'.map (·.1)).Nodup) (ht : 0 < tk) : Rel c α (own' ++ ext) G st { s with heap := h', toks := tk } := by
  have hmem : ∀ p ∈ own, p ∈ led ++ (bl ++ (own ++ ext)) := fun p hp => by simp [hp]
  have hL : ∀ p ∈ own, c.L ≠ p.1 := fun p hp e => (R.N p (hmem p hp)).2.1 e.symm
  have h0 : ∀ b o, c.h₀.get? b = some o → ∀ p ∈ own, b ≠ p.1 := fun b o e p hp q => by
    rw [q, (R.N p (hmem p hp)).2.2] at e; cases e
  obtain ⟨oL, a1, a2, hoL, a3⟩ := R.F.ns
  have F' : Fr c.h₀ c.L h' m := ⟨⟨oL, a1, a2, hk _ _ hL hoL, a3⟩, fun b o e => hk b o (h0 b o e) (R.F.keep b o e), R.F.above⟩
  have hlt : ∀ p ∈ led ++ (bl ++ (own ++ ext)), p.1 < s.heap.objs.size := fun p hp => Heap.lt_size (R.N p hp).1
  have hLlt : c.L < s.heap.objs.size := R.F.ns.lt
  have ND := R.nd
  simp only [List.map_append, List.nodup_append] at ND
  obtain ⟨d1, ⟨d2, ⟨d3, d4, d5⟩, d6⟩, d7⟩ := ND
  have apart : ∀ p ∈ own', ∀ b, b ∈ led.map (·.1) ∨ b ∈ bl.map (·.1) ∨ b ∈ ext.map (·.1) → b ≠ p.1 := by
    intro p hp b hb q
    rcases (hn p hp).2 with ⟨r, hr, e⟩ | hge
    · have hr' : r.1 ∈ own.map (·.1) := List.mem_map_of_mem hr
      rcases hb with hb | hb | hb
      · exact d7 b hb r.1 (by simp only [List.mem_append]; exact .inr (.inl hr')) (q.trans e.symm)
      · exact d6 b hb r.1 (by simp only [List.mem_append]; exact .inl hr') (q.trans e.symm)
      · exact d5 r.1 hr' b hb (e.trans q.symm)
    · have : b < s.heap.objs.size := by
        rcases hb with hb | hb | hb <;> obtain ⟨p', hp', rfl⟩ := List.mem_map.mp hb <;> exact hlt p' (by simp [hp'])
      exact absurd (q ▸ this) (Nat.not_lt.mpr hge)
  refine ⟨m, led, bl, F', fun p hp => ?_, ?_, R.la, R.lo, R.nn, R.bk, R.ce, R.ge, R.ba, R.tb, ht⟩
  · rw [List.mem_append, List.mem_append, List.mem_append] at hp
    by_cases hp' : p ∈ own'
    · refine ⟨(hn p hp').1, ?_, ?_⟩
      · rcases (hn p hp').2 with ⟨r, hr, e⟩ | hge
        · rw [← e]; exact (hL r hr).symm
        · exact Nat.ne_of_gt (Nat.lt_of_lt_of_le hLlt hge)
      · rcases (hn p hp').2 with ⟨r, hr, e⟩ | hge
        · rw [← e]; exact (R.N r (hmem r hr)).2.2
        · exact Heap.get?_none_of_le (Nat.le_trans R.F.above (Nat.le_trans (Nat.le_of_lt hLlt) hge))
    · have hin : p ∈ led ++ (bl ++ (own ++ ext)) := by
        simp only [List.mem_append]
        rcases hp with h | h | h | h
        · exact .inl h
        · exact .inr (.inl h)
        · exact absurd h hp'
        · exact .inr (.inr (.inr h))
      refine ⟨hk _ _ (fun r hr q => ?_) (R.N p hin).1, (R.N p hin).2⟩
      have hr' : r.1 ∈ own.map (·.1) := List.mem_map_of_mem hr
      rcases hp with h | h | h | h
      · exact d7 p.1 (List.mem_map_of_mem h) r.1 (by simp only [List.mem_append]; exact .inr (.inl hr')) q
      · exact d6 p.1 (List.mem_map_of_mem h) r.1 (by simp only [List.mem_append]; exact .inl hr') q
      · exact absurd h hp'
      · exact d5 r.1 hr' p.1 (List.mem_map_of_mem h) q.symm
  · simp only [List.map_append, List.nodup_append]
    refine ⟨d1, ⟨d2, ⟨nd, d4, ?_⟩, ?_⟩, ?_⟩
    · intro a ha b hb e
      obtain ⟨p, hp, rfl⟩ := List.mem_map.mp ha
      exact apart p hp b (.inr (.inr hb)) e.symm
    · intro a ha b hb e
      rcases List.mem_append.mp hb with hb | hb
      · obtain ⟨p, hp, rfl⟩ := List.mem_map.mp hb
        exact apart p hp a (.inr (.inl ha)) e
      · exact d6 a ha b (List.mem_append_right _ hb) e
    · intro a ha b hb e
      rcases List.mem_append.mp hb with hb | hb
      · exact d7 a ha b (List.mem_append_left _ hb) e
      rcases List.mem_append.mp hb with hb | hb
      · obtain ⟨p, hp, rfl⟩ := List.mem_map.mp hb
        exact apart p hp a (.inl ha) e
      · exact d7 a ha b (List.mem_append_right _ (List.mem_append_right _ hb)) e
theorem Rel.priv (R : Rel c α (own ++ ext) G st s) {h' : Heap} {tk : Nat}
    (hk : ∀ b o, (∀ p ∈ own, b ≠ p.1) → s.heap.get? b = some o → h'.get? b = some o)
    (hn : ∀ p ∈ own', h'.get? p.1 = some p.2 ∧ ((∃ r ∈ own, r.1 = p.1) ∨ s.heap.objs.size ≤ p.1))
    (nd : (own'.map (·.1)).Nodup) (ht : 0 < tk) : Rel c α (own' ++ ext) G st { s with heap := h', toks := tk } :=
  let ⟨_, _, _, R⟩ := R; RelX.priv R hk hn nd ht
/-- one private object is changed -/
theorem Rel.own1 {I : Addr} {o o' : Obj} (R : Rel c α ([(I, o)] ++ ext) G st s) {h' : Heap} {tk : Nat} (hs : Heap.SameBut I s.heap h') (ho : h'.get? I = some o') (ht : 0 < tk) :
    Rel c α ([(I, o')] ++ ext) G st { s with heap := h', toks := tk } :=
  Rel.priv R (fun b ob hb e => (hs.2 b (hb (I, o) (List.mem_singleton.mpr rfl))).trans e) (fun p hp => by
    rw [List.mem_singleton.mp hp]
    exact ⟨ho, .inl ⟨(I, o), List.mem_singleton.mpr rfl, rfl⟩⟩) (by simp) ht
/-- they are let go of -/
theorem Rel.drop (R : Rel c α (own ++ ext) (G ++ gx) st s) {h' : Heap} {tk : Nat} (hk : ∀ b o, (∀ p ∈ own, b ≠ p.1) → s.heap.get? b = some o → h'.get? b = some o) (ht : 0 < tk) : Rel c α ext G st { s with heap := h', toks := tk } := by
  obtain ⟨m, led, bl, R'⟩ := Rel.priv R (own' := []) hk (fun p hp => nomatch hp) List.nodup_nil ht
  exact ⟨m, led, bl, R'.F, R'.N, R'.nd, R'.la, R'.lo, R'.nn, R'.bk, R'.ce, (List.prefix_append G gx).trans R'.ge, R'.ba, R'.tb, R'.tk⟩
theorem Rel.get (R : Rel c α (own ++ ext) G st s) {p : Addr × Obj} (hp : p ∈ own) : s.heap.get? p.1 = some p.2 := let ⟨_, _, _, R⟩ := R; (R.N p (by simp [hp])).1
theorem Rel.ndOwn (R : Rel c α (own ++ ext) G st s) : (own.map (·.1)).Nodup := by
  obtain ⟨m, led, bl, R⟩ := R
  have ND := R.nd
  simp only [List.map_append, List.nodup_append] at ND
  exact ND.2.1.2.1.1
/-- an object of the store is none of the private ones -/
theorem Rel.ne (R : Rel c α (own ++ ext) G st s) {k : Nat} {l : Addr} (h : fromEnd α.length α k = some l) : ∀ p ∈ own, l ≠ p.1 := by
  obtain ⟨m, led, bl, R⟩ := R
  intro p hp e
  have ND := R.nd
  simp only [List.map_append, List.nodup_append] at ND
  have : l ∈ α := by
    unfold fromEnd at h
    split at h
    · exact List.mem_of_getElem? h
    · cases h
  rw [← R.la] at this
  exact ND.2.2 l this p.1 (by simp only [List.mem_append]; exact .inr (.inl (List.mem_map_of_mem hp))) e
theorem Rel.list (R : Rel c α ext G st s) {k : Nat} {l : Addr} {vs : List MV} (hl : fromEnd α.length α k = some l) (h : listAt st.ss k = some vs) : ∃ ws, s.heap.IsList l ws.toArray ∧ VsOK g.q α vs ws := by
  cases R with | mk m led bl R =>
  exact R.listEl (P := fun w => w = .ref l → ∃ ws, s.heap.IsList l ws.toArray ∧ VsOK g.q α vs ws) (show VOK g.q α (.ref k) (.ref l) from hl) h (fun a ws n h1 h2 _ e => ⟨ws, Value.ref.inj e ▸ isList_of h1, h2⟩) rfl
end
/-! iterators -/
inductive Item where
  | one (v : MV)
  | two (a b : MV)
inductive It where
  | list (k i : Nat)
  | rng (x : Int) (n : Nat) (d : Int)
  | str (cs : List Nat)
  | enumL (k i : Nat)
  | zip (k1 k2 i : Nat)
  | rev (k i : Nat)
  | feed (xs : List Item)
noncomputable def nextI : It → SS → Option (Option (Item × It))
  | .list k i, ss => match listAt ss k with
    | .none => .none
    | some vs => match vs[i]? with
      | .none => some .none
      | some v => some (some (.one v, .list k (i + 1)))
  | .rng x n d, _ => match n with
    | 0 => some .none
    | n + 1 => some (some (.one (.int (.c x)), .rng (x + d) n d))
  | .str cs, _ => match cs with
    | [] => some .none
    | c :: cs => some (some (.one (.str [c]), .str cs))
  | .enumL k i, ss => match listAt ss k with
    | .none => .none
    | some vs => match vs[i]? with
      | .none => some .none
      | some v => some (some (.two (.int (.c (i : Int))) v, .enumL k (i + 1)))
  | .zip k1 k2 i, ss => match listAt ss k1 with
    | .none => .none
    | some vs => match listAt ss k2 with
      | .none => .none
      | some us => match vs[i]? with
        | .none => some .none
        | some v => match us[i]? with
          | .none => some .none
          | some u => some (some (.two v u, .zip k1 k2 (i + 1)))
  | .rev k i, ss => match i with
    | 0 => some .none
    | i + 1 => match listAt ss k with
      | .none => .none
      | some vs => match vs[i]? with
        | .none => .none
        | some v => some (some (.one v, .rev k i))
  | .feed xs, _ => match xs with
    | [] => some .none
    | x :: xs => some (some (x, .feed xs))
noncomputable def ItemOK (q : Int) (α : List Addr) : Item → Value → Heap → Prop
  | .one v, w, _ => VOK q α v w
  | .two a b, w, h => ∃ T wa wb, w = .ref T ∧ h.IsTuple T #[wa, wb] ∧ VOK q α a wa ∧ VOK q α b wb
noncomputable def Good (target : Expr) : Item → Prop
  | .one _ => True
  | .two _ _ => ∃ elts x1 pos, target = .Tuple elts x1 pos
/-- what an iterator fed with the items does -/
noncomputable def Feed {g : Gl} {Γ : Sta} (c : Cx g Γ) (G : List GenState) (I : Addr) : List Item → List (Addr × Obj) → List GenState → Prop
  | [], own, gx => ∀ α ext st s (Q : Option Value → Shared → Prop) (E : Value → Shared → Prop), Rel c α (own ++ ext) (G ++ gx) st s →
    (∀ s', Rel c α ext G st s' → s'.os = s.os → Q none s') → wpAny (model g.prog g.w) c.A (pyNext (.ref I)) Q E s
  | x :: xs, own, gx => ∀ α ext st s (Q : Option Value → Shared → Prop) (E : Value → Shared → Prop), Rel c α (own ++ ext) (G ++ gx) st s →
    (∀ w s₁, (∀ tg (Q' : Unit → Shared → Prop) (E' : Value → Shared → Prop), Good tg x → (∀ own' gx' s₂, Feed c G I xs own' gx' → Rel c α (own' ++ ext) (G ++ gx') st s₂ → s₂.os = s.os → ItemOK g.q α x w s₂.heap → Q' () s₂) →
      wpAny (model g.prog g.w) c.A (letOwnedTupleGo tg (.ref I) w) Q' E' s₁) → Q (some w) s₁) → wpAny (model g.prog g.w) c.A (pyNext (.ref I)) Q E s
inductive LstIt (α : List Addr) (I : Addr) (own : List (Addr × Obj)) (gx : List GenState) (k i : Nat) : Prop
  | mk (h : gx = []) (l : Addr) (o : Obj) (h1 : own = [(I, o)]) (h2 : fromEnd α.length α k = some l) (h3 : o.cls = .type "list_iterator") (h4 : o.data = .fields #[.ref l, .int i 0])
inductive StrIt (I : Addr) (own : List (Addr × Obj)) (gx : List GenState) (cs : List Nat) : Prop
  | mk (h : gx = []) (o : Obj) (x : Str) (t : Tok) (i : Nat) (h1 : own = [(I, o)]) (h2 : o.cls = .type "str_ascii_iterator") (h3 : o.data = .fields #[.str x t, .int (i : Int) 0]) (h4 : x.cps.toList.drop i = cs)
inductive EnIt (α : List Addr) (I : Addr) (own : List (Addr × Obj)) (gx : List GenState) (k i : Nat) : Prop
  | mk (h : gx = []) (it l : Addr) (o : Obj) (old : Value) (h1 : own = [(I, { cls := .type "enumerate", dict := none, data := .fields #[.none, .bool false, .ref it, rawInt (i : Int), .none, old], slots := #[] }), (it, o)])
    (h2 : fromEnd α.length α k = some l) (h3 : o.cls = .type "list_iterator") (h4 : o.data = .fields #[.ref l, .int i 0])
inductive ZipIt (α : List Addr) (I : Addr) (own : List (Addr × Obj)) (gx : List GenState) (k1 k2 i : Nat) : Prop
  | mk (h : gx = []) (TI TO i1 i2 l1 l2 : Addr) (o1 o2 : Obj) (a b : Value) (h1 : own = [(I, { cls := .type "zip", dict := none, data := .fields #[.none, .bool false, .bool false, .ref TI, .ref TO], slots := #[] }),
      (TI, { cls := .type "tuple", data := .seq #[.ref i1, .ref i2] }), (TO, { cls := .type "tuple", data := .seq #[a, b] }), (i1, o1), (i2, o2)])
    (h2 : fromEnd α.length α k1 = some l1) (h3 : fromEnd α.length α k2 = some l2) (h4 : o1.cls = .type "list_iterator") (h5 : o1.data = .fields #[.ref l1, .int i 0]) (h6 : o2.cls = .type "list_iterator") (h7 : o2.data = .fields #[.ref l2, .int i 0])
inductive RevIt (α : List Addr) (I : Addr) (own : List (Addr × Obj)) (gx : List GenState) (k i : Nat) : Prop
  | mk (h : gx = []) (l : Addr) (o : Obj) (h1 : own = [(I, o)]) (h2 : fromEnd α.length α k = some l) (h3 : o.cls = .type "list_reverseiterator") (h4 : o.data = .fields #[.ref l, rawInt ((i : Int) - 1)])
noncomputable def ItOK {g : Gl} {Γ : Sta} (c : Cx g Γ) (G : List GenState) (I : Addr) (α : List Addr) (own : List (Addr × Obj)) (gx : List GenState) : It → Prop
  | .list k i => LstIt α I own gx k i
  | .rng x n d => gx = [] ∧ own = [(I, { cls := .type "range_iterator", dict := none, data := .fields #[rawInt x, rawInt n, rawInt d], slots := #[] })]
  | .str cs => StrIt I own gx cs
  | .enumL k i => EnIt α I own gx k i
  | .zip k1 k2 i => ZipIt α I own gx k1 k2 i
  | .rev k i => RevIt α I own gx k i
  | .feed xs => Feed c G I xs own gx
theorem ItOK.mono {c : Cx g Γ} {G : List GenState} {I : Addr} {α α' : List Addr} {own : List (Addr × Obj)} {gx : List GenState} (hs : α <:+ α') {x : It} (h : ItOK c G I α own gx x) : ItOK c G I α' own gx x := by
  cases x with
  | list k i => cases (show LstIt _ _ _ _ _ _ from h) with | mk h l o h1 h2 h3 h4 => exact LstIt.mk h l o h1 (fromEnd_mono hs h2) h3 h4
  | rng _ _ _ => exact h
  | str _ => exact h
  | enumL k i => cases (show EnIt _ _ _ _ _ _ from h) with | mk h it l o old h1 h2 h3 h4 => exact EnIt.mk h it l o old h1 (fromEnd_mono hs h2) h3 h4
  | zip k1 k2 i => cases (show ZipIt _ _ _ _ _ _ _ from h) with | mk h TI TO i1 i2 l1 l2 o1 o2 a b h1 h2 h3 h4 h5 h6 h7 => exact ZipIt.mk h TI TO i1 i2 l1 l2 o1 o2 a b h1 (fromEnd_mono hs h2) (fromEnd_mono hs h3) h4 h5 h6 h7
  | rev k i => cases (show RevIt _ _ _ _ _ _ from h) with | mk h l o h1 h2 h3 h4 => exact RevIt.mk h l o h1 (fromEnd_mono hs h2) h3 h4
  | feed _ => exact h
end Mine
end P12
section P13
open PySem PySem.W PyProof.Rows PySem.Calls PySem.Spec
namespace Mine
variable {g : Gl} {Γ : Sta} {lv : Nat}
theorem succ_sub (n : Nat) : ((n + 1 : Nat) : Int) - 1 = (n : Int) := by omega
theorem letGo_or (target : Expr) (I : Addr) (v : Value) : letOwnedTupleGo target (.ref I) v = pure () ∨ ∃ a, letOwnedTupleGo target (.ref I) v = letOwnedTupleGo (.Tuple [] 0 ⟨0, 0, 0, 0⟩) (.ref I) (.ref a) := by
  cases target with
  | Tuple elts x pos => cases v with
    | ref a => exact .inr ⟨a, rfl⟩
    | _ => exact .inl rfl
  | List elts pos => cases v with
    | ref a => exact .inr ⟨a, rfl⟩
    | _ => exact .inl rfl
  | _ => exact .inl rfl
theorem letGo_plain {prog : Program} {w : World} {A : Around} {s : Shared} {E : Value → Shared → Prop} {target : Expr} {I : Addr} {v : Value} {Q : Unit → Shared → Prop} {T : String} {vs : Array Value} {o : Obj} (ho : s.heap.get? I = some o) (hc : o.cls = .type T) (hd : o.data = .fields vs)
    (hT : (["enumerate", "zip", "dict_itemiterator", "dict_reverseitemiterator", "odict_iterator", "itertools.zip_longest", "itertools.pairwise"].contains T) = false) (h : Q () s) :
    wpAny (model prog w) A (letOwnedTupleGo target (.ref I) v) Q E s := by
  refine (letGo_or target I v).elim (fun e => e ▸ wpAny_pure h) fun e => e.elim fun a e => ?_
  rw [e]
  unfold letOwnedTupleGo
  refine wpAny_bind (wpAny_load ho ?_)
  rw [hc, hd]
  dsimp only
  rw [hT, Bool.false_and, if_neg Bool.false_ne_true]
  exact wpAny_pure h
noncomputable def NextTo {g : Gl} {Γ : Sta} (c : Cx g Γ) (G : List GenState) (I : Addr) (α : List Addr) (ext : List (Addr × Obj)) (st : PS) (s : Shared) (r : Option (Item × It)) (Q : Option Value → Shared → Prop) : Prop := match r with
  | .none => ∀ s', Rel c α ext G st s' → s'.os = s.os → Q .none s'
  | some (i, x') => ∀ w s₁, (∀ tg (Q' : Unit → Shared → Prop) (E' : Value → Shared → Prop), Good tg i → (∀ own' gx' s₂, ItOK c G I α own' gx' x' → Rel c α (own' ++ ext) (G ++ gx') st s₂ → s₂.os = s.os → ItemOK g.q α i w s₂.heap → Q' () s₂) →
      wpAny (model g.prog g.w) c.A (letOwnedTupleGo tg (.ref I) w) Q' E' s₁) → Q (some w) s₁
section
variable {c : Cx g Γ} {α : List Addr} {ext own : List (Addr × Obj)} {G gx : List GenState} {st : PS} {s : Shared} {I : Addr} {r : Option (Item × It)} {Q : Option Value → Shared → Prop} {E : Value → Shared → Prop}
theorem VsOK.at_some {q : Int} {α : List Addr} {vs : List MV} {ws : List Value} (h : VsOK q α vs ws) {i : Nat} {v : MV} (e : vs[i]? = some v) : ∃ w, ws.toArray[i]? = some w ∧ VOK q α v w := by
  exact (h.get e).elim fun w h => ⟨w, by rw [List.getElem?_toArray]; exact h.1, h.2⟩
theorem VsOK.at_none {q : Int} {α : List Addr} {vs : List MV} {ws : List Value} (h : VsOK q α vs ws) {i : Nat} (e : vs[i]? = .none) : ws.toArray[i]? = .none := by
  rw [List.getElem?_toArray]
  exact List.getElem?_eq_none_iff.mpr (h.length.symm ▸ List.getElem?_eq_none_iff.mp e)
theorem Rel.drop1 {o : Obj} (R : Rel c α ([(I, o)] ++ ext) (G ++ gx) st s) {h' : Heap} {tk : Nat} (he : Heap.ExtBut I s.heap h') (ht : 0 < tk) : Rel c α ext G st { s with heap := h', toks := tk } :=
  R.drop (fun b ob hb e => he b ob (hb (I, o) (List.mem_singleton.mpr rfl)) e) ht
set_option smartUnfolding false in
theorem next_list {k i : Nat} (hx : ItOK c G I α own gx (.list k i)) (R : Rel c α (own ++ ext) (G ++ gx) st s) (hf : nextI (.list k i) st.ss = some r) (hQ : NextTo c G I α ext st s r Q) : wpAny (model g.prog g.w) c.A (pyNext (.ref I)) Q E s := by
  obtain ⟨rfl, l, o, rfl, hl, hc, hd⟩ := hx
  have hI : s.heap.get? I = some o := R.get (p := (I, o)) (List.mem_singleton.mpr rfl)
  have hp : 0 < s.toks := R.pos
  refine eo (o := listAt st.ss k) hf fun vs e1 hf => (R.list hl e1).elim fun ws hL => ?_
  refine eoN (o := vs[i]?) hf (fun e2 hf => ?_) fun v e2 hf => ?_
  · have hQ : NextTo c G I α ext st s none Q := Option.some.inj hf ▸ hQ
    exact wpAny_pyNext_list_end c.hh ⟨o, hI, hc, hd⟩ hL.1 (hL.2.at_none e2) fun h' he => hQ _ (R.drop1 he hp) rfl
  · have hQ : NextTo c G I α ext st s (some (.one v, .list k (i + 1))) Q := Option.some.inj hf ▸ hQ
    refine (hL.2.at_some e2).elim fun w hw => wpAny_pyNext_list_item ⟨o, hI, hc, hd⟩ hL.1 hw.1 fun h' hit hs => hQ w _ fun tg Q' E' _ hQ' => ?_
    exact hit.elim fun o' h => letGo_plain h.1 h.2.1 h.2.2 (by decide) (hQ' [(I, o')] [] _ ⟨rfl, l, o', rfl, hl, h.2.1, h.2.2⟩ (R.own1 hs h.1 hp) rfl hw.2)
set_option smartUnfolding false in
theorem next_rng {x : Int} {n : Nat} {d : Int} (hx : ItOK c G I α own gx (.rng x n d)) (R : Rel c α (own ++ ext) (G ++ gx) st s) (hf : nextI (.rng x n d) st.ss = some r) (hQ : NextTo c G I α ext st s r Q) : wpAny (model g.prog g.w) c.A (pyNext (.ref I)) Q E s := by
  obtain ⟨rfl, rfl⟩ := hx
  have hI := R.get (p := (I, _)) (List.mem_singleton.mpr rfl)
  have hp : 0 < s.toks := R.pos
  cases n with
  | zero =>
    have hQ : NextTo c G I α ext st s none Q := Option.some.inj hf ▸ hQ
    exact wpAny_pyNext_range_end (x := x) (left := ((0 : Nat) : Int)) (step := d) c.hh hI (by decide) fun h' he => hQ _ (R.drop1 he hp) rfl
  | succ n =>
    have hQ : NextTo c G I α ext st s (some (.one (.int (.c x)), .rng (x + d) n d)) Q := Option.some.inj hf ▸ hQ
    refine wpAny_pyNext_range_item (x := x) (left := ((n + 1 : Nat) : Int)) (step := d) hI (Int.natCast_pos.mpr (Nat.succ_pos n)) fun h' hit hs => hQ _ _ fun tg Q' E' _ hQ' => ?_
    rw [show ((n + 1 : Nat) : Int) - 1 = (n : Int) from succ_sub _] at hit
    exact letGo_plain hit rfl rfl (by decide) (hQ' _ [] _ ⟨rfl, rfl⟩ (R.own1 hs hit (Nat.succ_pos _)) rfl rfl)
set_option smartUnfolding false in
theorem next_str {cs : List Nat} (hx : ItOK c G I α own gx (.str cs)) (R : Rel c α (own ++ ext) (G ++ gx) st s) (hf : nextI (.str cs) st.ss = some r) (hQ : NextTo c G I α ext st s r Q) : wpAny (model g.prog g.w) c.A (pyNext (.ref I)) Q E s := by
  obtain ⟨rfl, o, x, t, i, rfl, hc, hd, e1⟩ := hx
  have hI : s.heap.get? I = some o := R.get (p := (I, o)) (List.mem_singleton.mpr rfl)
  have hp : 0 < s.toks := R.pos
  cases cs with
  | nil =>
    have hQ : NextTo c G I α ext st s none Q := Option.some.inj hf ▸ hQ
    exact wpAny_pyNext_ascii_end c.hh ⟨o, hI, hc, hd⟩ (by rw [← Array.getElem?_toList]; exact List.getElem?_eq_none_iff.mpr (List.drop_eq_nil_iff.mp e1)) fun h' he => hQ _ (R.drop1 he hp) rfl
  | cons ch cs =>
    have hQ : NextTo c G I α ext st s (some (.one (.str [ch]), .str cs)) Q := Option.some.inj hf ▸ hQ
    have e2 : x.cps[i]? = some ch := by
      rw [← Array.getElem?_toList, ← Nat.add_zero i, ← List.getElem?_drop, e1]; rfl
    have e3 : x.cps.toList.drop (i + 1) = cs := by
      rw [← List.drop_drop, e1]; rfl
    refine wpAny_pyNext_ascii_item ⟨o, hI, hc, hd⟩ e2 fun h' hit hs => hQ _ _ fun tg Q' E' _ hQ' => ?_
    exact hit.elim fun o' h => letGo_plain h.1 h.2.1 h.2.2 (by decide) (hQ' [(I, o')] [] _ ⟨rfl, o', x, t, i + 1, rfl, h.2.1, h.2.2, e3⟩ (R.own1 hs h.1 (Nat.succ_pos _)) rfl rfl)
set_option smartUnfolding false in
theorem next_rev {k i : Nat} (hx : ItOK c G I α own gx (.rev k i)) (R : Rel c α (own ++ ext) (G ++ gx) st s) (hf : nextI (.rev k i) st.ss = some r) (hQ : NextTo c G I α ext st s r Q) : wpAny (model g.prog g.w) c.A (pyNext (.ref I)) Q E s := by
  obtain ⟨rfl, l, o, rfl, hl, hc, hd⟩ := hx
  have hI : s.heap.get? I = some o := R.get (p := (I, o)) (List.mem_singleton.mpr rfl)
  have hp : 0 < s.toks := R.pos
  cases i with
  | zero =>
    have hQ : NextTo c G I α ext st s none Q := Option.some.inj hf ▸ hQ
    exact wpAny_pyNext_rev_end c.hh ⟨o, hI, hc, hd⟩ fun h' he => hQ _ (R.drop1 he hp) rfl
  | succ i =>
    refine eo (o := listAt st.ss k) hf fun vs e1 hf => (R.list hl e1).elim fun ws hL => ?_
    refine eo (o := vs[i]?) hf fun v e2 hf => (hL.2.at_some e2).elim fun w hw => ?_
    have hQ : NextTo c G I α ext st s (some (.one v, .rev k i)) Q := Option.some.inj hf ▸ hQ
    rw [show ((i + 1 : Nat) : Int) - 1 = (i : Int) from succ_sub _] at hd
    refine wpAny_pyNext_rev_item ⟨o, hI, hc, hd⟩ hL.1 hw.1 fun h' hit hs => hQ w _ fun tg Q' E' _ hQ' => ?_
    exact hit.elim fun o' h => letGo_plain h.1 h.2.1 h.2.2 (by decide) (hQ' [(I, o')] [] _ ⟨rfl, l, o', rfl, hl, h.2.1, h.2.2⟩ (R.own1 hs h.1 hp) rfl hw.2)
set_option smartUnfolding false in
theorem next_enumL {k i : Nat} (hx : ItOK c G I α own gx (.enumL k i)) (R : Rel c α (own ++ ext) (G ++ gx) st s) (hf : nextI (.enumL k i) st.ss = some r) (hQ : NextTo c G I α ext st s r Q) : wpAny (model g.prog g.w) c.A (pyNext (.ref I)) Q E s := by
  obtain ⟨rfl, it, l, o, old, rfl, hl, hc, hd⟩ := hx
  have m2 : ∀ {x y : Addr × Obj}, y ∈ [x, y] := List.mem_cons_of_mem _ List.mem_cons_self
  have hI := R.get (p := (I, _)) (List.mem_cons_self)
  have hi : s.heap.get? it = some o := R.get (p := (it, o)) m2
  have hp : 0 < s.toks := R.pos
  have nd := R.ndOwn
  have hne : I ≠ it := fun q => (List.nodup_cons.mp nd).1 (q ▸ List.mem_cons_self)
  refine eo (o := listAt st.ss k) hf fun vs e1 hf => (R.list hl e1).elim fun ws hL => ?_
  refine eoN (o := vs[i]?) hf (fun e2 hf => ?_) fun v e2 hf => ?_
  · have hQ : NextTo c G I α ext st s none Q := Option.some.inj hf ▸ hQ
    exact wpAny_pyNext_enum_end c.hh hI ⟨o, hi, hc, hd⟩ hL.1 (hL.2.at_none e2) fun h' he => hQ _ (R.drop (fun b ob hb e => he b ob (hb (it, o) m2) e) hp) rfl
  · have hQ : NextTo c G I α ext st s (some (.two (.int (.c (i : Int))) v, .enumL k (i + 1))) Q := Option.some.inj hf ▸ hQ
    refine (hL.2.at_some e2).elim fun w hw => ?_
    refine wpAny_pyNext_enum_item hI ⟨o, hi, hc, hd⟩ hL.1 hw.1 hne fun h' heo hit ht hz hk => hQ _ _ fun tg Q' E' hg hQ' => ?_
    refine hg.elim fun elts hg => hg.elim fun x1 hg => hg.elim fun pos hg => ?_
    subst hg
    refine wpAny_letOwnedTupleGo_enum heo fun h₂ he₂ hs₂ => ?_
    replace hs₂ : Heap.SameBut I h' h₂ := hs₂
    refine hit.elim fun o' h => ?_
    have hne' : s.heap.objs.size ≠ I := Nat.ne_of_gt (Heap.lt_size hI)
    have ho₂ : h₂.get? it = some o' := (hs₂.2 it (Ne.symm hne)).trans h.1
    refine hQ' [(I, _), (it, o')] [] _ ⟨rfl, it, l, o', w, rfl, hl, h.2.1, h.2.2⟩ ?_ rfl ⟨_, _, w, rfl, ⟨_, (hs₂.2 _ hne').trans ht, rfl, _, rfl⟩, rfl, hw.2⟩
    exact R.priv (fun b ob hb e => (hs₂.2 b (hb (I, _) List.mem_cons_self)).trans (hk b ob (hb (I, _) List.mem_cons_self) (hb (it, o) m2) e))
      (fun p hp => (List.mem_cons.mp hp).elim (fun e => e ▸ ⟨he₂, .inl ⟨_, List.mem_cons_self, rfl⟩⟩) fun hp => List.mem_singleton.mp hp ▸ ⟨ho₂, .inl ⟨(it, o), m2, rfl⟩⟩) nd (Nat.succ_pos _)
end
end Mine
end P13
section P14
open PySem PySem.W PyProof.Rows PySem.Calls PySem.Spec
namespace Mine
variable {g : Gl} {Γ : Sta} {lv : Nat}
section
variable {c : Cx g Γ} {α : List Addr} {ext own : List (Addr × Obj)} {G gx : List GenState} {st : PS} {s : Shared} {I : Addr} {r : Option (Item × It)} {Q : Option Value → Shared → Prop} {E : Value → Shared → Prop}
theorem nd5 {a b c d e : Addr} (h : [a, b, c, d, e].Nodup) : (a ≠ b ∧ a ≠ c ∧ a ≠ d ∧ a ≠ e) ∧ (b ≠ c ∧ b ≠ d ∧ b ≠ e) ∧ (c ≠ d ∧ c ≠ e) ∧ d ≠ e := by
  have h1 := List.nodup_cons.mp h
  have h2 := List.nodup_cons.mp h1.2
  have h3 := List.nodup_cons.mp h2.2
  have h4 := List.nodup_cons.mp h3.2
  exact ⟨⟨fun q => h1.1 (q ▸ .head _), fun q => h1.1 (q ▸ .tail _ (.head _)), fun q => h1.1 (q ▸ .tail _ (.tail _ (.head _))), fun q => h1.1 (q ▸ .tail _ (.tail _ (.tail _ (.head _))))⟩,
    ⟨fun q => h2.1 (q ▸ .head _), fun q => h2.1 (q ▸ .tail _ (.head _)), fun q => h2.1 (q ▸ .tail _ (.tail _ (.head _)))⟩, ⟨fun q => h3.1 (q ▸ .head _), fun q => h3.1 (q ▸ .tail _ (.head _))⟩, fun q => h4.1 (q ▸ .head _)⟩
theorem all5 {p : Addr × Obj → Prop} {a b c d e : Addr × Obj} (h1 : p a) (h2 : p b) (h3 : p c) (h4 : p d) (h5 : p e) : ∀ x ∈ [a, b, c, d, e], p x :=
  List.forall_mem_cons.mpr ⟨h1, List.forall_mem_cons.mpr ⟨h2, List.forall_mem_cons.mpr ⟨h3, List.forall_mem_cons.mpr ⟨h4, List.forall_mem_cons.mpr ⟨h5, fun _ h => nomatch h⟩⟩⟩⟩⟩
set_option smartUnfolding false in
theorem next_zip {k1 k2 i : Nat} (hx : ItOK c G I α own gx (.zip k1 k2 i)) (R : Rel c α (own ++ ext) (G ++ gx) st s) (hf : nextI (.zip k1 k2 i) st.ss = some r) (hQ : NextTo c G I α ext st s r Q) : wpAny (model g.prog g.w) c.A (pyNext (.ref I)) Q E s := by
  obtain ⟨rfl, TI, TO, i1, i2, l1, l2, o1, o2, a, b, rfl, hl1, hl2, hc1, hd1, hc2, hd2⟩ := hx
  have q4 : ∀ {a b c d e : Addr × Obj}, d ∈ [a, b, c, d, e] := .tail _ (.tail _ (.tail _ (.head _)))
  have q5 : ∀ {a b c d e : Addr × Obj}, e ∈ [a, b, c, d, e] := .tail _ (.tail _ (.tail _ (.tail _ (.head _))))
  have hI := R.get (p := (I, _)) (.head _)
  have hTI := R.get (p := (TI, _)) (.tail _ (.head _))
  have hTO := R.get (p := (TO, _)) (.tail _ (.tail _ (.head _)))
  have hi1 : s.heap.get? i1 = some o1 := R.get (p := (i1, o1)) q4
  have hi2 : s.heap.get? i2 = some o2 := R.get (p := (i2, o2)) q5
  have hp : 0 < s.toks := R.pos
  have nd := R.ndOwn
  have n := nd5 nd
  have m1 := R.ne hl1
  have m2 := R.ne hl2
  have D : ZipApart I TI TO i1 i2 l1 l2 := ⟨Ne.symm n.1.1, Ne.symm n.1.2.1, Ne.symm n.1.2.2.1, Ne.symm n.1.2.2.2, n.2.1.1, n.2.1.2.1, n.2.1.2.2, n.2.2.1.1, n.2.2.1.2, n.2.2.2,
    m1 _ (.head _), m1 _ (.tail _ (.tail _ (.head _))), m1 _ q4, m1 _ q5, m2 _ (.head _), m2 _ (.tail _ (.tail _ (.head _))), m2 _ q4, m2 _ q5⟩
  have hend : ∀ h' : Heap, (∀ c o, c ≠ I → c ≠ TO → c ≠ i1 → c ≠ i2 → s.heap.get? c = some o → h'.get? c = some o) → Rel c α ext G st { s with heap := h' } := fun h' hk =>
    R.drop (tk := s.toks) (fun b ob hb e => hk b ob (hb (I, _) (.head _)) (hb (TO, _) (.tail _ (.tail _ (.head _)))) (hb (i1, o1) q4) (hb (i2, o2) q5) e) hp
  refine eo (o := listAt st.ss k1) hf fun vs e1 hf => (R.list hl1 e1).elim fun ws hL => ?_
  refine eo (o := listAt st.ss k2) hf fun us e2 hf => (R.list hl2 e2).elim fun zs hM => ?_
  refine eoN (o := vs[i]?) hf (fun e3 hf => ?_) fun v e3 hf => ?_
  · have hQ : NextTo c G I α ext st s none Q := Option.some.inj hf ▸ hQ
    exact wpAny_pyNext_zip_end c.hh D hI hTI hTO ⟨o1, hi1, hc1, hd1⟩ ⟨o2, hi2, hc2, hd2⟩ hL.1 hM.1 (.inl (hL.2.at_none e3)) fun h' hk => hQ _ (hend h' hk) rfl
  refine eoN (o := us[i]?) hf (fun e4 hf => ?_) fun u e4 hf => ?_
  · have hQ : NextTo c G I α ext st s none Q := Option.some.inj hf ▸ hQ
    exact wpAny_pyNext_zip_end c.hh D hI hTI hTO ⟨o1, hi1, hc1, hd1⟩ ⟨o2, hi2, hc2, hd2⟩ hL.1 hM.1 (.inr (hM.2.at_none e4)) fun h' hk => hQ _ (hend h' hk) rfl
  have hQ : NextTo c G I α ext st s (some (.two v u, .zip k1 k2 (i + 1))) Q := Option.some.inj hf ▸ hQ
  refine (hL.2.at_some e3).elim fun x hx => (hM.2.at_some e4).elim fun y hy => ?_
  refine wpAny_pyNext_zip_item D hI hTI hTO ⟨o1, hi1, hc1, hd1⟩ ⟨o2, hi2, hc2, hd2⟩ hL.1 hM.1 hx.1 hy.1 fun h' hz hTO' hit1 hit2 ht hsz hk => hQ _ _ fun tg Q' E' hg hQ' => ?_
  refine hg.elim fun elts hg => hg.elim fun x1 hg => hg.elim fun pos hg => ?_
  subst hg
  refine wpAny_letOwnedTupleGo_zip hz fun h₂ hz₂ hs₂ => ?_
  replace hs₂ : Heap.SameBut I h' h₂ := hs₂
  refine hit1.elim fun o1' j1 => hit2.elim fun o2' j2 => ?_
  have hne' : s.heap.objs.size ≠ I := Nat.ne_of_gt (Heap.lt_size hI)
  have hTI' : h'.get? TI = _ := hk TI _ (Ne.symm n.1.1) n.2.1.1 n.2.1.2.1 n.2.1.2.2 hTI
  refine hQ' [(I, _), (TI, _), (TO, _), (i1, o1'), (i2, o2')] [] _ ⟨rfl, TI, TO, i1, i2, l1, l2, o1', o2', x, y, rfl, hl1, hl2, j1.2.1, j1.2.2, j2.2.1, j2.2.2⟩ ?_ rfl ⟨_, x, y, rfl, ⟨_, (hs₂.2 _ hne').trans ht, rfl, _, rfl⟩, hx.2, hy.2⟩
  refine R.priv (fun b ob hb e => ?_) (all5 ?_ ?_ ?_ ?_ ?_) nd hp
  · have h1 : b ≠ I := hb (I, _) (.head _)
    exact (hs₂.2 b h1).trans (hk b ob h1 (hb (TO, _) (.tail _ (.tail _ (.head _)))) (hb (i1, o1) q4) (hb (i2, o2) q5) e)
  · exact ⟨hz₂, .inl ⟨_, .head _, rfl⟩⟩
  · exact ⟨(hs₂.2 _ (Ne.symm n.1.1)).trans hTI', .inl ⟨_, .tail _ (.head _), rfl⟩⟩
  · exact ⟨(hs₂.2 _ (Ne.symm n.1.2.1)).trans hTO', .inl ⟨_, .tail _ (.tail _ (.head _)), rfl⟩⟩
  · exact ⟨(hs₂.2 _ (Ne.symm n.1.2.2.1)).trans j1.1, .inl ⟨(i1, o1), q4, rfl⟩⟩
  · exact ⟨(hs₂.2 _ (Ne.symm n.1.2.2.2)).trans j2.1, .inl ⟨(i2, o2), q5, rfl⟩⟩
theorem next_feed {xs : List Item} (hx : ItOK c G I α own gx (.feed xs)) (R : Rel c α (own ++ ext) (G ++ gx) st s) (hf : nextI (.feed xs) st.ss = some r) (hQ : NextTo c G I α ext st s r Q) : wpAny (model g.prog g.w) c.A (pyNext (.ref I)) Q E s := by
  cases xs with
  | nil => exact hx α ext st s Q E R (show NextTo c G I α ext st s none Q from Option.some.inj hf ▸ hQ)
  | cons x xs => exact hx α ext st s Q E R (show NextTo c G I α ext st s (some (x, .feed xs)) Q from Option.some.inj hf ▸ hQ)
theorem next_ok {x : It} (hx : ItOK c G I α own gx x) (R : Rel c α (own ++ ext) (G ++ gx) st s) (hf : nextI x st.ss = some r) (hQ : NextTo c G I α ext st s r Q) : wpAny (model g.prog g.w) c.A (pyNext (.ref I)) Q E s := by
  cases x with
  | list => exact next_list hx R hf hQ
  | rng => exact next_rng hx R hf hQ
  | str => exact next_str hx R hf hQ
  | enumL => exact next_enumL hx R hf hQ
  | zip => exact next_zip hx R hf hQ
  | rev => exact next_rev hx R hf hQ
  | feed => exact next_feed hx R hf hQ
end
/-! targets -/
noncomputable def TgtOK (g : Gl) (Γ : Sta) (target : Expr) (tF : Item → PS → Option PS) : Prop :=
  (∀ it st st', tF it st = some st' → Good target it) ∧
  ∀ (c : Cx g Γ) α ext G st st' s it w (Q : Unit → Shared → Prop) E, tF it st = some st' → Rel c α ext G st s → ItemOK g.q α it w s.heap → (∀ s', Rel c α ext G st' s' → s'.os = s.os → Q () s') →
    wpAny (model g.prog g.w) c.A (assign target c.env w) Q E s
noncomputable def t1F (i : Nat) : Item → PS → Option PS
  | .one v, st => some { st with loc := st.loc.set i (some v) }
  | _, _ => .none
theorem TgtOK.name {x : Str} {p : Pos} {i : Nat} (hn : Γ.names[i]? = some x) (hnd : Γ.names.Nodup) (hk : Γ.scope.names.lookup x = some .local) : TgtOK g Γ (.Name x p) (t1F i) := by
  refine ⟨fun it st st' h => ?_, fun c α ext G st st' s it w Q E hf R hi hQ => ?_⟩
  · cases it with
    | one => trivial
    | two => exact nn h
  · cases it with
    | one v => exact wpAny_assign_Name (R.store hn hnd hk hi (Option.some.inj hf ▸ hQ))
    | two => exact nn hf
noncomputable def t1CF (i : Nat) : Item → PS → Option PS
  | .one v, st => setCel st i v
  | _, _ => .none
theorem TgtOK.cell {x : Str} {p : Pos} {i : Nat} (hn : Γ.cnames[i]? = some x) (hk : Γ.scope.names.lookup x = some .cell) : TgtOK g Γ (.Name x p) (t1CF i) := by
  refine ⟨fun it st st' h => ?_, fun c α ext G st st' s it w Q E hf R hi hQ => ?_⟩
  · cases it with
    | one => trivial
    | two => exact nn h
  · cases it with
    | one v => exact wpAny_assign_Name (R.setCel hn hk hf hi hQ)
    | two => exact nn hf
noncomputable def t2F (i j : Nat) : Item → PS → Option PS
  | .two a b, st => some { st with loc := (st.loc.set i (some a)).set j (some b) }
  | _, _ => .none
theorem Rel.grown {c : Cx g Γ} {α : List Addr} {ext : List (Addr × Obj)} {G : List GenState} {st : PS} {s : Shared} (R : Rel c α ext G st s) {h' : Heap} {tk : Nat} (he : Heap.ExtBut s.heap.objs.size s.heap h') (ht : 0 < tk) : Rel c α ext G st { s with heap := h', toks := tk } :=
  let ⟨_, _, _, R⟩ := R; Rel.step R (R.F.extBut he (Nat.le_refl _)) (R.N.extBut he (Nat.le_refl _)) ht
theorem TgtOK.pair {x y : Str} {p1 p2 p : Pos} {k} {i j : Nat} (hn : Γ.names[i]? = some x) (hn' : Γ.names[j]? = some y) (hnd : Γ.names.Nodup) (hk : Γ.scope.names.lookup x = some .local) (hk' : Γ.scope.names.lookup y = some .local) :
    TgtOK g Γ (.Tuple [.Name x p1, .Name y p2] k p) (t2F i j) := by
  refine ⟨fun it st st' h => ?_, fun c α ext G st st' s it w Q E hf R hi hQ => ?_⟩
  · cases it with
    | one => trivial
    | two => exact ⟨_, _, _, rfl⟩
  · cases it with
    | one => exact nn hf
    | two a b =>
      replace hQ : ∀ s', Rel c α ext G { st with loc := (st.loc.set i (some a)).set j (some b) } s' → s'.os = s.os → Q () s' := Option.some.inj hf ▸ hQ
      obtain ⟨T, wa, wb, rfl, hT, ha, hb⟩ := hi
      refine wpAny_assign_Tuple c.hh hT rfl rfl fun h' he => ?_
      have R1 := R.grown he R.pos
      refine wpAny_assignInOrder_more (wpAny_assign_Name (R1.store hn hnd hk ha fun s2 R2 ho2 => ?_))
      refine wpAny_assignInOrder_more (wpAny_assign_Name (R2.store hn' hnd hk' hb fun s3 R3 ho3 => ?_))
      exact wpAny_assignInOrder_none (hQ s3 R3 (ho3.trans ho2))
/-! the loop -/
noncomputable def loopF (tg : Item → PS → Option PS) (b o : PS → Option (FL × PS)) : Nat → It → PS → Option (FL × PS)
  | 0, _, _ => .none
  | n + 1, x, st => match nextI x st.ss with
    | .none => .none
    | some .none => o st
    | some (some (i, x')) => match tg i st with
      | .none => .none
      | some st1 => match b st1 with
        | .none => .none
        | some (r, st2) => match r with
          | .next => loopF tg b o n x' st2
          | .cont => loopF tg b o n x' st2
          | .brk => some (.next, st2)
          | .ret v => some (.ret v, st2)
noncomputable def IterOK (g : Gl) (Γ : Sta) (lv : Nat) (x : Expr) (f : PS → Option (It × PS)) : Prop :=
  ∀ (c : Cx g Γ), lv ≤ c.lvl → ∀ α ext G st it st' s (Q E : Value → Shared → Prop), f st = some (it, st') → Rel c α ext G st s →
    (∀ I own gx, After c α (own ++ ext) (G ++ gx) s st' fun α' s' => ItOK c G I α' own gx it → Q (.ref I) s') →
    wpAny (model g.prog g.w) c.A (eval x c.env) (fun xv s₁ => wpAny (model g.prog g.w) c.A (pyIter xv) Q E s₁) E s
noncomputable def forF (fuel : Nat) (it : PS → Option (It × PS)) (tg : Item → PS → Option PS) (b o : PS → Option (FL × PS)) : PS → Option (FL × PS) := fun st => match it st with
  | .none => .none
  | some (x, st1) => loopF tg b o fuel x st1
inductive LoopAt {g : Gl} {Γ : Sta} (c : Cx g Γ) (I : Addr) (α₀ : List Addr) (ext : List (Addr × Obj)) (G : List GenState) (tg : Item → PS → Option PS) (b o : PS → Option (FL × PS)) (os : OsState) (v : FL) (st' : PS) (n : Nat) (s : Shared) : Prop
  | mk (x : It) (α : List Addr) (own : List (Addr × Obj)) (gx : List GenState) (st : PS) (hf : loopF tg b o n x st = some (v, st')) (hx : ItOK c G I α own gx x) (R : Rel c α (own ++ ext) (G ++ gx) st s) (hs : α₀ <:+ α) (ho : s.os = os)
theorem loopF_el {tg : Item → PS → Option PS} {b o : PS → Option (FL × PS)} {n : Nat} {x : It} {st st' : PS} {v : FL} {P : Prop} (hf : loopF tg b o (n + 1) x st = some (v, st')) (k0 : nextI x st.ss = some none → o st = some (v, st') → P)
    (k1 : ∀ i x' st1 r st2, nextI x st.ss = some (some (i, x')) → tg i st = some st1 → b st1 = some (r, st2) → (match r with | .next => loopF tg b o n x' st2 | .cont => loopF tg b o n x' st2 | .brk => some (.next, st2) | .ret v => some (.ret v, st2)) = some (v, st') → P) : P := by
  rw [loopF.eq_2] at hf
  cases e : nextI x st.ss with
  | none => rw [e] at hf; exact nn hf
  | some y =>
    rw [e] at hf
    cases y with
    | none => exact k0 e hf
    | some y =>
      dsimp only at hf
      cases e1 : tg y.1 st with
      | none => rw [e1] at hf; exact nn hf
      | some st1 =>
        rw [e1] at hf
        dsimp only at hf
        cases e2 : b st1 with
        | none => rw [e2] at hf; exact nn hf
        | some z => rw [e2] at hf; exact k1 y.1 y.2 st1 z.1 z.2 e e1 e2 hf
theorem loop_ok {c : Cx g Γ} (hl : lv ≤ c.lvl) {target : Expr} {body orelse : List Stmt} {tg : Item → PS → Option PS} {b o : PS → Option (FL × PS)} (ht : TgtOK g Γ target tg) (hb : ExsOK g Γ lv body b) (ho : ExsOK g Γ lv orelse o)
    {I : Addr} {R : Result → Shared → Prop} {s₀ : Shared} {α₀ : List Addr} {ext : List (Addr × Obj)} {G : List GenState} {v : FL} {st' : PS}
    (hR : ∀ w α' s', α₀ <:+ α' → Rel c α' ext G st' s' → s'.os = s₀.os → FOK g.q α' v w → R (.ok w) s')
    {n : Nat} {s : Shared} (hI : LoopAt c I α₀ ext G tg b o s₀.os v st' n s) : codeAny (model g.prog g.w) c.A (.forLoop target (.ref I) body orelse c.env) R s := by
  refine codeAny_forLoop_any (LoopAt c I α₀ ext G tg b o s₀.os v st') (fun n s hI => ?_) n hI
  cases hI with | mk x α own gx st hf hx R1 hs ho1 =>
  cases n with
  | zero => exact nn hf
  | succ n =>
    refine loopF_el hf (fun e1 hf => ?_) fun i x' st1 r st2 e1 e2 e3 hf => ?_
    · refine next_ok hx R1 e1 fun s' R2 ho2 => ?_
      exact ho c hl α ext G st v st' s' _ _ hf R2 fun w α2 s2 hs2 R3 ho3 vv => hR w α2 s2 (hs.trans hs2) R3 (ho3.trans (ho2.trans ho1)) vv
    · refine next_ok hx R1 e1 fun w s₁ hgo => ?_
      refine hgo _ _ _ (ht.1 _ _ _ e2) fun own' gx' s2 hx' R2 ho2 hi => ?_
      refine ht.2 c α _ _ st st1 s2 i w _ _ e2 R2 hi fun s3 R3 ho3 => ?_
      refine hb c hl α _ _ st1 r st2 s3 _ _ e3 R3 fun fw α4 s4 hs4 R4 ho4 vv => ?_
      have hos : s4.os = s₀.os := ho4.trans (ho3.trans (ho2.trans ho1))
      cases r with
      | next => cases fw <;> first | exact False.elim vv | exact ⟨n, Nat.lt_succ_self n, ⟨x', α4, own', gx', st2, hf, hx'.mono hs4, R4, hs.trans hs4, hos⟩⟩
      | cont => cases fw <;> first | exact False.elim vv | exact ⟨n, Nat.lt_succ_self n, ⟨x', α4, own', gx', st2, hf, hx'.mono hs4, R4, hs.trans hs4, hos⟩⟩
      | brk => cases fw <;> first | exact False.elim vv | exact som2 (P := fun v st' => ∀ w α' s', α₀ <:+ α' → Rel c α' ext G st' s' → s'.os = s₀.os → FOK g.q α' v w → R (.ok w) s') hf hR .next α4 s4 (hs.trans hs4) (R4.drop (fun _ _ _ e => e) R4.pos) hos trivial
      | ret v => cases fw <;> first | exact False.elim vv | exact som2 (P := fun v st' => ∀ w α' s', α₀ <:+ α' → Rel c α' ext G st' s' → s'.os = s₀.os → FOK g.q α' v w → R (.ok w) s') hf hR (.ret _) α4 s4 (hs.trans hs4) (R4.drop (fun _ _ _ e => e) R4.pos) hos vv
set_option smartUnfolding false in
theorem ExOK.for {target iter : Expr} {body orelse : List Stmt} {pos : Pos} {it : PS → Option (It × PS)} {tg : Item → PS → Option PS} {b o : PS → Option (FL × PS)} (fuel : Nat) (hi : IterOK g Γ lv iter it) (ht : TgtOK g Γ target tg) (hb : ExsOK g Γ lv body b) (ho : ExsOK g Γ lv orelse o)
    (hs : ∀ env x, foldedSetIterable iter env x = pure x) : ExOK g Γ lv (.For target iter body orelse pos) (forF fuel it tg b o) := by
  intro c hl α ext G st v st' s Q E hf hR hQ
  unfold forF at hf
  refine eop hf fun x st1 e1 hf => ?_
  refine wpAny_For (hi c hl α ext G st x st1 s _ E e1 hR fun I own gx α1 s1 hs1 R1 ho1 hx => ?_) (hs c.env)
  exact loop_ok hl ht hb ho (s₀ := s) (α₀ := α) (ext := ext) (G := G) (v := v) (st' := st') (fun w α' s' hs' R' ho' vv => hQ w α' s' hs' R' ho' vv) ⟨x, α1, own, gx, st1, hf, hx, R1, hs1, ho1⟩
noncomputable def failF : PS → Option (FL × PS) := fun _ => .none
theorem ExsOK.fail {xs : List Stmt} : ExsOK g Γ lv xs failF := fun _ _ _ _ _ _ _ _ _ _ _ hf => nomatch hf
end Mine
end P14
section P15
open PySem PySem.W PyProof.Rows PySem.Calls PySem.Spec
namespace Mine
variable {g : Gl} {Γ : Sta} {lv : Nat}
noncomputable def asciiB (cs : List Nat) : Bool := cs.all fun x => Nat.blt x 128
theorem asciiB_all {cs : List Nat} (h : asciiB cs = true) : (cs.toArray.all (· < 128)) = true := by
  unfold asciiB at h
  rw [List.all_eq_true] at h
  rw [List.all_toArray, List.all_eq_true]
  intro x hx
  have := h x hx
  exact decide_eq_true (Z.blt_iff.mp this)
noncomputable def iterV : MV → SS → Option It
  | .ref k, ss => match fromEnd ss.n ss.sto k with
    | some (.list _) => some (.list k 0)
    | some (.range a b d) => match Builtin.Range.small a b d with
      | true => match Builtin.Range.rangeSize a b d with
        | .ofNat n => some (.rng a n d)
        | .negSucc _ => .none
      | false => .none
    | _ => .none
  | .str cs, _ => match asciiB cs with
    | true => some (.str cs)
    | false => .none
  | _, _ => .none
section
variable {c : Cx g Γ} {α : List Addr} {ext : List (Addr × Obj)} {G : List GenState} {st : PS} {s : Shared}
theorem Rel.fresh1 (R : Rel c α ext G st s) (o : Obj) (hf : o.isFreed = false := by rfl) : Rel c α ([(s.heap.objs.size, o)] ++ ext) G st { s with heap := s.heap.push o } :=
  Rel.priv (own := []) (tk := s.toks) R (fun b ob _ e => Heap.get?_push_of_some _ e) (fun p hp => by
    rw [List.mem_singleton.mp hp]
    exact ⟨Heap.get?_push_size _ hf, .inr (Nat.le_refl _)⟩) (by simp) R.pos
theorem Rel.app (R : Rel c α ext G st s) : Rel c α ext (G ++ []) st s := by rw [List.append_nil]; exact R
set_option smartUnfolding false in
theorem iterV_ok {v : MV} {w : Value} {it : It} {Q E : Value → Shared → Prop} (hf : iterV v st.ss = some it) (hv : VOK g.q α v w) (R : Rel c α ext G st s)
    (hQ : ∀ I own gx, After c α (own ++ ext) (G ++ gx) s st fun α' s' => ItOK c G I α' own gx it → Q (.ref I) s') : wpAny (model g.prog g.w) c.A (pyIter w) Q E s := by
  have fin : ∀ it', some it' = some it → ∀ I own gx, After c α (own ++ ext) (G ++ gx) s st fun α' s' => ItOK c G I α' own gx it' → Q (.ref I) s' := fun it' e => Option.some.inj e ▸ hQ
  cases v with
  | ref k =>
    cases R with | mk m led bl R' =>
    have R : Rel c α ext G st s := ⟨m, led, bl, R'⟩
    unfold iterV at hf
    dsimp only at hf
    cases e : fromEnd st.ss.n st.ss.sto k with
    | none => rw [e] at hf; exact nn hf
    | some mo =>
    rw [e] at hf
    cases mo with
    | list vs =>
      refine R'.objEl (P := fun w => VOK g.q α (.ref k) w → wpAny (model g.prog g.w) c.A (pyIter w) Q E s) hv e (fun a o i g1 ho _ _ hv => ?_) hv
      cases (show LstOK _ _ _ _ from ho) with | mk ws n eo h1 =>
      subst eo
      exact wpAny_pyIter_list (isList_of g1) (fin _ hf _ _ [] α _ (List.suffix_refl _) (R.fresh1 _).app rfl ⟨rfl, a, _, rfl, hv, rfl, rfl⟩)
    | range a b d =>
      refine eb (b := Builtin.Range.small a b d) hf fun hsm hf => ?_
      cases e2 : Builtin.Range.rangeSize a b d with
      | ofNat n =>
        have hf : (match Builtin.Range.rangeSize a b d with | .ofNat n => some (.rng a n d) | .negSucc _ => none) = some it := hf
        rw [e2] at hf
        refine R'.objEl (P := fun w => wpAny (model g.prog g.w) c.A (pyIter w) Q E s) hv e fun ad o i g1 ho _ _ => ?_
        cases (show RngOK _ _ _ _ from ho) with | mk t u v eo =>
        subst eo
        refine wpAny_pyIter_range g1 hsm ?_
        rw [e2]
        exact fin _ hf _ _ [] α _ (List.suffix_refl _) (R.fresh1 _).app rfl ⟨rfl, rfl⟩
      | negSucc n =>
        have hf : (match Builtin.Range.rangeSize a b d with | .ofNat n => some (.rng a n d) | .negSucc _ => none) = some it := hf
        rw [e2] at hf; exact nn hf
    | _ => exact nn hf
  | str cs =>
    refine eb (b := asciiB cs) hf fun e hf => hv.str_el (P := fun w => wpAny (model g.prog g.w) c.A (pyIter w) Q E s) fun t => ?_
    exact wpAny_pyIter_ascii (asciiB_all e) (fin _ hf _ _ [] α _ (List.suffix_refl _) (R.fresh1 _).app rfl ⟨rfl, _, _, _, 0, rfl, rfl, rfl, List.drop_zero⟩)
  | _ => exact nn hf
end
noncomputable def iterF (f : PS → Option (MV × PS)) : PS → Option (It × PS) := fun st => match f st with
  | .none => .none
  | some (v, st1) => match iterV v st1.ss with
    | .none => .none
    | some it => some (it, st1)
set_option smartUnfolding false in
theorem IterOK.val {x : Expr} {f : PS → Option (MV × PS)} (h : EvOK g Γ lv x f) : IterOK g Γ lv x (iterF f) := by
  intro c hl α ext G st it st' s Q E hf R hQ
  unfold iterF at hf
  refine eop hf fun v st1 e1 hf => ?_
  refine eo hf fun it' e2 hf => ?_
  replace hQ := som2 (P := fun it st' => ∀ I own gx, After c α (own ++ ext) (G ++ gx) s st' fun α' s' => ItOK c G I α' own gx it → Q (.ref I) s') hf hQ
  refine h c hl α ext G st v _ s _ E e1 R fun w α1 s1 hs1 R1 ho1 hv => ?_
  exact iterV_ok e2 hv R1 fun I own gx α2 s2 hs2 R2 ho2 hx => hQ I own gx α2 s2 (hs1.trans hs2) R2 (ho2.trans ho1) hx
/-! enumerate, zip, reversed -/
noncomputable def ItNOK (g : Gl) (lv : Nat) (t : List Value → Sem Value) (F : List MV → SS → Option It) : Prop :=
  ∀ (Γ : Sta) (c : Cx g Γ), lv ≤ c.lvl → ∀ α ext G st vs ws it s (Q E : Value → Shared → Prop), F vs st.ss = some it → VsOK g.q α vs ws → Rel c α ext G st s →
    (∀ I own gx, After c α (own ++ ext) (G ++ gx) s st fun α' s' => ItOK c G I α' own gx it → Q (.ref I) s') →
    wpAny (model g.prog g.w) c.A (t ws) (fun xv s₁ => wpAny (model g.prog g.w) c.A (pyIter xv) Q E s₁) E s
noncomputable def iterNF (f : PS → Option (List MV × PS)) (F : List MV → SS → Option It) : PS → Option (It × PS) := fun st => match f st with
  | .none => .none
  | some (vs, st1) => match F vs st1.ss with
    | .none => .none
    | some it => some (it, st1)
set_option smartUnfolding false in
theorem IterOK.callTy {x : Str} {T : String} {e : Expr} {es : List Expr} {p pos : Pos} {f : PS → Option (List MV × PS)} {F : List MV → SS → Option It} (hg : ∀ h, g.B h → GlobV h x (.type T))
    (hk : Γ.scope.names.lookup x = some .globalImplicit) (hd : (x == ("__debug__" : Str)) = false) (ho : ItNOK g lv (fun ws => call (.type T) ws) F) (hs : EvsOK g Γ lv (e :: es) f) (hu : unStarred e = true) (hus : es.all unStarred = true) :
    IterOK g Γ lv (.Call (.Name x p) (e :: es) [] pos) (iterNF f F) := by
  intro c hl α ext G st it st' s Q E hf R hQ
  unfold iterNF at hf
  refine eop hf fun vs st1 e1 hf => ?_
  refine eo hf fun it' e2 hf => ?_
  replace hQ := som2 (P := fun it st' => ∀ I own gx, After c α (own ++ ext) (G ++ gx) s st' fun α' s' => ItOK c G I α' own gx it → Q (.ref I) s') hf hQ
  refine Call_ (glob_name R hg hk hd ?_) rfl
  refine PyProof.Rows.callWith_type1 (hs c hl α ext G st vs _ s _ E _ e1 R fun ws α1 s1 hs1 R1 ho1 hv => ?_) (starEach_un hu) (noStars _ _ _ hus)
  exact ho Γ c hl α1 ext G _ vs ws it' s1 Q E e2 hv R1 fun I own gx α2 s2 hs2 R2 ho2 hx => hQ I own gx α2 s2 (hs1.trans hs2) R2 (ho2.trans ho1) hx
noncomputable def ItRet {g : Gl} {Γ : Sta} (c : Cx g Γ) (α : List Addr) (ext : List (Addr × Obj)) (G : List GenState) (st : PS) (s : Shared) (Q : Value → Shared → Prop) (it : It) : Prop := ∀ I own gx, After c α (own ++ ext) (G ++ gx) s st fun α' s' => ItOK c G I α' own gx it → Q (.ref I) s'
theorem ItNOK.of {t : List Value → Sem Value} {F : List MV → SS → Option It}
    (H : ∀ (Γ : Sta) (c : Cx g Γ) α ext G st vs ws s (Q E : Value → Shared → Prop) (K : Option It → Prop), lv ≤ c.lvl → VsOK g.q α vs ws → Rel c α ext G st s → K none →
      (∀ it, (ItRet c α ext G st s Q it → wpAny (model g.prog g.w) c.A (t ws) (fun xv s₁ => wpAny (model g.prog g.w) c.A (pyIter xv) Q E s₁) E s) → K (some it)) → K (F vs st.ss)) : ItNOK g lv t F := by
  intro Γ c hl α ext G st vs ws it s Q E hf hv R hQ
  exact H Γ c α ext G st vs ws s Q E (fun o => o = some it → wpAny (model g.prog g.w) c.A (t ws) (fun xv s₁ => wpAny (model g.prog g.w) c.A (pyIter xv) Q E s₁) E s) hl hv R (fun h => nn h) (fun it' h e => h (Option.some.inj e ▸ hQ)) hf
noncomputable def enumI : List MV → SS → Option It
  | [.ref k], ss => match listAt ss k with
    | .none => .none
    | some _ => some (.enumL k 0)
  | _, _ => .none
set_option smartUnfolding false in
theorem enum_ok : ItNOK g lv (fun ws => call (.type "enumerate") ws) enumI := by
  refine ItNOK.of fun Γ c α ext G st vs ws s Q E K hl hv R hn hK => ?_
  unfold enumI
  refine k1ref (K := K) (ss := st.ss) hn fun k ek => ?_
  refine ko (K := K) hn fun us e => hK _ fun hQ => ?_
  subst ek
  cases id R with | mk m led bl R' =>
  refine hv.one (P := fun ws => wpAny (model g.prog g.w) c.A (call (.type "enumerate") ws) (fun xv s₁ => wpAny (model g.prog g.w) c.A (pyIter xv) Q E s₁) E s) fun w k1 => ?_
  refine R'.listEl (P := fun w => VOK g.q α (.ref k) w → wpAny (model g.prog g.w) c.A (call (.type "enumerate") [w]) (fun xv s₁ => wpAny (model g.prog g.w) c.A (pyIter xv) Q E s₁) E s) k1 e (fun a ws1 n1 g1 _ _ k1 => ?_) k1
  refine call_enumerate_list (isList_of g1) fun h' he hit hz hk => wpAny_pyIter_enum he (hit.elim fun o' h => ?_)
  refine hQ _ [(s.heap.objs.size + 1, _), (s.heap.objs.size, o')] [] α _ (List.suffix_refl _) (Rel.app ?_) rfl ⟨rfl, s.heap.objs.size, a, o', .none, rfl, k1, h.2.1, h.2.2⟩
  exact Rel.priv (own := []) (tk := s.toks) R (fun b ob _ e => hk b ob e) (List.forall_mem_cons.mpr ⟨⟨he, .inr (Nat.le_succ _)⟩, List.forall_mem_cons.mpr ⟨⟨h.1, .inr (Nat.le_refl _)⟩, fun _ h => nomatch h⟩⟩)
    (List.nodup_cons.mpr ⟨fun h => Nat.succ_ne_self _ (List.mem_singleton.mp h), List.nodup_cons.mpr ⟨List.not_mem_nil, List.nodup_nil⟩⟩) R.pos
noncomputable def zipI : List MV → SS → Option It
  | [.ref k1, .ref k2], ss => match listAt ss k1 with
    | .none => .none
    | some _ => match listAt ss k2 with
      | .none => .none
      | some _ => some (.zip k1 k2 0)
  | _, _ => .none
theorem add_ne {n a b : Nat} (h : Nat.beq a b = false) : n + a ≠ n + b := fun e => Nat.ne_of_beq_eq_false h (Nat.add_left_cancel e)
theorem zipNd {o0 o1 o2 o3 o4 : Obj} (n : Addr) : (List.map (fun p : Addr × Obj => p.1) [(n + 4, o0), (n + 2, o1), (n + 3, o2), (n, o3), (n + 1, o4)]).Nodup := by
  refine List.nodup_cons.mpr ⟨fun h => ?_, List.nodup_cons.mpr ⟨fun h => ?_, List.nodup_cons.mpr ⟨fun h => ?_, List.nodup_cons.mpr ⟨fun h => Nat.succ_ne_self _ (List.mem_singleton.mp h).symm, List.nodup_cons.mpr ⟨List.not_mem_nil, List.nodup_nil⟩⟩⟩⟩⟩
  · rcases List.mem_cons.mp h with h | h
    · exact add_ne (n := n) (a := 4) (b := 2) rfl h
    rcases List.mem_cons.mp h with h | h
    · exact add_ne (n := n) (a := 4) (b := 3) rfl h
    rcases List.mem_cons.mp h with h | h
    · exact add_ne (n := n) (a := 4) (b := 0) rfl h
    · exact add_ne (n := n) (a := 4) (b := 1) rfl (List.mem_singleton.mp h)
  · rcases List.mem_cons.mp h with h | h
    · exact add_ne (n := n) (a := 2) (b := 3) rfl h
    rcases List.mem_cons.mp h with h | h
    · exact add_ne (n := n) (a := 2) (b := 0) rfl h
    · exact add_ne (n := n) (a := 2) (b := 1) rfl (List.mem_singleton.mp h)
  · rcases List.mem_cons.mp h with h | h
    · exact add_ne (n := n) (a := 3) (b := 0) rfl h
    · exact add_ne (n := n) (a := 3) (b := 1) rfl (List.mem_singleton.mp h)
theorem k2ref {K : Option It → Prop} {vs : List MV} {ss : SS} {f : Nat → Nat → Option It} (n : K none) (k : ∀ i j, vs = [.ref i, .ref j] → K (f i j)) : K (match (generalizing := false) vs, ss with | [.ref i, .ref j], _ => f i j | _, _ => none) := by
  cases vs with
  | nil => exact n
  | cons a vs => cases a with
    | ref i => cases vs with
      | nil => exact n
      | cons b vs => cases b with
        | ref j => cases vs with
          | nil => exact k i j rfl
          | cons _ _ => exact n
        | _ => cases vs <;> exact n
    | _ => cases vs with
      | nil => exact n
      | cons _ vs => cases vs <;> exact n
set_option smartUnfolding false in
theorem zip_ok : ItNOK g lv (fun ws => call (.type "zip") ws) zipI := by
  refine ItNOK.of fun Γ c α ext G st vs ws s Q E K hl hv R hn hK => ?_
  unfold zipI
  refine k2ref (K := K) (ss := st.ss) hn fun k1 k2 ek => ?_
  refine ko (K := K) hn fun us e => ?_
  refine ko (K := K) hn fun us' e' => hK _ fun hQ => ?_
  subst ek
  cases id R with | mk m led bl R' =>
  refine hv.two (P := fun ws => wpAny (model g.prog g.w) c.A (call (.type "zip") ws) (fun xv s₁ => wpAny (model g.prog g.w) c.A (pyIter xv) Q E s₁) E s) fun w w' v1 v2 => ?_
  refine R'.listEl (P := fun w => VOK g.q α (.ref k1) w → wpAny (model g.prog g.w) c.A (call (.type "zip") [w, w']) (fun xv s₁ => wpAny (model g.prog g.w) c.A (pyIter xv) Q E s₁) E s) v1 e (fun a ws1 n1 g1 _ _ v1 => ?_) v1
  refine R'.listEl (P := fun w' => VOK g.q α (.ref k2) w' → wpAny (model g.prog g.w) c.A (call (.type "zip") [.ref a, w']) (fun xv s₁ => wpAny (model g.prog g.w) c.A (pyIter xv) Q E s₁) E s) v2 e' (fun a' ws2 n2 g1' _ _ v2 => ?_) v2
  refine call_zip_2 (isList_of g1) (isList_of g1') fun h' hz hTI hTO hit1 hit2 hsz hk => wpAny_pyIter_zip hz (hit1.elim fun o1 j1 => hit2.elim fun o2 j2 => ?_)
  refine hQ _ [(s.heap.objs.size + 4, _), (s.heap.objs.size + 2, _), (s.heap.objs.size + 3, _), (s.heap.objs.size, o1), (s.heap.objs.size + 1, o2)] [] α _ (List.suffix_refl _) (Rel.app ?_) rfl
    ⟨rfl, s.heap.objs.size + 2, s.heap.objs.size + 3, s.heap.objs.size, s.heap.objs.size + 1, a, a', o1, o2, .none, .none, rfl, v1, v2, j1.2.1, j1.2.2, j2.2.1, j2.2.2⟩
  exact Rel.priv (own := []) (tk := s.toks) R (fun b ob _ e => hk b ob e) (all5 ⟨hz, .inr (Nat.le_add_right _ _)⟩ ⟨hTI, .inr (Nat.le_add_right _ _)⟩ ⟨hTO, .inr (Nat.le_add_right _ _)⟩ ⟨j1.1, .inr (Nat.le_refl _)⟩ ⟨j2.1, .inr (Nat.le_succ _)⟩) (zipNd _) R.pos
noncomputable def revI : List MV → SS → Option It
  | [.ref k], ss => match listAt ss k with
    | .none => .none
    | some vs => some (.rev k vs.length)
  | _, _ => .none
set_option smartUnfolding false in
theorem rev_ok : ItNOK g lv (fun ws => call (.type "reversed") ws) revI := by
  refine ItNOK.of fun Γ c α ext G st vs ws s Q E K hl hv R hn hK => ?_
  unfold revI
  refine k1ref (K := K) (ss := st.ss) hn fun k ek => ?_
  refine ko (K := K) hn fun us e => hK _ fun hQ => ?_
  subst ek
  cases id R with | mk m led bl R' =>
  refine hv.one (P := fun ws => wpAny (model g.prog g.w) c.A (call (.type "reversed") ws) (fun xv s₁ => wpAny (model g.prog g.w) c.A (pyIter xv) Q E s₁) E s) fun w k1 => ?_
  refine R'.listEl (P := fun w => VOK g.q α (.ref k) w → wpAny (model g.prog g.w) c.A (call (.type "reversed") [w]) (fun xv s₁ => wpAny (model g.prog g.w) c.A (pyIter xv) Q E s₁) E s) k1 e (fun a zs n g1 _ hlen k1 => ?_) k1
  refine call_reversed_list (isList_of g1) (wpAny_pyIter_revIter (i := (zs.toArray.size : Int) - 1) (l := a) ⟨_, Heap.get?_push_size _ rfl, rfl, rfl⟩ ?_)
  refine hQ _ _ [] α _ (List.suffix_refl _) (R.fresh1 _).app rfl ⟨rfl, a, _, rfl, k1, rfl, ?_⟩
  rw [← hlen]
  rfl
end Mine
end P15
section P16
open PySem PySem.W PyProof.Rows PySem.Calls PySem.Spec
namespace Mine
variable {g : Gl} {Γ : Sta} {lv : Nat}
/-! while -/
noncomputable def whileL (t : PS → Option (Bool × PS)) (b : PS → Option (FL × PS)) : Nat → PS → Option (FL × PS)
  | 0, _ => .none
  | n + 1, st => match t st with
    | .none => .none
    | some (false, st1) => some (.next, st1)
    | some (true, st1) => match b st1 with
      | .none => .none
      | some (r, st2) => match r with
        | .next => whileL t b n st2
        | .cont => whileL t b n st2
        | .brk => some (.next, st2)
        | .ret v => some (.ret v, st2)
inductive WhAt {g : Gl} {Γ : Sta} (c : Cx g Γ) (α₀ : List Addr) (ext : List (Addr × Obj)) (G : List GenState) (t : PS → Option (Bool × PS)) (b : PS → Option (FL × PS)) (os : OsState) (v : FL) (st' : PS) (n : Nat) (s : Shared) : Prop
  | mk (α : List Addr) (st : PS) (hf : whileL t b n st = some (v, st')) (R : Rel c α ext G st s) (hs : α₀ <:+ α) (ho : s.os = os)
theorem whileL_el {t : PS → Option (Bool × PS)} {b : PS → Option (FL × PS)} {n : Nat} {st st' : PS} {v : FL} {P : Prop} (hf : whileL t b (n + 1) st = some (v, st')) (k0 : ∀ st1, t st = some (false, st1) → some (FL.next, st1) = some (v, st') → P)
    (k1 : ∀ st1 r st2, t st = some (true, st1) → b st1 = some (r, st2) → (match r with | .next => whileL t b n st2 | .cont => whileL t b n st2 | .brk => some (.next, st2) | .ret v => some (.ret v, st2)) = some (v, st') → P) : P := by
  rw [whileL.eq_2] at hf
  cases e : t st with
  | none => rw [e] at hf; exact nn hf
  | some y =>
    rw [e] at hf
    obtain ⟨y, st1⟩ := y
    cases y with
    | false => exact k0 st1 e hf
    | true =>
      dsimp only at hf
      cases e1 : b st1 with
      | none => rw [e1] at hf; exact nn hf
      | some z => rw [e1] at hf; exact k1 st1 z.1 z.2 e e1 hf
theorem ExOK.wh {test : Expr} {body : List Stmt} {pos : Pos} {t : PS → Option (Bool × PS)} {b : PS → Option (FL × PS)} (fuel : Nat) (ht : IsOK g Γ lv test t) (hb : ExsOK g Γ lv body b) : ExOK g Γ lv (.While test body [] pos) (whileL t b fuel) := by
  intro c hl α₀ ext G st₀ v st' s₀ Q E hf hR hQ
  refine wpAny_While (codeAny_whileLoop (WhAt c α₀ ext G t b s₀.os v st') (fun n s hI => ?_) fuel ⟨α₀, st₀, hf, hR, List.suffix_refl _, rfl⟩)
  cases hI with | mk α st hf R1 hs ho1 =>
  cases n with
  | zero => exact nn hf
  | succ n =>
    refine whileL_el hf (fun st1 e1 hf => ?_) fun st1 r st2 e1 e3 hf => ?_
    · refine ht c hl α ext G st false _ s _ _ e1 R1 fun α1 s1 hs1 R2 ho2 => ?_
      exact wpAny_execs_nil (som2 (P := FetP c α₀ ext G s₀ _) hf hQ .next α1 s1 (hs.trans hs1) R2 (ho2.trans ho1) trivial)
    · refine ht c hl α ext G st true st1 s _ _ e1 R1 fun α1 s1 hs1 R2 ho2 => ?_
      refine hb c hl α1 ext G st1 r st2 s1 _ _ e3 R2 fun fw α4 s4 hs4 R4 ho4 vv => ?_
      have hos : s4.os = s₀.os := ho4.trans (ho2.trans ho1)
      cases r with
      | next => cases fw <;> first | exact False.elim vv | exact ⟨n, Nat.lt_succ_self n, ⟨α4, st2, hf, R4, hs.trans (hs1.trans hs4), hos⟩⟩
      | cont => cases fw <;> first | exact False.elim vv | exact ⟨n, Nat.lt_succ_self n, ⟨α4, st2, hf, R4, hs.trans (hs1.trans hs4), hos⟩⟩
      | brk => cases fw <;> first | exact False.elim vv | exact som2 (P := FetP c α₀ ext G s₀ _) hf hQ .next α4 s4 (hs.trans (hs1.trans hs4)) R4 hos trivial
      | ret v => cases fw <;> first | exact False.elim vv | exact som2 (P := FetP c α₀ ext G s₀ _) hf hQ (.ret _) α4 s4 (hs.trans (hs1.trans hs4)) R4 hos vv
/-! displays -/
noncomputable def listF (f : PS → Option (List MV × PS)) : PS → Option (MV × PS) := fun st => match f st with
  | .none => .none
  | some (vs, st1) => match small vs.length with
    | true => some (.ref st1.ss.n, { st1 with ss := ⟨st1.ss.n + 1, .list vs :: st1.ss.sto⟩ })
    | false => .none
theorem small_line {n : Nat} (h : small n = true) : n ≤ sizeLine := Nat.le_of_lt (Nat.lt_of_lt_of_le (small_lt h) (by decide))
set_option smartUnfolding false in
theorem EvOK.list {es : List Expr} {pos : Pos} {f : PS → Option (List MV × PS)} (h : EvsOK g Γ lv es f) : EvOK g Γ lv (.List es pos) (listF f) := by
  intro c hl α ext G st v st' s Q E hf R hQ
  unfold listF at hf
  refine eop hf fun vs st1 e1 hf => ?_
  refine eb hf fun hsm hf => ?_
  replace hQ := som2 (P := RetP c α ext G s Q) hf hQ
  refine List_ (h c hl α ext G st vs st1 s _ E _ e1 R fun ws α1 s1 hs1 R1 ho1 hv => ?_)
  cases R1 with | mk m led bl R1 =>
  refine newList_K R1.F R1.N (fun l h' F' N' hlt => made_list R1 F' N' hlt hv R1.tk fun w α2 s2 hs2 R2 ho2 hw => hQ w α2 s2 (hs1.trans hs2) R2 (ho2.trans ho1) hw) ?_
  rw [hv.length]; exact small_line hsm
theorem made_tuple {c : Cx g Γ} {α : List Addr} {ext : List (Addr × Obj)} {G : List GenState} {st : PS} {s : Shared} {m : Str → Option Value} {led bl : List (Addr × Obj)} (R : RelX c α ext G st s m led bl)
    {vs : List MV} {ws : List Value} {l : Addr} {h' : Heap} {tk : Nat} {Q : Value → Shared → Prop} (F : Fr c.h₀ c.L h' m) (N : News c.h₀ c.L h' ((l, { cls := .type "tuple", data := .seq ws.toArray 0 }) :: (led ++ (bl ++ ext)))) (hl : ∀ p ∈ led ++ (bl ++ ext), p.1 < l)
    (hv : VsOK g.q α vs ws) (ht : 0 < tk) (hQ : ∀ w, After c α ext G s { st with ss := ⟨st.ss.n + 1, .tuple vs :: st.ss.sto⟩ } fun α' s' => VOK g.q α' (.ref st.ss.n) w → Q w s') :
    Q (.ref l) { s with heap := h', toks := tk } :=
  hQ (.ref l) (l :: α) _ (List.suffix_cons _ _) (Rel.alloc R F N hl ⟨ws, 0, rfl, hv.mono (List.suffix_cons _ _)⟩ ht) rfl (Rel.ref R l)
noncomputable def tupleF (f : PS → Option (List MV × PS)) : PS → Option (MV × PS) := fun st => match f st with
  | .none => .none
  | some (vs, st1) => match small vs.length with
    | true => some (.ref st1.ss.n, { st1 with ss := ⟨st1.ss.n + 1, .tuple vs :: st1.ss.sto⟩ })
    | false => .none
set_option smartUnfolding false in
theorem EvOK.tuple {es : List Expr} {k : Nat} {pos : Pos} {f : PS → Option (List MV × PS)} (h : EvsOK g Γ lv es f) : EvOK g Γ lv (.Tuple es k pos) (tupleF f) := by
  intro c hl α ext G st v st' s Q E hf R hQ
  unfold tupleF at hf
  refine eop hf fun vs st1 e1 hf => ?_
  refine eb hf fun hsm hf => ?_
  replace hQ := som2 (P := RetP c α ext G s Q) hf hQ
  refine Tuple_ (h c hl α ext G st vs st1 s _ E _ e1 R fun ws α1 s1 hs1 R1 ho1 hv => ?_)
  cases R1 with | mk m led bl R1 =>
  refine newTuple_N R1.F R1.N (fun h' F' N' => made_tuple R1 F' N' (News.below R1.N) hv R1.tk fun w α2 s2 hs2 R2 ho2 hw => hQ w α2 s2 (hs1.trans hs2) R2 (ho2.trans ho1) hw) ?_
  rw [hv.length]; exact small_line hsm
/-! and -/
noncomputable def andF (f1 f2 : PS → Option (MV × PS)) : PS → Option (MV × PS) := fun st => match f1 st with
  | .none => .none
  | some (v, st1) => match truthB v st1.ss with
    | .none => .none
    | some true => f2 st1
    | some false => some (v, st1)
set_option smartUnfolding false in
theorem EvOK.and2 {x y : Expr} {pos : Pos} {f1 f2 : PS → Option (MV × PS)} (h1 : EvOK g Γ lv x f1) (h2 : EvOK g Γ lv y f2) : EvOK g Γ lv (.BoolOp .And [x, y] pos) (andF f1 f2) := by
  intro c hl α ext G st v st' s Q E hf R hQ
  unfold andF at hf
  refine eop hf fun v1 st1 e1 hf => ?_
  refine BoolOp_and (h1 c hl α ext G st v1 st1 s _ E e1 R fun w α1 s1 hs1 R1 ho1 hv => ?_)
  refine eo hf fun b e2 hf => ?_
  refine truth_ok e2 hv R1 fun tk R2 => ?_
  cases b with
  | true => exact BoolOp_one (h2 c hl α1 ext G st1 v st' _ _ E hf R2 fun w2 α2 s2 hs2 R2 ho2 vv => hQ w2 α2 s2 (hs1.trans hs2) R2 (ho2.trans ho1) vv)
  | false => exact som2 (P := RetP c α ext G s Q) hf hQ w α1 _ hs1 R2 ho1 hv
/-! a op1 b op2 c -/
noncomputable def chainF (f1 f2 f3 : PS → Option (MV × PS)) (F1 F2 : MV → MV → SS → Option (MV × SS)) : PS → Option (MV × PS) := fun st => match f1 st with
  | .none => .none
  | some (a, st1) => match f2 st1 with
    | .none => .none
    | some (b, st2) => match F1 a b st2.ss with
      | .none => .none
      | some (r, ss) => match truthB r ss with
        | .none => .none
        | some false => some (r, { st2 with ss := ss })
        | some true => match f3 { st2 with ss := ss } with
          | .none => .none
          | some (d, st3) => match F2 b d st3.ss with
            | .none => .none
            | some (v, ss') => some (v, { st3 with ss := ss' })
set_option smartUnfolding false in
theorem EvOK.chain {x y z : Expr} {op1 op2 : CmpOp} {pos : Pos} {f1 f2 f3 : PS → Option (MV × PS)} {F1 F2 : MV → MV → SS → Option (MV × SS)} (h1 : EvOK g Γ lv x f1) (h2 : EvOK g Γ lv y f2) (h3 : EvOK g Γ lv z f3)
    (o1 : Op2OK g lv (compareOp op1) F1) (o2 : Op2OK g lv (compareOp op2) F2) (hm : lastMarks [op1, op2] [y, z] = false) : EvOK g Γ lv (.Compare x [op1, op2] [y, z] pos) (chainF f1 f2 f3 F1 F2) := by
  intro c hl α ext G st v st' s Q E hf R hQ
  unfold chainF at hf
  refine eop hf fun a st1 e1 hf => ?_
  refine eop hf fun b st2 e2 hf => ?_
  refine eop hf fun r ss e3 hf => ?_
  refine eo hf fun t e4 hf => ?_
  refine Compare_chain (h1 c hl α ext G st a st1 s _ E e1 R fun wa α1 s1 hs1 R1 ho1 va => ?_) hm
  refine chain_link (h2 c hl α1 ext G st1 b st2 s1 _ E e2 R1 fun wb α2 s2 hs2 R2 ho2 vb => ?_)
  refine o1 Γ c hl α2 ext G st2 a b wa wb r ss s2 _ E e3 (va.mono hs2) vb R2 fun wr α3 s3 hs3 R3 ho3 vr => ?_
  refine truth_ok (st := { st2 with ss := ss }) e4 vr R3 fun tk R4 => ?_
  cases t with
  | false => exact som2 (P := RetP c α ext G s Q) hf hQ wr α3 _ (hs1.trans (hs2.trans hs3)) R4 (ho3.trans (ho2.trans ho1)) vr
  | true =>
    refine eop hf fun d st3 e5 hf => ?_
    refine eop hf fun v' ss' e6 hf => ?_
    replace hQ := som2 (P := RetP c α ext G s Q) hf hQ
    refine chain_last (h3 c hl α3 ext G _ d st3 _ _ E e5 R4 fun wd α5 s5 hs5 R5 ho5 vd => ?_)
    refine o2 Γ c hl α5 ext G st3 b d wb wd v' ss' s5 _ E e6 (vb.mono (hs3.trans hs5)) vd R5 fun w α6 s6 hs6 R6 ho6 vv => ?_
    exact hQ w α6 s6 (hs1.trans (hs2.trans (hs3.trans (hs5.trans hs6)))) R6 (ho6.trans (ho5.trans (ho3.trans (ho2.trans ho1)))) vv
/-! a, b = value -/
noncomputable def TgsOK (g : Gl) (Γ : Sta) (elts : List Expr) (tF : List MV → PS → Option PS) : Prop :=
  (∀ env, (assignEach elts env).findIdx? (·.1) = .none) ∧ (∀ env, (assignEach elts env).length = elts.length) ∧ (∀ vs st st', tF vs st = some st' → vs.length = elts.length) ∧
  ∀ (c : Cx g Γ) α ext G st st' s vs ws (Q : Unit → Shared → Prop) E, tF vs st = some st' → Rel c α ext G st s → VsOK g.q α vs ws → (∀ s', Rel c α ext G st' s' → s'.os = s.os → Q () s') →
    wpAny (model g.prog g.w) c.A (assignInOrder ((assignEach elts c.env).map (·.2)) ws) Q E s
noncomputable def tnilF : List MV → PS → Option PS
  | [], st => some st
  | _ :: _, _ => .none
theorem TgsOK.nil : TgsOK g Γ [] tnilF := by
  refine ⟨fun _ => rfl, fun _ => rfl, fun vs st st' h => ?_, fun c α ext G st st' s vs ws Q E hf R hv hQ => ?_⟩
  · cases vs with
    | nil => rfl
    | cons => exact nn h
  · cases hv with
    | nil => exact wpAny_assignInOrder_none (hQ s (Option.some.inj hf ▸ R) rfl)
    | cons => exact nn hf
noncomputable def tlocF (i : Nat) (r : List MV → PS → Option PS) : List MV → PS → Option PS
  | v :: vs, st => r vs { st with loc := st.loc.set i (some v) }
  | [], _ => .none
noncomputable def tcelF (i : Nat) (r : List MV → PS → Option PS) : List MV → PS → Option PS
  | v :: vs, st => match setCel st i v with
    | .none => .none
    | some st1 => r vs st1
  | [], _ => .none
theorem findIdx_cons {β : Type} {t : β} {l : List (Bool × β)} (h : l.findIdx? (·.1) = .none) : ((false, t) :: l).findIdx? (·.1) = .none := by
  rw [List.findIdx?_cons, if_neg Bool.false_ne_true, h]; rfl
theorem TgsOK.loc {x : Str} {p : Pos} {i : Nat} {es : List Expr} {r : List MV → PS → Option PS} (h : TgsOK g Γ es r) (hn : Γ.names[i]? = some x) (hnd : Γ.names.Nodup) (hk : Γ.scope.names.lookup x = some .local) : TgsOK g Γ (.Name x p :: es) (tlocF i r) := by
  refine ⟨fun env => findIdx_cons (h.1 env), fun env => congrArg Nat.succ (h.2.1 env), fun vs st st' hf => ?_, fun c α ext G st st' s vs ws Q E hf R hv hQ => ?_⟩
  · cases vs with
    | nil => exact nn hf
    | cons v vs => exact congrArg Nat.succ (h.2.2.1 vs _ st' hf)
  · cases hv with
    | nil => exact nn hf
    | cons v1 hv => exact wpAny_assignInOrder_more (wpAny_assign_Name (R.store hn hnd hk v1 fun s2 R2 ho2 => h.2.2.2 c α ext G _ st' s2 _ _ Q E hf R2 hv fun s3 R3 ho3 => hQ s3 R3 (ho3.trans ho2)))
set_option smartUnfolding false in
theorem TgsOK.cel {x : Str} {p : Pos} {i : Nat} {es : List Expr} {r : List MV → PS → Option PS} (h : TgsOK g Γ es r) (hn : Γ.cnames[i]? = some x) (hk : Γ.scope.names.lookup x = some .cell) : TgsOK g Γ (.Name x p :: es) (tcelF i r) := by
  refine ⟨fun env => findIdx_cons (h.1 env), fun env => congrArg Nat.succ (h.2.1 env), fun vs st st' hf => ?_, fun c α ext G st st' s vs ws Q E hf R hv hQ => ?_⟩
  · cases vs with
    | nil => exact nn hf
    | cons v vs => exact eo (o := setCel st i v) hf fun st1 _ hf => congrArg Nat.succ (h.2.2.1 vs _ st' hf)
  · cases hv with
    | nil => exact nn hf
    | cons v1 hv =>
      refine eo (o := setCel st i _) hf fun st1 e1 hf => ?_
      exact wpAny_assignInOrder_more (wpAny_assign_Name (R.setCel hn hk e1 v1 fun s2 R2 ho2 => h.2.2.2 c α ext G _ st' s2 _ _ Q E hf R2 hv fun s3 R3 ho3 => hQ s3 R3 (ho3.trans ho2)))
noncomputable def tupOf (ss : SS) : MV → Option (List MV)
  | .ref k => match fromEnd ss.n ss.sto k with
    | some (.tuple vs) => some vs
    | _ => .none
  | _ => .none
noncomputable def asgTF (f : PS → Option (MV × PS)) (tF : List MV → PS → Option PS) : PS → Option (FL × PS) := fun st => match f st with
  | .none => .none
  | some (v, st1) => match tupOf st1.ss v with
    | .none => .none
    | some vs => match tF vs st1 with
      | .none => .none
      | some st2 => some (.next, st2)
set_option smartUnfolding false in
theorem ExOK.asgT {es : List Expr} {k : Nat} {e : Expr} {pos p : Pos} {f : PS → Option (MV × PS)} {tF : List MV → PS → Option PS} (h : EvOK g Γ lv e f) (ht : TgsOK g Γ es tF)
    (hs : ∀ env, swapsWithSole [.Tuple es k p] e pos.line env = pure false) (hw : ∀ env, swappedStores [.Tuple es k p] e env = pure .none) : ExOK g Γ lv (.Assign [.Tuple es k p] e pos) (asgTF f tF) := by
  intro c hl α ext G st v st' s Q E hf R hQ
  unfold asgTF at hf
  refine eop hf fun v1 st1 e1 hf => ?_
  refine eo hf fun vs e2 hf => ?_
  refine eo hf fun st2 e3 hf => ?_
  replace hQ := som2 (P := FetP c α ext G s Q) hf hQ
  refine Assign_Tuple (h c hl α ext G st v1 st1 s _ E e1 R fun w α1 s1 hs1 R1 ho1 hv => ?_) (hs _) (hw _)
  unfold tupOf at e2
  refine emv_ref e2 fun kk ek e2 => ?_
  refine emo_tup e2 fun us e4 e5 => ?_
  subst ek
  cases id R1 with | mk m led bl R' =>
  refine R'.tupEl (P := fun w => wpAny (model g.prog g.w) c.A (assign (.Tuple es k p) c.env w) (fun _ s' => Q .next s') E s1) hv (Option.some.inj e5 ▸ e4) fun a ws g1 h1 hlen => ?_
  refine wpAny_assign_Tuple c.hh (items := ws.toArray) g1 ?_ (ht.1 _) fun h' he => ?_
  · rw [ht.2.1, ← ht.2.2.1 _ _ _ e3, List.size_toArray]; exact hlen.symm
  · exact ht.2.2.2 c α1 ext G st1 st2 _ vs ws _ E e3 (R1.grown he R1.pos) h1 fun s3 R3 ho3 => hQ .next α1 s3 hs1 R3 (ho3.trans ho1) trivial
noncomputable def boolF (b : Bool) : PS → Option (MV × PS) := fun st => some (.bool b, st)
theorem EvOK.bool {b : Bool} {k : Nat} {pos : Pos} : EvOK g Γ lv (.Constant (.bool b) k pos) (boolF b) := by
  intro c hl α ext G st v st' s Q E hf R hQ
  exact wpAny_Constant_bool (som2 (P := RetP c α ext G s Q) hf hQ _ α _ (List.suffix_refl _) R rfl rfl)
end Mine
end P16
section P17
open PySem PySem.W PyProof.Rows PySem.Calls PySem.Spec
namespace Mine
variable {g : Gl} {Γ : Sta} {lv : Nat}
/-! the cells of the names that a block reads from around -/
noncomputable def closL (cells : List (Str × Addr)) : List (Str × NameKind) → List (Str × Addr) → List (Str × Addr)
  | [], acc => acc
  | (n, k) :: r, acc => if k == .free then closL cells r ((n, (cells.lookup n).getD 0) :: acc) else closL cells r acc
theorem closFor {env : Env} (f : Str × NameKind → List (Str × Addr) → Sem (ForInStep (List (Str × Addr))))
    (hf : ∀ name kind cs, f (name, kind) cs = if kind == .free then (do let a ← cellOf env name; pure (.yield ((name, a) :: cs))) else pure (.yield cs)) :
    ∀ (names : List (Str × NameKind)) (acc : List (Str × Addr)), (∀ x ∈ names, x.2 = .free → (env.cells.lookup x.1).isSome = true) → forIn names acc f = pure (closL env.cells names acc)
  | [], acc, _ => by rw [List.forIn_nil]; rfl
  | (n, k) :: r, acc, h => by
    have ih := closFor f hf r
    have hr := fun x hx => h x (List.mem_cons_of_mem _ hx)
    rw [List.forIn_cons, hf]
    unfold closL
    by_cases hk : (k == NameKind.free) = true
    · rw [if_pos hk, if_pos hk]
      obtain ⟨a, ha⟩ := Option.isSome_iff_exists.mp (h (n, k) List.mem_cons_self (by simpa using hk))
      have : cellOf env n = pure a := by unfold cellOf; rw [ha]
      rw [this, ha]
      simp only [pure_bind]
      exact ih _ hr
    · rw [if_neg hk, if_neg hk]
      simp only [pure_bind]
      exact ih _ hr
theorem closureFor_eq {scope : Scope} {env : Env} (h : ∀ x ∈ scope.names, x.2 = .free → (env.cells.lookup x.1).isSome = true) : closureFor scope env = pure (closL env.cells scope.names []) := by
  simp only [closureFor]
  rw [closFor _ (fun name kind cs => rfl) scope.names [] h]
  rfl
theorem closL_sound {cells : List (Str × Addr)} {n : Str} {a : Addr} : ∀ {names : List (Str × NameKind)} {acc : List (Str × Addr)}, (∀ x ∈ names, x.2 = .free → (cells.lookup x.1).isSome = true) →
    (∀ n a, acc.lookup n = some a → cells.lookup n = some a) → (closL cells names acc).lookup n = some a → cells.lookup n = some a
  | [], acc, _, h, e => h n a e
  | (x, k) :: r, acc, hs, h, e => by
    unfold closL at e
    have hr := fun y hy => hs y (List.mem_cons_of_mem _ hy)
    split at e
    · rename_i hk
      refine closL_sound hr (fun n' a' e' => ?_) e
      rw [List.lookup_cons] at e'
      split at e'
      · rename_i hx
        cases e'
        obtain ⟨b, hb⟩ := Option.isSome_iff_exists.mp (hs (x, k) List.mem_cons_self (by simpa using hk))
        rw [beq_iff_eq.mp hx, hb]; rfl
      · exact h n' a' e'
    · exact closL_sound hr h e
theorem closL_has {cells : List (Str × Addr)} {n : Str} : ∀ {names : List (Str × NameKind)} {acc : List (Str × Addr)}, ((n, NameKind.free) ∈ names ∨ (acc.lookup n).isSome = true) → ((closL cells names acc).lookup n).isSome = true
  | [], acc, h => by
    rcases h with h | h
    · cases h
    · exact h
  | (x, k) :: r, acc, h => by
    unfold closL
    split
    · rename_i hk
      refine closL_has ?_
      rcases h with h | h
      · rcases List.mem_cons.mp h with e | h
        · cases e; right; rw [List.lookup_cons, beq_self_eq_true]; rfl
        · exact .inl h
      · right
        rw [List.lookup_cons]
        split
        · rfl
        · exact h
    · rename_i hk
      refine closL_has ?_
      rcases h with h | h
      · rcases List.mem_cons.mp h with e | h
        · cases e; exact absurd rfl hk
        · exact .inl h
      · exact .inr h
theorem closL_eq {cells : List (Str × Addr)} {n : Str} {names : List (Str × NameKind)} (hs : ∀ x ∈ names, x.2 = .free → (cells.lookup x.1).isSome = true) (hn : (n, NameKind.free) ∈ names) : (closL cells names []).lookup n = cells.lookup n := by
  obtain ⟨a, ha⟩ := Option.isSome_iff_exists.mp (closL_has (cells := cells) (acc := []) (.inl hn))
  rw [ha, closL_sound hs (fun n' a' e => by simp at e) ha]
noncomputable def reScope (scope Γs : Scope) : Scope :=
  { scope with names := scope.names.map fun (n, k) => if (k == .free && Γs.names.lookup n == some .cell) then (n, .cell) else (n, k) }
theorem relabel_eq {c : Cx g Γ} {scope : Scope} : relabel scope c.env = reScope scope Γ.scope := by
  unfold relabel reScope
  congr 1
  refine List.map_congr_left fun x _ => ?_
  obtain ⟨n, k⟩ := x
  have : (c.env.scope.kind == ScopeKind.function) = true := by rw [c.fk]; rfl
  simp only [this, Bool.and_true, c.kind]
theorem newEnvComp {M : Model} {A : Around} {E : Value → Shared → Prop} {s : Shared} {scope : Scope} {globals : Addr} {cl : List (Str × Addr)} {qual : Str} {func : Option Addr} {code : Value} {outer : Env} {builtins : Addr} {Q : Env → Shared → Prop}
    (hQ : Q { scope, locals := s.heap.objs.size, globals, cells := cellsFrom (s.heap.objs.size + 1) scope.names cl, qual, func, code := outer.code, frame := outer.frame, builtins := outer.builtins }
      { s with heap := pushCells (s.heap.push { cls := .type "dict", data := .dict #[] }) scope.names }) :
    wpAny M A (newFunctionEnv scope globals cl [] qual func code (some outer) builtins) Q E s := by
  simp only [newFunctionEnv, Option.isSome_some, if_true]
  refine wpAny_bind (wpAny_alloc ?_)
  refine wpAny_bind (wpAny_layCells _ (fun name kind cells => rfl) _ _ _ _ ?_)
  rw [show ({ s with heap := s.heap.push { cls := .type "dict", data := .dict #[] } } : Shared).heap.objs.size = s.heap.objs.size + 1 from Heap.size_push ..]
  simp only [List.forIn_nil]
  exact wpAny_pure hQ
end Mine
end P17
section P18
open PySem PySem.W PyProof.Rows PySem.Calls PySem.Spec
namespace Mine
variable {g : Gl} {Γ : Sta} {lv : Nat}
noncomputable def selfB : It → Bool
  | .list _ _ => true
  | .rng _ _ _ => true
  | .str _ => true
  | .zip _ _ _ => true
  | _ => false
theorem self_ok {c : Cx g Γ} {α : List Addr} {ext own : List (Addr × Obj)} {G gx : List GenState} {st : PS} {s : Shared} {I : Addr} {Q E : Value → Shared → Prop} {x : It} (hs : selfB x = true) (hx : ItOK c G I α own gx x)
    (R : Rel c α (own ++ ext) (G ++ gx) st s) (hQ : Q (.ref I) s) : wpAny (model g.prog g.w) c.A (pyIter (.ref I)) Q E s := by
  cases x with
  | list k i =>
    obtain ⟨rfl, l, o, rfl, hl, hc, hd⟩ := hx
    exact wpAny_pyIter_listiter ⟨o, R.get (p := (I, o)) (List.mem_singleton.mpr rfl), hc, hd⟩ hQ
  | rng x n d =>
    obtain ⟨rfl, rfl⟩ := hx
    exact wpAny_pyIter_rangeiter (x := x) (left := n) (step := d) (R.get (p := (I, _)) (List.mem_singleton.mpr rfl)) hQ
  | str cs =>
    obtain ⟨rfl, o, x, t, i, rfl, hc, hd, rfl⟩ := hx
    exact wpAny_pyIter_striter_ascii ⟨o, R.get (p := (I, o)) (List.mem_singleton.mpr rfl), hc, hd⟩ hQ
  | zip k1 k2 i =>
    obtain ⟨rfl, TI, TO, i1, i2, l1, l2, o1, o2, a, b, rfl, _⟩ := hx
    exact wpAny_pyIter_zip (TI := TI) (TO := TO) (f0 := .none) (R.get (p := (I, _)) List.mem_cons_self) hQ
  | enumL => cases hs
  | rev => cases hs
  | feed => cases hs
noncomputable def UnOK (g : Gl) (Γ : Sta) (lv : Nat) (t : Sem Fin → Value → Env → Sem Fin) (f : Nat → PS → Option PS) : Prop :=
  ∀ (c : Cx g Γ), lv ≤ c.lvl → ∀ α ext G st st' s k acc K (Q : Fin → Shared → Prop) (E : Value → Shared → Prop), f k st = some st' → VOK g.q α (.ref k) acc → Rel c α ext G st s →
    (After c α ext G s st' fun _ s' => wpAny (model g.prog g.w) c.A K Q E s') → wpAny (model g.prog g.w) c.A (t K acc c.env) Q E s
noncomputable def compL (tg : Item → PS → Option PS) (f : PS → Option PS) : Nat → It → PS → Option PS
  | 0, _, _ => .none
  | n + 1, x, st => match nextI x st.ss with
    | .none => .none
    | some .none => some st
    | some (some (i, x')) => match tg i st with
      | .none => .none
      | some st1 => match f st1 with
        | .none => .none
        | some st2 => compL tg f n x' st2
noncomputable def TurnIs (e : Expr) (d : Nat) (target : Expr) (t : Sem Fin → Value → Env → Sem Fin) : Prop :=
  ∃ p : Pos, ∀ it acc env, compTurn e d it acc env = (standAt p >>= fun _ => pyNext it >>= fun r => match r with
      | none => pure (.done .next)
      | some v => letOwnedTupleGo target it v >>= fun _ => assign target env v >>= fun _ => t (again (.compLoop e d it acc env)) acc env)
theorem compLoop_ok {c : Cx g Γ} (hl : lv ≤ c.lvl) {elt target : Expr} {gens : List Comprehension} {scope : Scope} {pos : Pos} {d : Nat} {t : Sem Fin → Value → Env → Sem Fin} {tg : Item → PS → Option PS} {f : Nat → PS → Option PS}
    (heq : TurnIs (.ListComp elt gens scope pos) d target t)
    (ht : TgtOK g Γ target tg) (hb : UnOK g Γ lv t f)
    {I : Addr} {acc : Value} {k : Nat} {R : Result → Shared → Prop} {s₀ : Shared} {α₀ : List Addr} {ext : List (Addr × Obj)} {G : List GenState} {st' : PS} (hacc : VOK g.q α₀ (.ref k) acc)
    (hR : ∀ α' s', α₀ <:+ α' → Rel c α' ext G st' s' → s'.os = s₀.os → R (.ok .next) s')
    {n : Nat} {s : Shared} (hI : ∃ x α own gx st, compL tg (f k) n x st = some st' ∧ ItOK c G I α own gx x ∧ Rel c α (own ++ ext) (G ++ gx) st s ∧ α₀ <:+ α ∧ s.os = s₀.os) :
    codeAny (model g.prog g.w) c.A (.compLoop (.ListComp elt gens scope pos) d (.ref I) acc c.env) R s := by
  obtain ⟨p, heq⟩ := heq
  refine codeAny_loop rfl (fun n s => ∃ x α own gx st, compL tg (f k) n x st = some st' ∧ ItOK c G I α own gx x ∧ Rel c α (own ++ ext) (G ++ gx) st s ∧ α₀ <:+ α ∧ s.os = s₀.os) ?_ n hI
  rintro n s ⟨x, α, own, gx, st, hf, hx, R1, hs, ho1⟩
  show wpAny _ c.A ((compTurn (.ListComp elt gens scope pos) d (.ref I) acc c.env).onRaise (fun x => do noteFrame x c.env; theTreesLotGoes x)) _ _ s
  refine wpAny_noted ?_
  rw [heq]
  refine wpAny_bind (wpAny_standAt (wpAny_bind ?_))
  cases n with
  | zero => cases hf
  | succ n =>
    unfold compL at hf
    split at hf
    · cases hf
    · rename_i e1
      cases hf
      exact next_ok hx R1 e1 fun s' R2 ho2 => wpAny_pure (hR α s' hs R2 (ho2.trans ho1))
    · rename_i i x' e1
      split at hf
      · cases hf
      · rename_i st1 e2
        refine next_ok hx R1 e1 fun w s₁ hgo => ?_
        refine wpAny_bind (hgo _ _ _ (ht.1 _ _ _ e2) fun own' gx' s2 hx' R2 ho2 hi => ?_)
        refine wpAny_bind (ht.2 c α _ _ st st1 s2 i w _ _ e2 R2 hi fun s3 R3 ho3 => ?_)
        split at hf
        · cases hf
        · rename_i st2 e3
          refine hb c hl α _ _ st1 st2 s3 k acc _ _ _ e3 (hacc.mono hs) R3 fun α4 s4 hs4 R4 ho4 => ?_
          exact wpAny_pure ⟨rfl, n, Nat.lt_succ_self n, x', α4, own', gx', st2, hf, hx'.mono hs4, R4, hs.trans hs4, ho4.trans (ho3.trans (ho2.trans ho1))⟩
noncomputable def compS (tg : Item → PS → Option PS) (f : PS → Option PS) (n : Nat) (x : It) (st : PS) : Option PS := match selfB x with
  | true => compL tg f n x st
  | false => .none
theorem compStart_ok {c : Cx g Γ} (hl : lv ≤ c.lvl) {elt target : Expr} {gens : List Comprehension} {gd : Comprehension} {scope : Scope} {pos : Pos} {d : Nat} {t : Sem Fin → Value → Env → Sem Fin} {tg : Item → PS → Option PS} {f : Nat → PS → Option PS}
    (hgd : gens[d]? = some gd) (hga : gd.is_async = 0)
    (heq : TurnIs (.ListComp elt gens scope pos) d target t)
    (ht : TgtOK g Γ target tg) (hb : UnOK g Γ lv t f)
    {I : Addr} {acc : Value} {k : Nat} {R : Result → Shared → Prop} {α : List Addr} {own ext : List (Addr × Obj)} {G gx : List GenState} {st st' : PS} {x : It} (hacc : VOK g.q α (.ref k) acc)
    {n : Nat} {s : Shared} (hf : compS tg (f k) n x st = some st') (hx : ItOK c G I α own gx x) (R1 : Rel c α (own ++ ext) (G ++ gx) st s)
    (hR : ∀ α' s', α <:+ α' → Rel c α' ext G st' s' → s'.os = s.os → R (.ok .next) s') :
    codeAny (model g.prog g.w) c.A (.compStart (.ListComp elt gens scope pos) d (.ref I) acc c.env) R s := by
  unfold compS at hf
  split at hf
  · rename_i hsf
    have h0 : codeAny (model g.prog g.w) c.A (.compLoop (.ListComp elt gens scope pos) d (.ref I) acc c.env) R s :=
      compLoop_ok hl heq ht hb (s₀ := s) (α₀ := α) hacc hR ⟨x, α, own, gx, st, hf, hx, R1, List.suffix_refl _, rfl⟩
    refine codeAny_of_tree ?_
    show wpAny _ _ ((compStart (.ListComp elt gens scope pos) d (.ref I) acc c.env).onRaise (fun x => do noteFrame x c.env; standAt theWindowsPlace)) _ _ s
    refine wpAny_notedAt ?_
    unfold compStart
    have hcl : (clausesOf (.ListComp elt gens scope pos))[d]? = some gd := hgd
    rw [hcl]
    simp only [Option.elim_some, hga, bne_self_eq_false, Bool.false_eq_true, if_false]
    refine wpAny_bind (wpAny_askSetting (wpAny_ite ?_))
    split
    · first
        | exact wpAny_bind (wpAny_pure (wpAny_pure (And.intro rfl h0)))
        | exact wpAny_pure (And.intro rfl h0)
    · refine wpAny_bind (wpAny_rule ?_)
      show wpAny _ _ (standAt gd.iter.pos >>= _) _ _ s
      exact wpAny_bind (wpAny_standAt (wpAny_bind (self_ok hsf hx R1 (wpAny_pure (And.intro rfl h0)))))
  · cases hf
end Mine
end P18
section P19
open PySem PySem.W PyProof.Rows PySem.Calls PySem.Spec
namespace Mine
variable {g : Gl} {Γ : Sta} {lv : Nat}
noncomputable def testsT (ifs : List Expr) (t : Sem Fin → Value → Env → Sem Fin) : Sem Fin → Value → Env → Sem Fin := fun K acc env =>
  (forIn ifs true fun c r => if r = true then do let ok ← isTrue c env (eval c env); pure (ForInStep.yield ok) else pure (ForInStep.yield r)) >>= fun ok => if ok = true then t K acc env else K
noncomputable def emitT (elt : Expr) : Sem Fin → Value → Env → Sem Fin := fun K acc env =>
  (eval elt env >>= fun x => call (.builtin "list.append") [acc, x] >>= fun _ => pure ()) >>= fun _ => K
noncomputable def nestT (e : Expr) (d : Nat) (iter : Expr) : Sem Fin → Value → Env → Sem Fin := fun K acc env => do
  let x ← eval iter env
  standAt iter.pos
  let x ← foldedSetIterable iter env x
  let _ ← runOwn (.compStart e d (← holding [x] (pyIter x)) acc env) env
  K
theorem turn1 (elt target iter : Expr) (ifs : List Expr) (scope : Scope) (pos : Pos) : TurnIs (.ListComp elt [⟨target, iter, ifs, 0⟩] scope pos) 0 target (testsT ifs (emitT elt)) :=
  ⟨iter.pos, fun it acc env => by rfl⟩
theorem turn2b (elt target iter : Expr) (ifs : List Expr) (g1 : Comprehension) (scope : Scope) (pos : Pos) : TurnIs (.ListComp elt [g1, ⟨target, iter, ifs, 0⟩] scope pos) 1 target (testsT ifs (emitT elt)) :=
  ⟨iter.pos, fun it acc env => by rfl⟩
theorem turn2a (elt target iter t2 i2 : Expr) (ifs f2 : List Expr) (scope : Scope) (pos : Pos) : TurnIs (.ListComp elt [⟨target, iter, ifs, 0⟩, ⟨t2, i2, f2, 0⟩] scope pos) 0 target (testsT ifs (nestT (.ListComp elt [⟨target, iter, ifs, 0⟩, ⟨t2, i2, f2, 0⟩] scope pos) 1 i2)) :=
  ⟨iter.pos, fun it acc env => by rfl⟩
end Mine
end P19
section P20
open PySem PySem.W PyProof.Rows PySem.Calls PySem.Spec
namespace Mine
variable {g : Gl} {Γ : Sta} {lv : Nat}
noncomputable def emitF (f : PS → Option (MV × PS)) (k : Nat) : PS → Option PS := fun st => match f st with
  | .none => .none
  | some (v, st1) => match appendM [.ref k, v] st1.ss with
    | .none => .none
    | some (_, ss) => some { st1 with ss := ss }
theorem UnOK.emit {elt : Expr} {f : PS → Option (MV × PS)} (h : EvOK g Γ lv elt f) : UnOK g Γ lv (emitT elt) (emitF f) := by
  intro c hl α ext G st st' s k acc K Q E hf hacc R hQ
  unfold emitF at hf
  split at hf
  · cases hf
  rename_i v st1 e1
  split at hf
  · cases hf
  rename_i r ss e2
  cases hf
  refine wpAny_bind (wpAny_bind (h c hl α ext G st v st1 s _ E e1 R fun w α1 s1 hs1 R1 ho1 hv => wpAny_bind ?_))
  refine append_ok Γ c hl α1 ext G st1 _ [acc, w] _ ss s1 _ E e2 (.cons (hacc.mono hs1) (.cons hv .nil)) R1 fun w2 α2 s2 hs2 R2 ho2 _ => wpAny_pure ?_
  exact hQ α2 s2 (hs1.trans hs2) R2 (ho2.trans ho1)
theorem UnOK.test0 {t : Sem Fin → Value → Env → Sem Fin} {f : Nat → PS → Option PS} (h : UnOK g Γ lv t f) : UnOK g Γ lv (testsT [] t) f := by
  intro c hl α ext G st st' s k acc K Q E hf hacc R hQ
  refine wpAny_bind (wpAny_tests_nil ?_)
  simp only [if_true]
  exact h c hl α ext G st st' s k acc K Q E hf hacc R hQ
noncomputable def tstF (tf : PS → Option (Bool × PS)) (f : Nat → PS → Option PS) (k : Nat) : PS → Option PS := fun st => match tf st with
  | .none => .none
  | some (true, st1) => f k st1
  | some (false, st1) => some st1
theorem UnOK.test1 {x : Expr} {tf : PS → Option (Bool × PS)} {t : Sem Fin → Value → Env → Sem Fin} {f : Nat → PS → Option PS} (ht : IsOK g Γ lv x tf) (h : UnOK g Γ lv t f) : UnOK g Γ lv (testsT [x] t) (tstF tf f) := by
  intro c hl α ext G st st' s k acc K Q E hf hacc R hQ
  unfold tstF at hf
  split at hf
  · cases hf
  · rename_i st1 e1
    refine wpAny_bind (wpAny_tests_one (ht c hl α ext G st true st1 s _ E e1 R fun α1 s1 hs1 R1 ho1 => ?_))
    simp only [if_true]
    exact h c hl α1 ext G st1 st' s1 k acc K Q E hf (hacc.mono hs1) R1 fun α2 s2 hs2 R2 ho2 => hQ α2 s2 (hs1.trans hs2) R2 (ho2.trans ho1)
  · rename_i st1 e1
    cases hf
    refine wpAny_bind (wpAny_tests_one (ht c hl α ext G st false _ s _ E e1 R fun α1 s1 hs1 R1 ho1 => ?_))
    simp only [Bool.false_eq_true, if_false]
    exact hQ α1 s1 hs1 R1 ho1
noncomputable def nestF (fuel : Nat) (it : PS → Option (It × PS)) (tg : Item → PS → Option PS) (f : Nat → PS → Option PS) (k : Nat) : PS → Option PS := fun st => match it st with
  | .none => .none
  | some (x, st1) => compS tg (f k) fuel x st1
theorem UnOK.nest {elt target iter : Expr} {gens : List Comprehension} {gd : Comprehension} {scope : Scope} {pos : Pos} {d : Nat} {t : Sem Fin → Value → Env → Sem Fin} {it : PS → Option (It × PS)} {tg : Item → PS → Option PS} {f : Nat → PS → Option PS} (fuel : Nat)
    (hgd : gens[d]? = some gd) (hga : gd.is_async = 0) (heq : TurnIs (.ListComp elt gens scope pos) d target t) (hi : IterOK g Γ lv iter it) (hs : ∀ env x, foldedSetIterable iter env x = pure x)
    (ht : TgtOK g Γ target tg) (hb : UnOK g Γ lv t f) : UnOK g Γ lv (nestT (.ListComp elt gens scope pos) d iter) (nestF fuel it tg f) := by
  intro c hl α ext G st st' s k acc K Q E hf hacc R hQ
  unfold nestF at hf
  split at hf
  · cases hf
  rename_i x st1 e1
  refine wpAny_bind (wpAny_mono (hi c hl α ext G st x st1 s _ E e1 R fun I own gx α1 s1 hs1 R1 ho1 hx => ?_) (fun xv s₁ h₁ => wpAny_bind (wpAny_standAt (wpAny_bind (wpAny_of_eq (hs _ _) (wpAny_bind (wpAny_holding h₁)))))) fun _ _ h => h)
  refine wpAny_bind (wpAny_runOwn (compStart_ok hl hgd hga heq ht hb (hacc.mono hs1) hf hx R1 fun α2 s2 hs2 R2 ho2 => ?_))
  exact hQ α2 s2 (hs1.trans hs2) R2 (ho2.trans ho1)
/-! the block of a comprehension -/
noncomputable def pick : List Nat → List Nat → Option (List Nat)
  | [], _ => some []
  | j :: mp, cel => match cel[j]? with
    | .none => .none
    | some k => match pick mp cel with
      | .none => .none
      | some ks => some (k :: ks)
theorem pick_get {cel : List Nat} : ∀ {mp ks : List Nat}, pick mp cel = some ks → ∀ (i k : Nat), ks[i]? = some k → ∃ j, mp[i]? = some j ∧ cel[j]? = some k
  | [], ks, h, i, k, e => by cases h; simp at e
  | j :: mp, ks, h, i, k, e => by
    unfold pick at h
    split at h
    · cases h
    rename_i k' e1
    split at h
    · cases h
    rename_i ks' e2
    cases h
    cases i with
    | zero => simp at e; subst e; exact ⟨j, rfl, e1⟩
    | succ i =>
      obtain ⟨j', h1, h2⟩ := pick_get e2 i k (by simpa using e)
      exact ⟨j', by simpa using h1, h2⟩
theorem pick_has {cel : List Nat} : ∀ {mp ks : List Nat}, pick mp cel = some ks → ∀ (i j : Nat), mp[i]? = some j → ∃ k, cel[j]? = some k
  | [], ks, h, i, j, e => by simp at e
  | j :: mp, ks, h, i, j', e => by
    unfold pick at h
    split at h
    · cases h
    rename_i k' e1
    split at h
    · cases h
    rename_i ks' e2
    cases h
    cases i with
    | zero => simp at e; subst e; exact ⟨k', e1⟩
    | succ i => exact pick_has e2 i j' (by simpa using e)
noncomputable def CellsAs (names : List (Str × NameKind)) : Option Str → Prop
  | .none => (∀ h, pushCells h names = h) ∧ ∀ n acc, cellsFrom n names acc = acc
  | some x => (∀ h, pushCells h names = h.push { cls := .type "cell", data := .cell none }) ∧ ∀ n acc, cellsFrom n names acc = (x, n) :: acc
noncomputable def subSta (Γ : Sta) (scope : Scope) (own : Option Str) (ln fn : List Str) : Sta := ⟨ln, own.toList ++ fn, reScope scope Γ.scope⟩
noncomputable def inner (own : Bool) (nl : Nat) (cs : List Nat) (ss : SS) : PS := match own with
  | true => ⟨List.replicate nl .none, (ss.n + 1) :: cs, ⟨ss.n + 2, .cell .none :: .list [] :: ss.sto⟩⟩
  | false => ⟨List.replicate nl .none, cs, ⟨ss.n + 1, .list [] :: ss.sto⟩⟩
noncomputable def compF (own : Bool) (nl : Nat) (mp : List Nat) (fuel : Nat) (it : PS → Option (It × PS)) (tg : Item → PS → Option PS) (f : Nat → PS → Option PS) : PS → Option (MV × PS) := fun st => match pick mp st.cel with
  | .none => .none
  | some _ => match it st with
   | .none => .none
   | some (x, st1) => match pick mp st1.cel with
    | .none => .none
    | some cs => match compS tg (f st1.ss.n) fuel x (inner own nl cs st1.ss) with
      | .none => .none
      | some st3 => some (.ref st1.ss.n, ⟨st1.loc, st1.cel, st3.ss⟩)
theorem ItOK.move {Γ' : Sta} {c : Cx g Γ} {c' : Cx g Γ'} {G G' : List GenState} {I : Addr} {α : List Addr} {own : List (Addr × Obj)} {gx : List GenState} {x : It} (hs : selfB x = true) (h : ItOK c G I α own gx x) : ItOK c' G' I α own gx x := by
  cases x <;> first | exact h | cases hs
theorem swap_nodup {β : Type} {a b c d : List β} (h : (a ++ (b ++ (c ++ d))).Nodup) : (a ++ (c ++ (b ++ d))).Nodup := by
  refine (List.Perm.nodup_iff ?_).mp h
  refine List.Perm.append_left a ?_
  rw [← List.append_assoc, ← List.append_assoc]
  exact List.Perm.append_right d List.perm_append_comm
end Mine
end P20
section P21
open PySem PySem.W PyProof.Rows PySem.Calls PySem.Spec
namespace Mine
variable {g : Gl} {Γ : Sta} {lv : Nat}
/-- what is asked of the scope of a comprehension -/
structure CompSc (Γ : Sta) (scope : Scope) (own : Option Str) (ln fn : List Str) (mp : List Nat) : Prop where
  hk : scope.kind = .function
  hfree : ∀ x ∈ scope.names, x.2 = .free → x.1 ∈ fn
  hfn : ∀ x ∈ fn, (x, NameKind.free) ∈ scope.names
  hmp : mp.map (fun j => Γ.cnames[j]?) = fn.map some
  hcells : CellsAs scope.names own
  hown : ∀ x, own = some x → x ∉ fn
  hnames : ∀ x ∈ scope.names, x.2 = .local → scope.names.lookup x.1 = some .local
theorem CompSc.at {scope : Scope} {own : Option Str} {ln fn : List Str} {mp : List Nat} (S : CompSc Γ scope own ln fn mp) {i : Nat} {y : Str} (h : fn[i]? = some y) : ∃ j, mp[i]? = some j ∧ Γ.cnames[j]? = some y := by
  have := congrArg (fun l => l[i]?) S.hmp
  simp only [List.getElem?_map, h, Option.map_some] at this
  cases hm : mp[i]? with
  | none => rw [hm] at this; cases this
  | some j => rw [hm] at this; exact ⟨j, rfl, by simpa using this⟩
theorem isSome_of_pick {c : Cx g Γ} {scope : Scope} {own : Option Str} {ln fn : List Str} {mp cs : List Nat} (S : CompSc Γ scope own ln fn mp) {α : List Addr} {st : PS} (hp : pick mp st.cel = some cs) (hce : CelOK α Γ.cnames c.env.cells st.cel) :
    ∀ x ∈ scope.names, x.2 = .free → (c.env.cells.lookup x.1).isSome = true := by
  intro x hx hf
  obtain ⟨i, hi⟩ := List.mem_iff_getElem?.mp (S.hfree x hx hf)
  obtain ⟨j, h1, h2⟩ := S.at hi
  obtain ⟨k, h3⟩ := pick_has hp i j h1
  obtain ⟨a, h4, _⟩ := hce j x.1 k h2 h3
  rw [h4]; rfl
theorem nodup_new {news : List (Addr × Obj)} {l : Addr} {o : Obj} (h : ∀ p ∈ news, p.1 < l) (nd : (news.map (·.1)).Nodup) : (((l, o) :: news).map (·.1)).Nodup := by
  rw [List.map_cons, List.nodup_cons]
  refine ⟨fun hm => ?_, nd⟩
  obtain ⟨p, hp, e⟩ := List.mem_map.mp hm
  exact Nat.lt_irrefl _ (e ▸ h p hp)
noncomputable def dictO : Obj := { cls := .type "dict", data := .dict #[] }
theorem dictO_facts : ∃ es ep, dictO.data = .dict es ep ∧ StrKeys es ∧ ∀ name, nsFind es name = none := by
  obtain ⟨o, es, ep, h1, h2, h3, h4⟩ := Heap.Ns.new (h := ({ objs := #[] } : Heap)) (.type "dict")
  have : o = dictO := by
    have := Heap.get?_push_size (h := ({ objs := #[] } : Heap)) (o := dictO) rfl
    exact Option.some.inj (h1.symm.trans this)
  subst this
  exact ⟨es, ep, h2, h3, h4⟩
end Mine
end P21
section P22
open PySem PySem.W PyProof.Rows PySem.Calls PySem.Spec
namespace Mine
variable {g : Gl} {Γ : Sta} {lv : Nat}
noncomputable def innerCx (c : Cx g Γ) (scope : Scope) (own : Option Str) (ln fn : List Str) (hk : scope.kind = .function) (m : Str → Option Value) (C : Addr) (cells : List (Str × Addr)) (qual : Str) : Cx g (subSta Γ scope own ln fn) where
  A := c.A
  A₀ := c.A₀
  base := c.base
  outer := c.outer
  env := { scope := reScope scope Γ.scope, locals := C, globals := c.env.globals, cells := cells, qual := qual, func := .none, code := c.env.code, frame := c.env.frame, builtins := builtinsNs }
  fenv := c.fenv
  h₀ := c.h₀
  L := c.L
  blk := some C
  lvl := c.lvl
  bm := m
  hA := c.hA
  hh := c.hh
  hff := c.hff
  hfk := c.hfk
  hfl := fun e => nomatch e
  hbl := fun a e => by cases e; rfl
  below := c.below
  hscope := rfl
  hkind := hk
  hglob := c.hglob
  hblt := rfl
  hB := c.hB
  hdep := c.hdep
  hun := c.hun
section
variable {c : Cx g Γ} {α : List Addr} {ext own : List (Addr × Obj)} {G : List GenState} {st : PS} {s : Shared} {m : Str → Option Value} {led bl : List (Addr × Obj)}
theorem perm1 {β : Type} {led bl own ext : List β} {d l : β} : List.Perm (l :: (led ++ ([d] ++ (own ++ (bl ++ ext))))) (d :: l :: (led ++ (bl ++ (own ++ ext)))) := by
  have h1 : List.Perm (led ++ ([d] ++ (own ++ (bl ++ ext)))) (d :: (led ++ (own ++ (bl ++ ext)))) := List.perm_middle
  have h2 : List.Perm (led ++ (own ++ (bl ++ ext))) (led ++ (bl ++ (own ++ ext))) := by
    refine List.Perm.append_left _ ?_
    rw [← List.append_assoc, ← List.append_assoc]
    exact List.Perm.append_right _ List.perm_append_comm
  exact ((h1.trans (h2.cons d)).cons l).trans (List.Perm.swap ..)
theorem celok_inner {scope : Scope} {onm : Option Str} {ln fn : List Str} {mp cs : List Nat} (S : CompSc Γ scope onm ln fn mp) (hp : pick mp st.cel = some cs) (hce : CelOK α Γ.cnames c.env.cells st.cel) :
    ∀ (i : Nat) (y : Str) (k : Nat), fn[i]? = some y → cs[i]? = some k → ∃ a, (closL c.env.cells scope.names []).lookup y = some a ∧ fromEnd α.length α k = some a := by
  intro i y k hy hk
  obtain ⟨j, h1, h2⟩ := S.at hy
  obtain ⟨j', h3, h4⟩ := pick_get hp i k hk
  rw [h1] at h3; cases h3
  obtain ⟨a, h5, h6⟩ := hce j y k h2 h4
  refine ⟨a, ?_, h6⟩
  rw [closL_eq (isSome_of_pick S hp hce) (S.hfn y (List.mem_of_getElem? hy))]
  exact h5
/-- the state in which the block begins -/
theorem inner_start {scope : Scope} {onm : Option Str} {ln fn : List Str} {mp cs : List Nat} (S : CompSc Γ scope onm ln fn mp) (R : RelX c α (own ++ ext) G st s m led bl) (hp : pick mp st.cel = some cs)
    {l : Addr} {h' : Heap} (hl : l = s.heap.objs.size) (F : Fr c.h₀ c.L h' m) (N : News c.h₀ c.L h' ((l, listOf #[] 0) :: (led ++ (bl ++ (own ++ ext))))) (qual : Str) :
    ∃ α', α <:+ α' ∧ VOK g.q α' (.ref st.ss.n) (.ref l) ∧
      Rel (innerCx c scope onm ln fn S.hk m h'.objs.size (cellsFrom (h'.objs.size + 1) scope.names (closL c.env.cells scope.names [])) qual) α' (own ++ (bl ++ ext)) G (inner onm.isSome ln.length cs st.ss)
        { s with heap := pushCells (h'.push dictO) scope.names } := by
  have F1 := Fr.push F dictO
  have N1 := News.push F N dictO
  have blt : ∀ p ∈ led ++ (bl ++ (own ++ ext)), p.1 < l := fun p hp => hl ▸ Heap.lt_size (R.N p hp).1
  have nd1 := nodup_new (o := dictO) (l := h'.objs.size) (News.below N) (nodup_new (o := listOf #[] 0) blt R.nd)
  have s1 : α <:+ l :: α := List.suffix_cons _ _
  have hlen : (l :: α).length = st.ss.n + 1 := by rw [List.length_cons, ← R.la, List.length_map, R.lo.length, R.nn]
  have hloc : ∀ α'', LocOK g.q α'' ln (fun _ => .none) (List.replicate ln.length .none) := fun α'' i x v _ hv => by
    have := List.mem_of_getElem? hv
    rw [List.mem_replicate] at this
    cases this.2
  obtain ⟨es, ep, d1, d2, d3⟩ := dictO_facts
  have hacc : VOK g.q (l :: α) (.ref st.ss.n) (.ref l) := Rel.ref R l
  cases onm with
  | none =>
    obtain ⟨hc1, hc2⟩ := S.hcells
    refine ⟨l :: α, s1, hacc, m, (l, listOf #[] 0) :: led, [(h'.objs.size, dictO)], ?_⟩
    rw [hc1, hc2]
    have P := perm1 (led := led) (bl := bl) (own := own) (ext := ext) (d := (h'.objs.size, dictO)) (l := (l, listOf #[] 0))
    exact {
      F := F1
      N := fun p hp => N1 p (P.mem_iff.mp hp)
      nd := (P.map _).nodup_iff.mpr nd1
      la := by rw [List.map_cons, R.la]
      lo := .cons ⟨[], 0, rfl, .nil⟩ (R.lo.mono s1)
      nn := by show st.ss.n + 1 = _; rw [R.nn]; rfl
      bk := ⟨rfl, dictO, es, ep, _, rfl, d1, d2, d3, hloc _⟩
      ce := fun i y k hy hk => by
        obtain ⟨a, e1, e2⟩ := celok_inner S hp R.ce i y k hy hk
        exact ⟨a, e1, fromEnd_mono s1 e2⟩
      ge := R.ge, ba := R.ba, tb := R.tb.trans s1, tk := R.tk }
  | some x =>
    obtain ⟨hc1, hc2⟩ := S.hcells
    have hz : (h'.push dictO).objs.size = h'.objs.size + 1 := Heap.size_push ..
    have F2 := Fr.push F1 { cls := .type "cell", data := .cell .none }
    have N2 := News.push F1 N1 { cls := .type "cell", data := .cell .none }
    have nd2 := nodup_new (o := { cls := .type "cell", data := .cell .none }) (l := (h'.push dictO).objs.size) (News.below N1) nd1
    have s2 : l :: α <:+ (h'.push dictO).objs.size :: l :: α := List.suffix_cons _ _
    refine ⟨(h'.push dictO).objs.size :: l :: α, s1.trans s2, hacc.mono s2, m, ((h'.push dictO).objs.size, { cls := .type "cell", data := .cell .none }) :: (l, listOf #[] 0) :: led, [(h'.objs.size, dictO)], ?_⟩
    rw [hc1, hc2, ← hz]
    have P := (perm1 (led := led) (bl := bl) (own := own) (ext := ext) (d := (h'.objs.size, dictO)) (l := (l, listOf #[] 0))).cons ((h'.push dictO).objs.size, ({ cls := .type "cell", data := .cell .none } : Obj))
    exact {
      F := F2
      N := fun p hp => N2 p (P.mem_iff.mp hp)
      nd := (P.map _).nodup_iff.mpr nd2
      la := by rw [List.map_cons, List.map_cons, R.la]
      lo := .cons rfl (.cons ⟨[], 0, rfl, .nil⟩ (R.lo.mono (s1.trans s2)))
      nn := by show st.ss.n + 2 = _; rw [R.nn]; rfl
      bk := ⟨rfl, dictO, es, ep, _, rfl, d1, d2, d3, hloc _⟩
      ce := fun i y k hy hk => by
        cases i with
        | zero =>
          cases hy
          cases hk
          refine ⟨(h'.push dictO).objs.size, ?_, ?_⟩
          · show List.lookup x ((x, _) :: _) = _
            rw [List.lookup_cons, beq_self_eq_true]
          · show fromEnd ((h'.push dictO).objs.size :: l :: α).length _ (st.ss.n + 1) = _
            rw [List.length_cons, hlen]
            exact fromEnd_new _ _ _
        | succ i =>
          have hy' : fn[i]? = some y := by simpa [subSta] using hy
          obtain ⟨a, e1, e2⟩ := celok_inner S hp R.ce i y k hy' (by simpa [inner] using hk)
          refine ⟨a, ?_, fromEnd_mono (s1.trans s2) e2⟩
          show List.lookup y ((x, _) :: _) = _
          have : (y == x) = false := by
            refine beq_eq_false_iff_ne.mpr fun e => S.hown x rfl ?_
            rw [← e]; exact List.mem_of_getElem? hy'
          rw [List.lookup_cons, this]
          exact e1
      ge := R.ge, ba := R.ba, tb := R.tb.trans (s1.trans s2), tk := R.tk }
/-- and the one after it, seen from around -/
theorem inner_end {scope : Scope} {onm : Option Str} {ln fn : List Str} {hk : scope.kind = .function} {C : Addr} {cells : List (Str × Addr)} {qual : Str} {s' : Shared} {α' : List Addr} {st3 : PS} {ownR : List (Addr × Obj)} {G₀ : List GenState}
    (R : RelX c α (ownR) G₀ st s m led bl) (hs : α <:+ α') (R1 : Rel (innerCx c scope onm ln fn hk m C cells qual) α' (bl ++ ext) G st3 s') :
    ∃ (o : Obj) (es : Array DictEntry) (ep : Nat) (m₁ : Str → Option Value), Rel c α' ([(C, o)] ++ ext) G ⟨st.loc, st.cel, st3.ss⟩ s' ∧ s'.heap.get? C = some o ∧ o.data = .dict es ep ∧ StrKeys es ∧ ∀ n, nsFind es n = m₁ n := by
  obtain ⟨m', led1, bl1, R1⟩ := R1
  obtain ⟨rfl, o, es, ep, m₁, rfl, h1, h2, h3, _⟩ := R1.bk
  have P : List.Perm (led1 ++ (bl ++ ([(C, o)] ++ ext))) (led1 ++ ([(C, o)] ++ (bl ++ ext))) := by
    refine List.Perm.append_left _ ?_
    rw [← List.append_assoc, ← List.append_assoc]
    exact List.Perm.append_right _ List.perm_append_comm
  refine ⟨o, es, ep, m₁, ⟨_, led1, bl, R1.F, fun p hp => R1.N p (P.mem_iff.mp hp), (P.map _).nodup_iff.mpr R1.nd, R1.la, R1.lo, R1.nn, R.bk.mono hs, R.ce.mono hs, R1.ge, R1.ba, R1.tb, R1.tk⟩, (R1.N (C, o) (by simp)).1, h1, h2, h3⟩
end
end Mine
end P22
section P23
open PySem PySem.W PyProof.Rows PySem.Calls PySem.Spec
namespace Mine
variable {g : Gl} {Γ : Sta} {lv : Nat}
theorem compS_self {tg : Item → PS → Option PS} {f : PS → Option PS} {n : Nat} {x : It} {st st' : PS} (h : compS tg f n x st = some st') : selfB x = true := by
  unfold compS at h
  split at h
  · assumption
  · cases h
theorem comp_core {c : Cx g Γ} (hl : lv ≤ c.lvl) {elt target : Expr} {gens : List Comprehension} {gd : Comprehension} {scope : Scope} {pos : Pos} {t : Sem Fin → Value → Env → Sem Fin} {tg : Item → PS → Option PS} {f : Nat → PS → Option PS}
    {onm : Option Str} {ln fn : List Str} {mp cs : List Nat} (S : CompSc Γ scope onm ln fn mp) (hgd : gens[0]? = some gd) (hga : gd.is_async = 0) (heq : TurnIs (.ListComp elt gens scope pos) 0 target t)
    (ht : TgtOK g (subSta Γ scope onm ln fn) target tg) (hb : UnOK g (subSta Γ scope onm ln fn) lv t f)
    {I : Addr} {α : List Addr} {own ext : List (Addr × Obj)} {G gx : List GenState} {st st3 : PS} {x : It} {n : Nat} {s : Shared} {POST : Value → Addr → Result → Shared → Prop} {E : Value → Shared → Prop}
    (hp : pick mp st.cel = some cs) (hf : compS tg (f st.ss.n) n x (inner onm.isSome ln.length cs st.ss) = some st3) (hx : ItOK c G I α own gx x) (R : Rel c α (own ++ ext) (G ++ gx) st s)
    (hend : ∀ acc C o es ep (m₁ : Str → Option Value) α' s', α <:+ α' → VOK g.q α' (.ref st.ss.n) acc → Rel c α' ([(C, o)] ++ ext) G ⟨st.loc, st.cel, st3.ss⟩ s' → s'.os = s.os → s'.heap.get? C = some o → o.data = .dict es ep → StrKeys es → (∀ n, nsFind es n = m₁ n) → POST acc C (.ok .next) s') :
    wpAny (model g.prog g.w) c.A (newList []) (fun acc s₃ => wpAny (model g.prog g.w) c.A (newFunctionEnv scope c.env.globals (closL c.env.cells scope.names []) [] c.env.qual .none .none (some c.env)) (fun cenv s₄ =>
      codeAny (model g.prog g.w) c.A (.compStart (.ListComp elt gens scope pos) 0 (.ref I) acc { cenv with scope := relabel scope c.env }) (POST acc cenv.locals) s₄) E s₃) E s := by
  obtain ⟨m, led, bl, R⟩ := R
  refine newList_N R.F R.N (fun h' F' N' => ?_)
  refine newEnvComp ?_
  obtain ⟨α2, hs2, hacc, R2⟩ := inner_start S R hp (l := s.heap.objs.size) rfl F' N' c.env.qual
  have henv : ({ scope := relabel scope c.env, locals := h'.objs.size, globals := c.env.globals, cells := cellsFrom (h'.objs.size + 1) scope.names (closL c.env.cells scope.names []), qual := c.env.qual, func := .none, code := c.env.code, frame := c.env.frame, builtins := c.env.builtins } : Env) =
      (innerCx c scope onm ln fn S.hk m h'.objs.size (cellsFrom (h'.objs.size + 1) scope.names (closL c.env.cells scope.names [])) c.env.qual).env := by
    rw [relabel_eq, c.hblt]; rfl
  show codeAny _ _ (.compStart _ 0 _ _ { scope := relabel scope c.env, locals := h'.objs.size, globals := c.env.globals, cells := cellsFrom (h'.objs.size + 1) scope.names (closL c.env.cells scope.names []), qual := c.env.qual, func := .none, code := c.env.code, frame := c.env.frame, builtins := c.env.builtins }) (POST _ h'.objs.size) _
  rw [henv]
  have hx2 := (hx.mono hs2).move (c' := innerCx c scope onm ln fn S.hk m h'.objs.size (cellsFrom (h'.objs.size + 1) scope.names (closL c.env.cells scope.names [])) c.env.qual) (G' := G) (compS_self hf)
  refine compStart_ok (c := innerCx c scope onm ln fn S.hk m h'.objs.size (cellsFrom (h'.objs.size + 1) scope.names (closL c.env.cells scope.names [])) c.env.qual) hl hgd hga heq ht hb hacc hf hx2 R2 fun α3 s3 hs3 R3 ho3 => ?_
  obtain ⟨o, es, ep, m₁, R4, h1, h2, h3, h4⟩ := inner_end R (hs2.trans hs3) R3
  exact hend _ _ o es ep m₁ α3 s3 (hs2.trans hs3) (hacc.mono hs3) R4 ho3 h1 h2 h3 h4
end Mine
end P23
section P24
open PySem PySem.W PyProof.Rows PySem.Calls PySem.Spec
namespace Mine
variable {g : Gl} {Γ : Sta} {lv : Nat}
theorem compF_some {own : Bool} {nl : Nat} {mp : List Nat} {fuel : Nat} {it : PS → Option (It × PS)} {tg : Item → PS → Option PS} {f : Nat → PS → Option PS} {st st' : PS} {v : MV} (h : compF own nl mp fuel it tg f st = some (v, st')) :
    ∃ cs0 x st1 cs st3, pick mp st.cel = some cs0 ∧ it st = some (x, st1) ∧ pick mp st1.cel = some cs ∧ compS tg (f st1.ss.n) fuel x (inner own nl cs st1.ss) = some st3 ∧ v = .ref st1.ss.n ∧ st' = ⟨st1.loc, st1.cel, st3.ss⟩ := by
  unfold compF at h
  split at h
  · cases h
  rename_i cs0 e0
  split at h
  · cases h
  rename_i x st1 e1
  split at h
  · cases h
  rename_i cs e2
  split at h
  · cases h
  rename_i st3 e3
  cases h
  exact ⟨cs0, x, st1, cs, st3, e0, e1, e2, e3, rfl, rfl⟩
theorem EvOK.comp {elt target iter : Expr} {ifs : List Expr} {gs : List Comprehension} {scope : Scope} {pos : Pos} {t : Sem Fin → Value → Env → Sem Fin} {it : PS → Option (It × PS)} {tg : Item → PS → Option PS} {f : Nat → PS → Option PS}
    {onm : Option Str} {ln fn : List Str} {mp : List Nat} (fuel : Nat) (S : CompSc Γ scope onm ln fn mp) (hi : IterOK g Γ lv iter it) (hs : ∀ env x, foldedSetIterable iter env x = pure x)
    (heq : TurnIs (.ListComp elt (⟨target, iter, ifs, 0⟩ :: gs) scope pos) 0 target t)
    (ht : TgtOK g (subSta Γ scope onm ln fn) target tg) (hb : UnOK g (subSta Γ scope onm ln fn) lv t f) :
    EvOK g Γ lv (.ListComp elt (⟨target, iter, ifs, 0⟩ :: gs) scope pos) (compF onm.isSome ln.length mp fuel it tg f) := by
  intro c hl α ext G st v st' s Q E hf R hQ
  obtain ⟨cs0, x, st1, cs, st3, e0, e1, e2, e3, rfl, rfl⟩ := compF_some hf
  rw [eval_ListComp]
  obtain ⟨m, led, bl, R'⟩ := id R
  refine wpAny_comprehension_free (use := .none) rfl (hs _) (closureFor_eq (isSome_of_pick S e0 R'.ce)) S.hk S.hnames ?_
  refine hi c hl α ext G st x st1 s _ E e1 R fun I own gx α1 s1 hs1 R1 ho1 hx => ?_
  refine comp_core (POST := fun acc C => compPost (model g.prog g.w) c.A E .none Q acc C) hl S rfl rfl heq ht hb e2 e3 hx R1 fun acc C o es ep m₁ α2 s2 hs2 hacc R2 ho2 h1 h2 h3 h4 => ?_
  refine ⟨m₁, ⟨o, es, ep, h1, h2, h3, h4⟩, fun h' hsb => ?_⟩
  refine hQ acc α2 _ (hs1.trans hs2) (R2.app.drop (fun b ob hb e => (hsb.2 b (hb (C, o) (List.mem_singleton.mpr rfl))).trans e) R2.pos) (ho2.trans ho1) hacc
/-- a comprehension that goes to a local name at once -/
theorem ExOK.asgComp {elt target iter : Expr} {ifs : List Expr} {gs : List Comprehension} {scope : Scope} {pos spos : Pos} {t : Sem Fin → Value → Env → Sem Fin} {it : PS → Option (It × PS)} {tg : Item → PS → Option PS} {f : Nat → PS → Option PS}
    {onm : Option Str} {ln fn : List Str} {mp : List Nat} (fuel : Nat) (S : CompSc Γ scope onm ln fn mp) (hi : IterOK g Γ lv iter it) (hs : ∀ env x, foldedSetIterable iter env x = pure x)
    (heq : TurnIs (.ListComp elt (⟨target, iter, ifs, 0⟩ :: gs) scope pos) 0 target t)
    (ht : TgtOK g (subSta Γ scope onm ln fn) target tg) (hb : UnOK g (subSta Γ scope onm ln fn) lv t f)
    {y : Str} {py : Pos} {i : Nat} (hn : Γ.names[i]? = some y) (hnd : Γ.names.Nodup) (hk : Γ.scope.names.lookup y = some .local)
    (hsw : ∀ env, env.scope = Γ.scope → swapsWith (.ListComp elt (⟨target, iter, ifs, 0⟩ :: gs) scope pos) (some (.Name y py)) spos.line env = pure true) :
    ExOK g Γ lv (.Assign [.Name y py] (.ListComp elt (⟨target, iter, ifs, 0⟩ :: gs) scope pos) spos) (asgF (compF onm.isSome ln.length mp fuel it tg f) i) := by
  intro c hl α ext G st v st' s Q E hf R hQ
  unfold asgF at hf
  split at hf
  · cases hf
  rename_i v1 st1' e1'
  cases hf
  obtain ⟨cs0, x, st1, cs, st3, e0, e1, e2, e3, rfl, rfl⟩ := compF_some e1'
  rw [exec_Assign_Name_used _ _ _ _ (hsw c.env c.hscope)]
  refine wpAny_bind (wpAny_standAt (wpAny_bind ?_))
  show wpAny _ _ (do let _ ← comprehension (.ListComp elt (⟨target, iter, ifs, 0⟩ :: gs) scope pos) scope c.env _ (newList []) false (eval iter c.env) (some (assign (.Name y py) c.env))) _ _ s
  obtain ⟨m, led, bl, R'⟩ := id R
  refine wpAny_bind (wpAny_mono (wpAny_comprehension_free (use := some (assign (.Name y py) c.env)) (Q := fun _ s' => Q .next s') rfl (hs _) (closureFor_eq (isSome_of_pick S e0 R'.ce)) S.hk S.hnames ?_) (fun _ s' hq => wpAny_pure (wpAny_pure hq)) fun _ _ e => e)
  refine hi c hl α ext G st x st1 s _ E e1 R fun I own gx α1 s1 hs1 R1 ho1 hx => ?_
  refine comp_core (POST := fun acc C => compPost (model g.prog g.w) c.A E (some (assign (.Name y py) c.env)) (fun _ s' => Q .next s') acc C) hl S rfl rfl heq ht hb e2 e3 hx R1 fun acc C o es ep m₁ α2 s2 hs2 hacc R2 ho2 h1 h2 h3 h4 => ?_
  show wpAny _ c.A (assign (.Name y py) c.env acc) _ E s2
  refine wpAny_assign_Name (R2.store hn hnd hk hacc fun s3 R3 ho3 => ?_)
  have hC : s3.heap.get? C = some o := R3.get (own := [(C, o)]) (List.mem_singleton.mpr rfl)
  refine ⟨m₁, ⟨o, es, ep, hC, h2, h3, h4⟩, fun h' hsb => ?_⟩
  exact hQ .next α2 _ (hs1.trans hs2) (R3.app.drop (fun b ob hb e => (hsb.2 b (hb (C, o) (List.mem_singleton.mpr rfl))).trans e) R3.pos) (ho3.trans (ho2.trans ho1)) trivial
end Mine
end P24
section P25
open PySem PySem.W PyProof.Rows PySem.Calls PySem.Spec
namespace Mine
variable {g : Gl} {Γ : Sta} {lv : Nat}
/-! a call of a def with cells of its own -/
noncomputable def cellUp : List Str → Nat → List (Str × Addr)
  | [], _ => []
  | x :: xs, n => (x, n) :: cellUp xs (n + 1)
theorem cellUp_get : ∀ {cn : List Str} {n i : Nat} {x : Str}, cn[i]? = some x → (cellUp cn n)[i]? = some (x, n + i)
  | [], _, _, _, h => by simp at h
  | y :: cn, n, 0, x, h => by simp at h; subst h; rfl
  | y :: cn, n, i + 1, x, h => by
    have := cellUp_get (n := n + 1) (i := i) (x := x) (by simpa using h)
    show (cellUp cn (n + 1))[i]? = _
    rw [this, Nat.add_right_comm]; rfl
theorem cellUp_len : ∀ (cn : List Str) (n : Nat), (cellUp cn n).length = cn.length
  | [], _ => rfl
  | _ :: cn, n => congrArg Nat.succ (cellUp_len cn (n + 1))
theorem cellUp_names : ∀ (cn : List Str) (n : Nat), (cellUp cn n).map (·.1) = cn
  | [], _ => rfl
  | x :: cn, n => congrArg (x :: ·) (cellUp_names cn (n + 1))
noncomputable def upN (n : Nat) : Nat → List Nat
  | 0 => []
  | k + 1 => n :: upN (n + 1) k
theorem upN_get : ∀ {k n i x : Nat}, (upN n k)[i]? = some x → i < k ∧ x = n + i
  | 0, _, _, _, h => by simp [upN] at h
  | k + 1, n, 0, x, h => by simp [upN] at h; exact ⟨Nat.succ_pos _, h.symm⟩
  | k + 1, n, i + 1, x, h => by
    obtain ⟨h1, h2⟩ := upN_get (k := k) (n := n + 1) (i := i) (x := x) (by simpa [upN] using h)
    exact ⟨Nat.succ_lt_succ h1, by omega⟩
theorem bindC_get {kindOf : Str → Option NameKind} {x : Str} (hx : kindOf x ≠ some .local) : ∀ {binds : List (Str × Value)} {m : Str → Option Value}, (binds.map (·.1)).Nodup → bindC kindOf binds m x = (match binds.lookup x with | some v => some v | none => m x)
  | [], m, _ => rfl
  | (n, v) :: r, m, nd => by
    rw [List.map_cons, List.nodup_cons] at nd
    unfold bindC
    rw [bindC_get hx nd.2, List.lookup_cons]
    by_cases h : x = n
    · subst h
      rw [beq_self_eq_true, if_neg hx]
      have : r.lookup x = none := by
        cases hr : r.lookup x with
        | none => rfl
        | some w => exact absurd (List.mem_map.mpr ⟨(x, w), mem_of_lookup hr, rfl⟩) nd.1
      rw [this]
      simp
    · rw [beq_eq_false_iff_ne.mpr h]
      cases r.lookup x with
      | some w => rfl
      | none =>
        dsimp only
        split
        · rfl
        · exact if_neg h
theorem bindL_get {kindOf : Str → Option NameKind} {x : Str} (hx : kindOf x = some .local) : ∀ {binds : List (Str × Value)} {m : Str → Option Value}, (binds.map (·.1)).Nodup → bindL kindOf binds m x = (match binds.lookup x with | some v => some v | none => m x)
  | [], m, _ => rfl
  | (n, v) :: r, m, nd => by
    rw [List.map_cons, List.nodup_cons] at nd
    unfold bindL
    rw [bindL_get hx nd.2, List.lookup_cons]
    by_cases h : x = n
    · subst h
      rw [beq_self_eq_true, if_pos hx]
      have : r.lookup x = none := by
        cases hr : r.lookup x with
        | none => rfl
        | some w => exact absurd (List.mem_map.mpr ⟨(x, w), mem_of_lookup hr, rfl⟩) nd.1
      rw [this]
      simp
    · rw [beq_eq_false_iff_ne.mpr h]
      cases r.lookup x with
      | some w => rfl
      | none =>
        dsimp only
        split
        · exact if_neg h
        · rfl
/-- where a name stands among the parameters -/
noncomputable def parAt (pn : List Str) (x : Str) : Option Nat := pn.findIdx? (· == x)
theorem parAt_some {pn : List Str} {x : Str} {j : Nat} (h : parAt pn x = some j) : pn[j]? = some x := by
  unfold parAt at h
  rw [List.findIdx?_eq_some_iff_getElem] at h
  obtain ⟨h1, h2, _⟩ := h
  rw [List.getElem?_eq_getElem h1]
  simpa using h2
theorem parAt_none {pn : List Str} {x : Str} (h : parAt pn x = none) : x ∉ pn := by
  unfold parAt at h
  rw [List.findIdx?_eq_none_iff] at h
  intro hm
  have := h x hm
  simp at this
noncomputable def parV (vs : List MV) : Option Nat → Option MV
  | .none => .none
  | some j => vs[j]?
theorem lookup_none {pn : List Str} {ws : List Value} {x : Str} (h : x ∉ pn) : (pn.zip ws).lookup x = none := by
  cases hr : (pn.zip ws).lookup x with
  | none => rfl
  | some w => exact absurd (List.of_mem_zip (mem_of_lookup hr)).1 h
/-- the cells that the call lays -/
theorem cells_os {q : Int} {α : List Addr} {cm : Str → Option Value} {vs : List MV} {pn : List Str} (hval : ∀ x v, parV vs (parAt pn x) = some v → ∃ w, cm x = some w ∧ VOK q α v w) (hnone : ∀ x, x ∉ pn → cm x = none) (hlen : vs.length = pn.length) :
    ∀ {cs : List (Str × Addr)} {cells : List (Addr × Obj)}, CellsAre cm cs cells → ∀ {sto : List MO} {led : List (Addr × Obj)}, OsOK q α sto led →
      OsOK q α (cs.map (fun p => MO.cell (parV vs (parAt pn p.1))) ++ sto) (cells ++ led) ∧ cells.map (·.1) = cs.map (·.2)
  | _, _, .nil, sto, led, h => ⟨h, rfl⟩
  | (n, c) :: cs, _, .cons hd r, sto, led, h => by
    obtain ⟨h1, h2⟩ := cells_os hval hnone hlen r h
    refine ⟨.cons ?_ h1, congrArg (c :: ·) h2⟩
    show ObjOK q α (.cell (parV vs (parAt pn n))) _
    cases hp : parAt pn n with
    | none =>
      rw [hnone n (parAt_none hp)] at hd
      exact hd
    | some j =>
      have hj : j < vs.length := by rw [hlen]; exact (List.getElem?_eq_some_iff.mp (parAt_some hp)).1
      have hv : parV vs (some j) = some vs[j] := List.getElem?_eq_getElem hj
      rw [hv]
      obtain ⟨w, h3, h4⟩ := hval n vs[j] (by rw [hp]; exact hv)
      exact ⟨w, by rw [hd, h3], h4⟩
theorem codeCells {prog : Program} {w : World} {A₀ A : Around} {s : Shared} {base h₀ : Heap} {outer : List Env} {L : Addr} {m : Str → Option Value} {env : Env} {news : List (Addr × Obj)}
    {R : Result → Shared → Prop} {name qual : Str} {params : Arguments} {body : List Stmt} {scope : Scope} {dV kV doc pm cdv ct : Value} {an : Option Addr} {fo : Obj} {f : Addr} {args : Args} {binds : List (Str × Value)}
    (B : Below A₀ base outer h₀) (F : Fr h₀ L s.heap m) (N : News h₀ L s.heap news) (hlim : h₀.NoLimit) (hA : A.frames = some (env :: outer)) (hf : env.frame = some L) (hke : env.scope.kind = .function)
    (ho : s.heap.get? f = some fo) (hd : fo.data = .func (fnX name qual params body scope [] dV kV doc pm an cdv ct)) (hcd : s.heap.CodeRec cdv qual) (hroom : A.depth < recursionLimit) (hpos : 0 < s.toks)
    (hbind : BindsTo s (fnX name qual params body scope [] dV kV doc pm an cdv ct) args binds)
    (hkind : ∀ n, ∀ x ∈ binds, scope.names.lookup x.1 = some .local ∨ (scope.names.lookup x.1 = some .cell ∧ ((cellsFrom n scope.names []).lookup x.1).isSome = true))
    (hnd : ((cellsFrom 0 scope.names []).map (·.1)).Nodup)
    (h : ∀ g L' h₁ tk cells, 0 < tk → Fr h₀ L g m → Fr g L' h₁ (bindL (envOfC qual scope L' f cdv).kindOf binds fun _ => none) → News g L' h₁ (cells ++ news) →
      CellsAre (bindC (envOfC qual scope L' f cdv).kindOf binds fun _ => none) (cellsFrom (L' + 1) scope.names []) cells → Below A base (env :: outer) g → h₀.StaysIn g → (∀ p ∈ news, p.1 < L') → (∀ p ∈ cells, L' < p.1) →
      wpAny (model prog w) (A.deeper (envOfC qual scope L' f cdv)) (execs body (envOfC qual scope L' f cdv))
        (fun fl s' => LeaveK h₀ L m g R (match fl with | .ret v => v | _ => .none) s')
        (fun e s' => wpAny (model prog w) (A.deeper (envOfC qual scope L' f cdv)) (leaving (envOfC qual scope L' f cdv) e) (fun _ s'' => R (.error e) s'') (fun e' s'' => R (.error e') s'') s')
        { s with heap := h₁, toks := tk })
    (hco : scope.isCoroutine = false) (hgen : scope.isGenerator = false) (hk : scope.kind = .function) : codeAny (model prog w) A (.call (.ref f) args) R s := by
  obtain ⟨FG, BG, stay, lv⟩ := groundX (R := R) B F N hA hf hke
  refine codeAny_call_function hroom ho hd hco hgen rfl hcd (hbind _ _ _ _ (pos_toks hpos ?_))
  refine wpAny_newFunctionEnv_cells hk (hkind _) fun env' he s' x hpos' => ?_
  subst he
  obtain ⟨h₁, tk, rfl, _⟩ := x.done
  have keep := x.toInCall.keep
  refine ⟨(hlim.keeps F.keep).keeps keep, codeAny_func ?_⟩
  obtain ⟨cells, NC, Y⟩ := Cl.news (h₀ := s.heap) (L := s.heap.objs.size) (Nat.le_refl _) fun n c hm => ⟨x.cell n c (lookup_of_mem_nodup (cellsFrom_names scope.names 0 (s.heap.objs.size + 1) [] [] rfl ▸ hnd) hm), x.above n c hm⟩
  have hab : ∀ p ∈ cells, s.heap.objs.size < p.1 := by
    have : ∀ {cs : List (Str × Addr)} {cells : List (Addr × Obj)}, CellsAre (bindC (envOfC qual scope s.heap.objs.size f cdv).kindOf binds fun _ => none) cs cells → (∀ n c, (n, c) ∈ cs → s.heap.objs.size < c) → ∀ p ∈ cells, s.heap.objs.size < p.1 := by
      intro cs cells Z
      induction Z with
      | nil => intro _ p hp; cases hp
      | cons _ _ ih =>
        intro hh p hp
        rcases List.mem_cons.mp hp with rfl | hp
        · exact hh _ _ List.mem_cons_self
        · exact ih (fun n c hm => hh n c (List.mem_cons_of_mem _ hm)) p hp
    exact this Y fun n c hm => x.above n c hm
  refine wpAny_mono (h _ s.heap.objs.size h₁ tk cells hpos' FG ⟨x.toInCall.ns, fun b o e => keep b o (of_hideAll _ e), Nat.le_of_eq (hideAll_size _ _)⟩ (fun p hp => ?_) Y BG stay (fun p hp => Heap.lt_size (N p hp).1) hab) (fun fl s' hl => lv _ _ hl) fun _ _ y => y
  rcases List.mem_append.mp hp with hp | hp
  · refine ⟨(NC p hp).1, (NC p hp).2.1, ?_⟩
    cases e : (hideAll s.heap (news.map (·.1))).get? p.1 with
    | none => rfl
    | some o => have := of_hideAll _ e; rw [(NC p hp).2.2] at this; cases this
  · exact ⟨keep _ _ (N p hp).1, Nat.ne_of_lt (Heap.lt_size (N p hp).1), hideAll_none _ (List.mem_map_of_mem hp)⟩
end Mine
end P25
section P26
open PySem PySem.W PyProof.Rows PySem.Calls PySem.Spec
namespace Mine
variable {g : Gl} {Γ : Sta} {lv : Nat}
theorem cellUp_ge : ∀ {cn : List Str} {n : Nat}, ∀ p ∈ cellUp cn n, n ≤ p.2
  | [], _, _, h => nomatch h
  | x :: cn, n, p, h => by
    rcases List.mem_cons.mp h with rfl | h
    · exact Nat.le_refl _
    · exact Nat.le_of_succ_le (cellUp_ge p h)
theorem cellUp_nodup : ∀ (cn : List Str) (n : Nat), ((cellUp cn n).map (·.2)).Nodup
  | [], _ => List.nodup_nil
  | x :: cn, n => by
    show (n :: (cellUp cn (n + 1)).map (·.2)).Nodup
    rw [List.nodup_cons]
    refine ⟨fun hm => ?_, cellUp_nodup cn (n + 1)⟩
    obtain ⟨p, hp, e⟩ := List.mem_map.mp hm
    have := cellUp_ge p hp
    exact absurd (e ▸ this : n + 1 ≤ n) (Nat.not_succ_le_self _)
theorem lookup_nodup {l : List (Str × Addr)} {x : Str} {a : Addr} (nd : (l.map (·.1)).Nodup) (h : (x, a) ∈ l) : l.lookup x = some a := lookup_of_mem_nodup nd h
noncomputable def fnCF (np : Nat) (li ci : List (Option Nat)) (fb : PS → Option (FL × PS)) : List MV → SS → Option (MV × SS) := fun vs ss => match Nat.beq vs.length np with
  | false => .none
  | true => match fb ⟨li.map (parV vs), upN ss.n ci.length, ⟨ss.n + ci.length, (ci.map fun o => MO.cell (parV vs o)).reverse ++ ss.sto⟩⟩ with
    | .none => .none
    | some (r, st) => match r with
      | .ret v => some (v, st.ss)
      | .next => some (.none, st.ss)
      | _ => .none
section
variable {pn ln cn : List Str} {vs : List MV} {ws : List Value} {q : Int} {α : List Addr}
theorem cells_vals (hvs : VsOK q α vs ws) (hnp : pn.Nodup) (x : Str) (v : MV) (hv : parV vs (parAt pn x) = some v) : ∃ w, (pn.zip ws).lookup x = some w ∧ VOK q α v w := by
  cases hp : parAt pn x with
  | none => rw [hp] at hv; exact nn hv
  | some j => rw [hp] at hv; exact (hvs.get hv).elim fun w h => ⟨w, lookup_zip hnp (parAt_some hp) h.1, h.2⟩
theorem cells_same {kindOf : Str → Option NameKind} (hkc : ∀ x ∈ cn, kindOf x ≠ some .local) (hzn : ((pn.zip ws).map (·.1)).Nodup) {cs : List (Str × Addr)} {cells : List (Addr × Obj)} (Z : CellsAre (bindC kindOf (pn.zip ws) fun _ => none) cs cells) :
    (∀ p ∈ cs, p.1 ∈ cn) → CellsAre (fun x => (pn.zip ws).lookup x) cs cells := by
  induction Z with
  | nil => intro _; exact .nil
  | cons hd _ ih =>
    intro hh
    refine .cons ?_ (ih fun p hp => hh p (List.mem_cons_of_mem _ hp))
    rw [hd, bindC_get (hkc _ (hh _ List.mem_cons_self)) hzn]
    cases (pn.zip ws).lookup _ <;> rfl
theorem cells_sto (n : Nat) : (cellUp cn n).reverse.map (fun p => MO.cell (parV vs (parAt pn p.1))) = ((cn.map (parAt pn)).map fun o => MO.cell (parV vs o)).reverse := by
  rw [List.map_reverse]
  congr 1
  rw [List.map_map]
  conv => rhs; rw [← cellUp_names cn n, List.map_map]
  rfl
theorem cellUp_nd (hcn : cn.Nodup) (n : Nat) : ((cellUp cn n).reverse.map (·.1)).Nodup := by
  rw [List.map_reverse, cellUp_names]; exact (List.reverse_perm cn).nodup_iff.mpr hcn
theorem cellUp_in (hcn : cn.Nodup) {n i : Nat} {x : Str} (h : cn[i]? = some x) : (cellUp cn n).reverse.lookup x = some (n + i) :=
  lookup_nodup (cellUp_nd hcn n) (List.mem_reverse.mpr (List.mem_of_getElem? (cellUp_get h)))
theorem cells_at {A : List Addr} {L n i k : Nat} {x : Str} (hA : A = (cellUp cn L).reverse.map (·.2)) (hal : α.length = n) (h : cn[i]? = some x) (hk : i < cn.length) (e : k = n + i) : fromEnd (A ++ α).length (A ++ α) k = some (L + i) := by
  have hlc : A.length = cn.length := by rw [hA, List.length_map, List.length_reverse, cellUp_len]
  subst e
  unfold fromEnd
  rw [if_pos (Z.blt_iff.mpr (by rw [List.length_append, hlc, hal, Nat.add_comm]; exact Nat.add_lt_add_right hk n)), List.getElem?_append_left (by rw [List.length_append, hlc, hal]; omega)]
  rw [List.length_append, hlc, hal, hA, List.map_reverse, List.getElem?_reverse (by rw [List.length_map, cellUp_len]; omega)]
  have : ((cellUp cn L).map (·.2)).length - 1 - (cn.length + n - 1 - (n + i)) = i := by
    rw [List.length_map, cellUp_len]; omega
  rw [this, List.getElem?_map, cellUp_get h]
  rfl
end
/-- a call's own context, the cells its own -/
noncomputable def Cx.callC (c : Cx g Γ) {qual : Str} {Γ' : Sta} {L' a : Addr} {cdv : Value} {gh : Heap} (hk : Γ'.scope.kind = .function) (hl : lv + 1 ≤ c.lvl) (B' : Below c.A c.base (c.fenv :: c.outer) gh) (hB : g.B gh) : Cx g Γ' := {
    A := c.A.deeper (envOfC qual Γ'.scope L' a cdv)
    A₀ := c.A, base := c.base, outer := c.fenv :: c.outer, env := envOfC qual Γ'.scope L' a cdv, fenv := envOfC qual Γ'.scope L' a cdv, h₀ := gh, L := L', blk := none, lvl := c.lvl - 1, bm := fun _ => none
    hA := by show Option.map _ c.A.frames = _; rw [c.hA]; rfl
    hh := c.hh, hff := rfl, hfk := hk, hfl := fun _ => rfl, hbl := fun _ e => (nomatch e)
    below := B'
    hscope := rfl, hkind := hk, hglob := rfl, hblt := rfl
    hB := hB
    hdep := dep_in c.hdep hl
    hun := un_in c.hun hl }
inductive FnN (g : Gl) (Γ' : Sta) (NC : Cx g Γ' → Prop) (h : Heap) (a : Addr) (name qual : Str) (params : Arguments) (body : List Stmt) : Prop
  | mk (o : Obj) (doc pm : Value) (an : Option Addr) (cdv ct : Value) (h1 : h.get? a = some o) (h2 : o.data = .func (fnX name qual params body Γ'.scope [] .none .none doc pm an cdv ct)) (h3 : h.CodeRec cdv qual)
    (h4 : ∀ c' : Cx g Γ', c'.env = envOfC qual Γ'.scope c'.L a cdv → (∀ b o, h.get? b = some o → c'.h₀.get? b = some o) → NC c')
set_option smartUnfolding false in
theorem OpNOK.fnCX {a : Addr} {name qual : Str} {params : Arguments} {body : List Stmt} {scope : Scope} {pn ln cn : List Str} {li ci : List (Option Nat)} {fb : PS → Option (FL × PS)} {NC : Cx g ⟨ln, cn, scope⟩ → Prop} (hlim : ∀ h, g.B h → h.NoLimit) (hfd : ∀ h, g.B h → FnN g ⟨ln, cn, scope⟩ NC h a name qual params body)
    (hk : scope.kind = .function) (hco : scope.isCoroutine = false) (hgen : scope.isGenerator = false)
    (hbind : ∀ (doc pm : Value) (an : Option Addr) (cdv ct : Value) (ws : List Value), ws.length = pn.length → bindArgs (fnX name qual params body scope [] .none .none doc pm an cdv ct) ⟨ws, []⟩ = pure (pn.zip ws))
    (hnp : pn.Nodup) (hkp : ∀ x ∈ pn, scope.names.lookup x = some .local ∨ (scope.names.lookup x = some .cell ∧ x ∈ cn)) (hcf : ∀ n, cellsFrom n scope.names [] = (cellUp cn n).reverse) (hcn : cn.Nodup)
    (hkc : ∀ x ∈ cn, scope.names.lookup x ≠ some .local) (hkl : ∀ x ∈ ln, scope.names.lookup x = some .local) (hli : ln.map (parAt pn) = li) (hci : cn.map (parAt pn) = ci)
    (hb : ∀ (c' : Cx g ⟨ln, cn, scope⟩), NC c' → lv ≤ c'.lvl → ∀ α ext G st v st' s Q E, fb st = some (v, st') → Rel c' α ext G st s → (∀ w, After c' α ext G s st' fun α' s' => FOK g.q α' v w → Q w s') → wpAny (model g.prog g.w) c'.A (execs body c'.env) Q E s) :
    OpNOK g (lv + 1) (fun ws => call (.ref a) ws) (fnCF pn.length li ci fb) := by
  intro Γ c hl α ext G st vs ws v ss s Q E hf hvs R hQ
  subst hli hci
  unfold fnCF at hf
  refine eb hf fun hlen hf => ?_
  have hlen := Nat.eq_of_beq_eq_true hlen
  refine eop hf fun r st1 e1 hf => ?_
  cases R with | mk m led bl R =>
  cases hfd c.h₀ c.hB with | mk o doc pm an cdv ct ho hd hcd hN =>
  have hwl : ws.length = pn.length := hvs.length.trans hlen
  have hzn : ((pn.zip ws).map (·.1)).Nodup := by rw [List.map_fst_zip (Nat.le_of_eq hwl.symm)]; exact hnp
  refine wpAny_call (codeCells c.below R.F R.N (hlim _ c.hB) c.hA c.hff c.hfk (R.F.keep _ _ ho) hd (hcd.keeps R.F.keep) c.depth R.tk (BindsTo.of_eq (hbind doc pm an cdv ct ws hwl))
    (fun n y hy => (hkp _ (List.of_mem_zip (show (y.1, y.2) ∈ pn.zip ws from hy)).1).elim .inl fun h => .inr ⟨h.1, ?_⟩) (by rw [hcf]; exact cellUp_nd hcn _) (fun gh L' h₁ tk cells hpos FG F' N' Y B' st' lt' lc => ?_) hco hgen hk)
  · refine (List.mem_iff_getElem?.mp h.2).elim fun i hi => ?_
    rw [hcf, cellUp_in hcn hi]
    rfl
  rw [hcf] at Y
  have hcs := cells_os (cells_vals hvs hnp) (fun x hx => lookup_none hx) hlen (cells_same (cn := cn) hkc hzn Y fun p hp => by rw [← cellUp_names cn (L' + 1)]; exact List.mem_map_of_mem (List.mem_reverse.mp hp)) R.lo
  have hos := hcs.1
  rw [cells_sto] at hos
  have hs0 : α <:+ cells.map (·.1) ++ α := List.suffix_append _ _
  have hal : α.length = st.ss.n := by rw [← R.la, List.length_map, R.lo.length, R.nn]
  refine hb (c.callC (Γ' := ⟨ln, cn, scope⟩) (a := a) (cdv := cdv) hk hl B' (g.hB _ _ st' c.hB)) (hN _ rfl st') (lv_in hl) (cells.map (·.1) ++ α) (bl ++ ext) G _ r st1 _ _ _ e1
    ⟨_, cells ++ led, [], F', by rw [List.append_assoc]; exact N', ?_, by rw [List.map_append, R.la], hos.mono hs0, ?_, BlkOK.mk0 rfl (fun i x u hx hu => ?_), fun i x k hx hk' => ?_, R.ge, R.ba, R.tb.trans hs0, hpos⟩ (fun w α' s' hs R1 ho1 va => ?_)
  · rw [show (cells ++ led) ++ ([] ++ (bl ++ ext)) = cells ++ (led ++ (bl ++ ext)) from List.append_assoc _ _ _, List.map_append, List.nodup_append]
    refine ⟨by rw [hcs.2, List.map_reverse]; exact (List.reverse_perm _).nodup_iff.mpr (cellUp_nodup _ _), R.nd, fun x hx y hy q => ?_⟩
    refine (List.mem_map.mp hx).elim fun p hp => (List.mem_map.mp hy).elim fun p' hp' => ?_
    have e : p'.1 = p.1 := hp'.2.trans (q.symm.trans hp.2.symm)
    exact absurd (lt' p' hp'.1) (Nat.not_lt.mpr (e ▸ Nat.le_of_lt (lc p hp.1)))
  · show st.ss.n + (cn.map (parAt pn)).length = (_ ++ _ : List MO).length
    simp only [List.length_append, List.length_reverse, List.length_map, R.nn, Nat.add_comm]
  · have hx' : ln[i]? = some x := hx
    rw [List.getElem?_map, List.getElem?_map, hx'] at hu
    refine (cells_vals hvs hnp x u (Option.some.inj hu)).elim fun w h => ⟨w, ?_, h.2.mono hs0⟩
    show bindL (envOfC qual scope L' a cdv).kindOf _ _ x = _
    rw [bindL_get (kindOf := (envOfC qual scope L' a cdv).kindOf) (hkl x (List.mem_of_getElem? hx')) hzn, h.1]
  · have hx' : cn[i]? = some x := hx
    have hu := upN_get hk'
    rw [List.length_map] at hu
    refine ⟨L' + 1 + i, ?_, cells_at hcs.2 hal hx' hu.1 hu.2⟩
    show List.lookup x (cellsFrom (L' + 1) scope.names []) = _
    rw [hcf]
    exact cellUp_in hcn hx'
  cases R1 with | mk m' led' bl' R1 =>
  have hbl' : bl' = [] := R1.bk.1
  subst hbl'
  have hsα := hs0.trans hs
  refine leaveK_ R1.F R1.N fun F₂ N₂ => ?_
  have key : Rel c α' ext G { st with ss := st1.ss } s' := ⟨m, led', bl, F₂, N₂, R1.nd, R1.la, R1.lo, R1.nn, R.bk.mono hsα, R.ce.mono hsα, R1.ge, R1.ba, R1.tb, R1.tk⟩
  refine (fn_ret (P := Ret c α ext G st s Q) hf hQ).elim (fun h => h.elim fun v' h => ?_) fun h => ?_
  · rw [h.1] at va
    cases w <;> first | exact False.elim va | exact h.2 _ α' s' hsα key ho1 va
  · rw [h.1] at va
    cases w <;> first | exact False.elim va | exact h.2 _ α' s' hsα key ho1 trivial
theorem OpNOK.fnC {a : Addr} {name qual : Str} {params : Arguments} {body : List Stmt} {scope : Scope} {pn ln cn : List Str} {li ci : List (Option Nat)} {fb : PS → Option (FL × PS)} (hlim : ∀ h, g.B h → h.NoLimit) (hfd : ∀ h, g.B h → FnIs h a name qual params body scope [])
    (hk : scope.kind = .function) (hco : scope.isCoroutine = false) (hgen : scope.isGenerator = false)
    (hbind : ∀ (doc pm : Value) (an : Option Addr) (cdv ct : Value) (ws : List Value), ws.length = pn.length → bindArgs (fnX name qual params body scope [] .none .none doc pm an cdv ct) ⟨ws, []⟩ = pure (pn.zip ws))
    (hnp : pn.Nodup) (hkp : ∀ x ∈ pn, scope.names.lookup x = some .local ∨ (scope.names.lookup x = some .cell ∧ x ∈ cn)) (hcf : ∀ n, cellsFrom n scope.names [] = (cellUp cn n).reverse) (hcn : cn.Nodup)
    (hkc : ∀ x ∈ cn, scope.names.lookup x ≠ some .local) (hkl : ∀ x ∈ ln, scope.names.lookup x = some .local) (hli : ln.map (parAt pn) = li) (hci : cn.map (parAt pn) = ci)
    (hb : ExsOK g ⟨ln, cn, scope⟩ lv body fb) : OpNOK g (lv + 1) (fun ws => call (.ref a) ws) (fnCF pn.length li ci fb) :=
  OpNOK.fnCX (NC := fun _ => True) hlim (fun h hB => by cases hfd h hB with | mk o doc pm an cdv ct h1 h2 h3 => exact ⟨o, doc, pm, an, cdv, ct, h1, h2, h3, fun _ _ _ => trivial⟩) hk hco hgen hbind hnp hkp hcf hcn hkc hkl hli hci (fun c' _ => hb c')
end Mine
end P26
section P27
open PySem PySem.W PyProof.Rows PySem.Calls PySem.Spec PySem.W.X
namespace Mine
section
variable {prog : Program} {w : World} {A : Around} {c : Code} {fs : List Frame} {s : Shared} {P : End → Shared → Prop} {env : Env}
  {K : Flow → Sem Fin} {H : Value → Sem Fin} {gd : Bool → Bool} {lv : List Value → List Value}
theorem sx_wrap {β : Type} {m : Sem β} {K : β → Sem Fin} {H : Value → Sem Fin} {gd lv}
    (h : wpAny (model prog w) (A.over c fs) m (fun a s' => SegX (model prog w) A c (K a) fs s' P) (fun x s' => SegX (model prog w) A c (H x) fs s' P) s) : SegX (model prog w) A c (m.wrap K H gd lv) fs s P := by
  rintro Γ p rfl hΓ
  obtain ⟨e, s', hr, hq⟩ := runs_wrap_of_wp (Φ := fun e s' => e.quiet = true ∧ P e s') K H gd lv m (h (Γ.over fs) p (hΓ.over fs)) (fun a p' s' h' => h' Γ p' rfl hΓ) (fun x p' s' h' => h' Γ p' rfl hΓ)
  exact ⟨e, s', hr, hq⟩
theorem sx_at {p' : Pos} {k : Unit → Sem Fin} (h : SegX (model prog w) A c (k ()) fs s P) : SegX (model prog w) A c (.at p' k) fs s P :=
  sx_wrap (m := standAt p') (K := k) (H := .raise) (gd := id) (lv := id) (wpAny_standAt h)
theorem sx_point {l : List Value} {k : Unit → Sem Fin} (h : SegX (model prog w) A c (k ()) fs s P) : SegX (model prog w) A c (.point l k) fs s P :=
  sx_wrap (m := point) (K := k) (H := .raise) (gd := id) (lv := fun _ => l) (wpAny_point h)
theorem sx_nil (h : SegX (model prog w) A c (K .next) fs s P) : SegX (model prog w) A c ((execs [] env).wrap K H gd lv) fs s P := h
theorem sx_cons {st : Stmt} {rest : List Stmt}
    (h : SegX (model prog w) A c ((exec st env).wrap (fun f => match f with | .next => (execs rest env).wrap K H gd lv | f => K f) H gd lv) fs s P) :
    SegX (model prog w) A c ((execs (st :: rest) env).wrap K H gd lv) fs s P := by rw [execs_cons_wrap]; exact h
theorem sx_If {test : Expr} {b o : List Stmt} {pos : Pos}
    (h : wpAny (model prog w) (A.over c fs) (isTrue test env (eval test env)) (fun t s' => if t = true then SegX (model prog w) A c ((execs b env).wrap K H gd lv) fs s' P else SegX (model prog w) A c ((execs o env).wrap K H gd lv) fs s' P)
      (fun x s' => SegX (model prog w) A c (H x) fs s' P) s) : SegX (model prog w) A c ((exec (.If test b o pos) env).wrap K H gd lv) fs s P := by
  rw [exec_If]
  refine sx_at ?_
  show SegX _ _ _ (Sem.wrap K H gd lv (isTrue test env (eval test env) >>= fun t => if t = true then execs b env else execs o env)) _ _ _
  rw [Sem.bind_eq_wrap', Sem.wrap_wrap]
  refine sx_wrap (wpAny_mono h (fun t s' ht => ?_) fun _ _ x => x)
  cases t with
  | true => simp only [if_true] at ht; exact ht
  | false => simp only [Bool.false_eq_true, if_false] at ht; exact ht
theorem sx_Yield {e : Expr} {ypos pos : Pos} (hfs : splitAtGen fs = none) (hgd : gd false = false) (hfg : fs.any Frame.guarded = false)
    (h : wpAny (model prog w) (A.over c fs) (eval e env) (fun v s' => ∀ k l p, (∀ s'' P', SegX (model prog w) A c (K .next) fs s'' P' → SegX (model prog w) A c (k (.send .none)) fs s'' P') → P (.susp v false l k c p fs) s')
      (fun x s' => SegX (model prog w) A c (H x) fs s' P) s) (hco : env.scope.isCoroutine = false) (hi : interactive env = false) :
    SegX (model prog w) A c ((exec (.Expr (.Yield (some e) ypos) pos) env).wrap K H gd lv) fs s P := by
  rw [exec_Expr env _ pos hi rfl]
  show SegX _ A c (.at pos fun _ => ((eval e env >>= fun v => (standAt ypos >>= fun _ => yieldOut env v)) >>= fun x => dropValue (.Yield (some e) ypos) pos x).wrap K H gd lv) fs s P
  have hy : ∀ v, yieldOut env v = yieldValue v := fun v => by simp only [yieldOut, hco, Bool.false_eq_true, if_false]
  simp only [hy]
  refine sx_at ?_
  rw [Sem.bind_eq_wrap', Sem.bind_eq_wrap', Sem.wrap_wrap, Sem.wrap_wrap]
  refine sx_wrap (wpAny_mono h (fun v s' h' => ?_) fun _ _ x => x)
  refine sx_at ?_
  have key : ∀ k l, (∀ s'' P', SegX (model prog w) A c (K .next) fs s'' P' → SegX (model prog w) A c (k (.send .none)) fs s'' P') → SegX (model prog w) A c (.yield v false l k) fs s' P :=
    fun k l hk => s_yield prog w A c fs P s' v l k hfs hfg fun p => h' k l p hk
  show SegX _ A c (.yield v (gd false) _ _) fs s' P
  rw [hgd]
  exact key _ _ fun s'' P' x => x
end
end Mine
end P27
section P28
open PySem PySem.W PyProof.Rows PySem.Calls PySem.Spec PySem.W.X
namespace Mine
section
variable {prog : Program} {w : World} {A : Around} {c : Code} {fs : List Frame} {s : Shared} {P : End → Shared → Prop} {env : Env}
  {K : Flow → Sem Fin} {H : Value → Sem Fin} {gd : Bool → Bool} {lv : List Value → List Value}
/-- how the loop's outcome goes on in the block around it -/
noncomputable def backK (env : Env) (K : Flow → Sem Fin) (H : Value → Sem Fin) (gd : Bool → Bool) (lv : List Value → List Value) : Result → Sem Fin := fun r =>
  ((match r with | .ok f => (.pure f : Sem Flow) | .error e => .raise e).onRaise fun (x : Value) => do
        if (← field x 1) == Value.none then unsupported "frame.own-activation:exception-without-traceback"
        setFlight x env.frame).wrap K H gd lv
theorem sx_For {target iter : Expr} {body orelse : List Stmt} {pos : Pos} (hs : ∀ x, foldedSetIterable iter env x = pure x)
    (h : wpAny (model prog w) (A.over c fs) (eval iter env) (fun x s₁ => wpAny (model prog w) (A.over c fs) (pyIter x) (fun it s₂ => ∀ p,
      SegX (model prog w) A (.forLoop target it body orelse env) (denote table (.forLoop target it body orelse env)) (.ret (backK env K H gd lv) none (gd false) (lv []) c p [] :: fs) s₂ P)
        (fun x s' => SegX (model prog w) A c (H x) fs s' P) s₁) (fun x s' => SegX (model prog w) A c (H x) fs s' P) s) :
    SegX (model prog w) A c ((exec (.For target iter body orelse pos) env).wrap K H gd lv) fs s P := by
  rw [exec_For]
  refine sx_at ?_
  show SegX _ A c (Sem.wrap K H gd lv (eval iter env >>= fun v => foldedSetIterable iter env v >>= fun x => standAt iter.pos >>= fun _ => holding [x] (pyIter x) >>= fun it => runOwn (.forLoop target it body orelse env) env)) fs s P
  rw [Sem.bind_eq_wrap', Sem.wrap_wrap]
  refine sx_wrap (wpAny_mono h (fun x s₁ h₁ => ?_) fun _ _ x => x)
  rw [hs x]
  refine sx_at ?_
  show SegX _ A c (Sem.wrap K H gd lv (holding [x] (pyIter x) >>= fun it => runOwn (.forLoop target it body orelse env) env)) fs s₁ P
  rw [Sem.bind_eq_wrap', Sem.wrap_wrap]
  refine sx_wrap (wpAny_holding (wpAny_mono h₁ (fun it s₂ h₂ => ?_) fun _ _ x => x))
  exact s_call prog w A c fs P s₂ (.forLoop target it body orelse env) none (gd false) (lv []) (backK env K H gd lv) h₂
noncomputable def noteH (env : Env) : Value → Sem Fin := fun e => (do noteFrame e env; theTreesLotGoes e : Sem Unit).bind fun _ => .raise e
noncomputable def bodyK (cl : Code) : Flow → Sem Fin
  | .next => .pure (.again cl)
  | .cont => .pure (.again cl)
  | .brk => .pure (.done .next)
  | .ret v => .pure (.done (.ret v))
theorem sx_forLoop {target : Expr} {it : Value} {body orelse : List Stmt}
    (h : wpAny (model prog w) (A.over (.forLoop target it body orelse env) fs) (pyNext it) (fun r s₁ => match r with
      | none => SegX (model prog w) A (.block orelse env) (denote table (.block orelse env)) fs s₁ P
      | some v => wpAny (model prog w) (A.over (.forLoop target it body orelse env) fs) (letOwnedTupleGo target it v) (fun _ s₂ =>
          wpAny (model prog w) (A.over (.forLoop target it body orelse env) fs) (assign target env v) (fun _ s₃ =>
            SegX (model prog w) A (.forLoop target it body orelse env) ((execs body env).wrap (bodyK (.forLoop target it body orelse env)) (noteH env) id id) fs s₃ P)
            (fun x s' => SegX (model prog w) A (.forLoop target it body orelse env) (noteH env x) fs s' P) s₂) (fun x s' => SegX (model prog w) A (.forLoop target it body orelse env) (noteH env x) fs s' P) s₁)
      (fun x s' => SegX (model prog w) A (.forLoop target it body orelse env) (noteH env x) fs s' P) s) :
    SegX (model prog w) A (.forLoop target it body orelse env) (denote table (.forLoop target it body orelse env)) fs s P := by
  show SegX _ A _ ((forTurn target it body orelse env).onRaise (fun x => do noteFrame x env; theTreesLotGoes x)) fs s P
  rw [Sem.onRaise_eq_wrap]
  unfold forTurn
  refine sx_at ?_
  show SegX _ A _ (Sem.wrap (.pure) (noteH env) id id ((pyNext it).onRaise (fun _ => standAt { target.pos with line := 0 }) >>= fun r => match r with
    | none => again (.block orelse env)
    | some v => letOwnedTupleGo target it v >>= fun _ => assign target env v >>= fun _ => execs body env >>= fun f => match f with
      | .next | .cont => again (.forLoop target it body orelse env)
      | .brk => pure (.done .next)
      | .ret v => pure (.done (.ret v)))) fs s P
  rw [Sem.bind_eq_wrap', Sem.wrap_wrap]
  refine sx_wrap (wpAny_onRaise (wpAny_mono h (fun r s₁ h₁ => ?_) fun _ _ hx => wpAny_standAt hx))
  cases r with
  | none => exact s_again prog w A _ fs P s₁ (.block orelse env) rfl h₁
  | some v =>
    dsimp only
    rw [Sem.bind_eq_wrap', Sem.wrap_wrap]
    refine sx_wrap (wpAny_mono h₁ (fun _ s₂ h₂ => ?_) fun _ _ x => x)
    rw [Sem.bind_eq_wrap', Sem.wrap_wrap]
    refine sx_wrap (wpAny_mono h₂ (fun _ s₃ h₃ => ?_) fun _ _ x => x)
    rw [Sem.bind_eq_wrap', Sem.wrap_wrap]
    rw [Sem.wrap_congr (execs body env) _ _ (K' := bodyK (.forLoop target it body orelse env)) (H' := noteH env) (fun f => by cases f <;> rfl) (fun e => by rfl)]
    exact h₃
theorem sx_func {body : List Stmt}
    (h : SegX (model prog w) A (.func body env) ((execs body env).wrap (fun f => .pure (.done (.ret (match f with | .ret v => v | _ => .none))))
      (fun e => (leaving env e).wrap (fun _ => .raise e) .raise id id) id id) fs s P) :
    SegX (model prog w) A (.func body env) (denote table (.func body env)) fs s P := by
  show SegX _ A _ (.point [] fun _ => ((execs body env).onRaise (leaving env)) >>= _) fs s P
  refine sx_point ?_
  rw [Sem.onRaise_eq_wrap, Sem.bind_eq_wrap', Sem.wrap_wrap]
  rw [Sem.wrap_congr (execs body env) _ _ (K' := fun f => .pure (.done (.ret (match f with | .ret v => v | _ => .none))))
    (H' := fun e => (leaving env e).wrap (fun _ => .raise e) .raise id id) (fun f => by cases f <;> rfl)
    (fun e => by rw [Sem.bind_eq_wrap, Sem.wrap_wrap]; rfl)]
  exact h
theorem sx_done {f : Flow} {k : Result → Sem Fin} {h0 : Option Value} {gg : Bool} {l : List Value} {c₁ : Code} {p₁ : Pos} (h : SegX (model prog w) A c₁ (k (.ok f)) fs s P) : SegX (model prog w) A c (.pure (.done f)) (.ret k h0 gg l c₁ p₁ [] :: fs) s P :=
  s_pop prog w A c fs P s (.ok f) _ rfl k h0 gg l c₁ p₁ [] h
theorem sx_block (h : SegX (model prog w) A (.block [] env) (.pure (.done .next)) fs s P) : SegX (model prog w) A (.block [] env) (denote table (.block [] env)) fs s P := h
end
end Mine
end P28
section P29
open PySem PySem.W PyProof.Rows PySem.Calls PySem.Spec PySem.W.X
namespace Mine
end Mine
end P29
section P30
open PySem PySem.W PyProof.Rows PySem.Calls PySem.Spec PySem.W.X
namespace Mine
/-- nothing but the objects at chg is changed -/
structure Kp (chg : Addr → Prop) (s s' : Shared) : Prop where
  st : ∃ h tk, s' = { s with heap := h, toks := tk }
  pos : 0 < s'.toks
  keep : ∀ b o, ¬ chg b → s.heap.get? b = some o → s'.heap.get? b = some o
theorem Kp.trans {chg : Addr → Prop} {s s' s'' : Shared} (a : Kp chg s s') (b : Kp chg s' s'') : Kp chg s s'' := by
  obtain ⟨h, tk, rfl⟩ := a.st
  obtain ⟨h', tk', rfl⟩ := b.st
  exact ⟨⟨h', tk', rfl⟩, b.pos, fun c o hc e => b.keep c o hc (a.keep c o hc e)⟩
abbrev Own := List (Addr × Obj)
noncomputable def PGn (_ok chg : Addr → Prop) (s : Shared) (e : End) (s' : Shared) : Prop := e = .ret (.ok (.ret .none)) ∧ Kp chg s s'
noncomputable def PGc (I : Addr) (x : Item) (F : Own → GenState → Prop) (ok chg : Addr → Prop) (s : Shared) (e : End) (s' : Shared) : Prop :=
  ∃ v l k c p fs own', e = .susp v false l k c p fs ∧ (∀ r ∈ own', s'.heap.get? r.1 = some r.2 ∧ ok r.1) ∧ (∃ o, (I, o) ∈ own') ∧ (own'.map (·.1)).Nodup ∧ Kp chg s s' ∧ (∀ q α, ItemOK q α x v s'.heap) ∧ F own' e.genState ∧ e.genState.bare = true
/-- a generator that waits, with these objects of its own -/
noncomputable def Wk (HB : Heap → Prop) (I : Addr) (prog : Program) (w : World) (A : Around) (own : Own) (gs : GenState) (P : (Addr → Prop) → (Addr → Prop) → Shared → End → Shared → Prop) : Prop :=
  ∃ c₀ t₀ fs₀, ((gs = .fresh c₀ ∧ t₀ = denote table c₀ ∧ fs₀ = []) ∨ ∃ k₀ l₀ p₀ cl, gs = .suspended k₀ l₀ c₀ p₀ fs₀ cl ∧ t₀ = k₀ (.send .none)) ∧
    ∀ s, 0 < s.toks → HB s.heap → (∀ r ∈ own, s.heap.get? r.1 = some r.2) → SegX (model prog w) A c₀ t₀ fs₀ s (P (fun a => (∃ r ∈ own, r.1 = a) ∨ s.heap.objs.size ≤ a) (fun a => a ≠ I ∧ ∃ r ∈ own, r.1 = a) s)
noncomputable def GFeed (HB : Heap → Prop) (I : Addr) (prog : Program) (w : World) (A : Around) : List Item → Own → GenState → Prop
  | [], own, gs => Wk HB I prog w A own gs PGn
  | x :: xs, own, gs => Wk HB I prog w A own gs (PGc I x (GFeed HB I prog w A xs))
noncomputable def PG (HB : Heap → Prop) (I : Addr) (prog : Program) (w : World) (A : Around) : List Item → (Addr → Prop) → (Addr → Prop) → Shared → End → Shared → Prop
  | [] => PGn
  | x :: xs => PGc I x (GFeed HB I prog w A xs)
theorem GFeed.of {HB : Heap → Prop} {I : Addr} {prog : Program} {w : World} {A : Around} {L : List Item} {own : Own} {gs : GenState} (h : Wk HB I prog w A own gs (PG HB I prog w A L)) : GFeed HB I prog w A L own gs := by
  cases L <;> exact h
theorem GFeed.to {HB : Heap → Prop} {I : Addr} {prog : Program} {w : World} {A : Around} {L : List Item} {own : Own} {gs : GenState} (h : GFeed HB I prog w A L own gs) : Wk HB I prog w A own gs (PG HB I prog w A L) := by
  cases L <;> exact h
theorem PG.from {HB : Heap → Prop} {I : Addr} {prog : Program} {w : World} {A : Around} {L : List Item} {ok ok' chg chg' : Addr → Prop} {s s1 s' : Shared} {e : End} (h : PG HB I prog w A L ok chg s1 e s') (ho : ∀ a, ok a → ok' a) (hk : Kp chg s1 s' → Kp chg' s s') : PG HB I prog w A L ok' chg' s e s' := by
  cases L with
  | nil => exact ⟨h.1, hk h.2⟩
  | cons x xs =>
    obtain ⟨v, l, k, c, p, fs, own', h1, h2, h2', h3, h4, h5, h6⟩ := h
    exact ⟨v, l, k, c, p, fs, own', h1, fun r hr => ⟨(h2 r hr).1, ho _ (h2 r hr).2⟩, h2', h3, hk h4, h5, h6⟩
noncomputable def escIt : Bool → Nat → List Nat → List Item
  | true, p, [] => [.two (.int (.c ((p : Int) - 1))) (.str [92])]
  | false, _, [] => []
  | true, p, c :: cs => .two (.int (.c (p : Int))) (.str [92, c]) :: escIt false (p + 1) cs
  | false, p, c :: cs => match Nat.beq c 92 with
    | true => escIt true (p + 1) cs
    | false => .two (.int (.c (p : Int))) (.str [c]) :: escIt false (p + 1) cs
/-- where the generator stands at the head of its loop -/
structure Hd (x : Str) (t : Tok) (I Lg ea it : Addr) (m : Str → Option Value) (p : Nat) (s : Shared) : Prop where
  gI : ∃ o, s.heap.get? I = some o
  ns : s.heap.Ns Lg m
  en : ∃ old, IsEnum s.heap ea it (p : Int) old
  ti : s.heap.IsStrIter it "str_ascii_iterator" x t p
  pos : 0 < s.toks
structure Ap (I Lg ea it : Addr) : Prop where
  nd : [I, Lg, ea, it].Nodup
theorem Hd.own {x : Str} {t : Tok} {I Lg ea it : Addr} {m : Str → Option Value} {p : Nat} {s : Shared} (H : Hd x t I Lg ea it m p s) :
    ∃ own : Own, own.map (·.1) = [I, Lg, ea, it] ∧ (∀ r ∈ own, s.heap.get? r.1 = some r.2) ∧ ∀ s'' : Shared, (∀ r ∈ own, s''.heap.get? r.1 = some r.2) → 0 < s''.toks → Hd x t I Lg ea it m p s'' := by
  obtain ⟨go, h1⟩ := H.gI
  obtain ⟨lo, es, ep, h2, h2'⟩ := H.ns
  obtain ⟨old, h3⟩ := H.en
  obtain ⟨io, h4, h4'⟩ := H.ti
  obtain ⟨eo, h3, heo⟩ : ∃ eo, s.heap.get? ea = some eo ∧ eo = _ := ⟨_, h3, rfl⟩
  refine ⟨[(I, go), (Lg, lo), (ea, eo), (it, io)], rfl, fun r hr => ?_, fun s'' hs hp => ?_⟩
  · simp only [List.mem_cons, List.not_mem_nil, or_false] at hr
    rcases hr with rfl | rfl | rfl | rfl
    · exact h1
    · exact h2
    · exact h3
    · exact h4
  · exact ⟨⟨go, hs (I, go) (by simp)⟩, ⟨lo, es, ep, hs (Lg, lo) (by simp), h2'⟩, ⟨old, (hs (ea, eo) (by simp)).trans (congrArg some heo)⟩, ⟨io, hs (it, io) (by simp), h4'⟩, hp⟩
theorem Hd.keeps {x : Str} {t : Tok} {I Lg ea it : Addr} {m : Str → Option Value} {p : Nat} {s : Shared} (H : Hd x t I Lg ea it m p s) {h' : Heap} {tk : Nat} (hk : ∀ b o, s.heap.get? b = some o → h'.get? b = some o) (ht : 0 < tk) :
    Hd x t I Lg ea it m p { s with heap := h', toks := tk } :=
  let ⟨go, h1⟩ := H.gI
  let ⟨old, h3⟩ := H.en
  let ⟨io, h4, h4'⟩ := H.ti
  ⟨⟨go, hk _ _ h1⟩, H.ns.keeps hk, ⟨old, hk _ _ h3⟩, ⟨io, hk _ _ h4, h4'⟩, ht⟩
/-- a local of the generator is stored -/
theorem Hd.store {prog : Program} {w : World} {A : Around} {x : Str} {t : Tok} {I Lg ea it : Addr} {m : Str → Option Value} {p : Nat} {s : Shared} {env : Env} (ap : Ap I Lg ea it) (H : Hd x t I Lg ea it m p s) (hL : env.locals = Lg) (hk : env.scope.kind = .function) {n : Str} {v : Value} {Q : Unit → Shared → Prop} {E : Value → Shared → Prop}
    (hn : env.kindOf n = some .local) (hQ : ∀ s', Hd x t I Lg ea it (fun y => if y = n then some v else m y) p s' → Kp (· = Lg) s s' → s'.heap.objs.size = s.heap.objs.size → Q () s') : wpAny (model prog w) A (storeName env n v) Q E s := by
  subst hL
  have nd := ap.nd
  simp only [List.nodup_cons, List.mem_cons, List.not_mem_nil, or_false, not_or, List.nodup_nil, not_false_eq_true, and_true] at nd
  obtain ⟨go, h1⟩ := H.gI
  obtain ⟨old, h3⟩ := H.en
  obtain ⟨io, h4, h4'⟩ := H.ti
  refine wpAny_storeName_local hn H.ns (fun h' hns hs => hQ _ ⟨⟨go, (hs.2 _ nd.1.1).trans h1⟩, hns, ⟨old, (hs.2 _ (Ne.symm nd.2.1.1)).trans h3⟩, ⟨io, (hs.2 _ (Ne.symm nd.2.1.2)).trans h4, h4'⟩, Nat.succ_pos _⟩ ⟨⟨_, _, rfl⟩, Nat.succ_pos _, fun b o hb e => (hs.2 b hb).trans e⟩ hs.1) (by rw [hk]; rfl)
end Mine
end P30
section P31
open PySem PySem.W PyProof.Rows PySem.Calls PySem.Spec PySem.W.X
namespace Mine
abbrev nPos : Str := Str.ofString "pos"
abbrev nCh : Str := Str.ofString "ch"
abbrev nEsc : Str := Str.ofString "escape"
abbrev bsl : Str := Str.ofString "\\"
theorem bsl_eq : bsl = ⟨#[92]⟩ := by decide
section
variable {q1 q2 q3 q4 q5 q6 q7 q8 q9 q10 q11 q12 q13 q14 q15 q16 q17 q18 q19 q20 q21 q22 q23 q24 q25 q26 q27 : Pos} {prog : Program} {w : World} {A : Around} {env : Env} {x : Str} {t : Tok} {I Lg ea it : Addr}
abbrev tgG (q1 q2 q3 : Pos) : Expr := .Tuple [.Name nPos q1, .Name nCh q2] 0 q3
abbrev yB (q2 q3 q4 q5 q6 q7 q8 : Pos) : Stmt := .Expr (.Yield (some (.Tuple [.Name nPos q2, .BinOp (.Constant (.str bsl) 0 q3) .Add (.Name nCh q4) q5] 0 q6)) q7) q8
abbrev yC (q18 q19 q20 q21 q22 : Pos) : Stmt := .Expr (.Yield (some (.Tuple [.Name nPos q18, .Name nCh q19] 0 q20)) q21) q22
abbrev sE (b : Bool) (q9 q10 q11 : Pos) : Stmt := .Assign [.Name nEsc q9] (.Constant (.bool b) 0 q10) q11
theorem kPos (hs : env.scope = sc_iter) : env.kindOf nPos = some .local := by show env.scope.names.lookup _ = _; rw [hs]; rfl
theorem kCh (hs : env.scope = sc_iter) : env.kindOf nCh = some .local := by show env.scope.names.lookup _ = _; rw [hs]; rfl
theorem kEsc (hs : env.scope = sc_iter) : env.kindOf nEsc = some .local := by show env.scope.names.lookup _ = _; rw [hs]; rfl
theorem kFun (hs : env.scope = sc_iter) : env.scope.kind = .function := by rw [hs] <;> rfl
/-- a name of the generator's is read -/
theorem ldG {s : Shared} {n : Str} {q : Pos} {m : Str → Option Value} {v : Value} {Q E : Value → Shared → Prop} (hs : env.scope = sc_iter) (hL : env.locals = Lg) (hk : env.kindOf n = some .local) (hd : (n == ("__debug__" : Str)) = false) (hn : s.heap.Ns Lg m) (hv : m n = some v) (hQ : Q v s) :
    wpAny (model prog w) A (eval (.Name n q) env) Q E s := wpAny_Name (wpAny_loadName_local (kFun hs) hk (by rw [hL]; exact hn) hv hQ) hd
/-- the pair (pos, '\\' + ch) is made -/
theorem mkB {m : Str → Option Value} {p c : Nat} {t1 t2 : Tok} {s : Shared} {Q E : Value → Shared → Prop} (hs : env.scope = sc_iter) (hL : env.locals = Lg) (H : Hd x t I Lg ea it m p s) {i : Int} (h1 : m nPos = some (.int i t1)) (h2 : m nCh = some (.str ⟨#[c]⟩ t2))
    (hQ : ∀ v s', Kp (fun _ => False) s s' → (∀ q α, ItemOK q α (.two (.int (.c i)) (.str [92, c])) v s'.heap) → Q v s') :
    wpAny (model prog w) A (eval (.Tuple [.Name nPos q2, .BinOp (.Constant (.str bsl) 0 q3) .Add (.Name nCh q4) q5] 0 q6) env) Q E s := by
  refine Tuple_ (spliced_more (ldG hs hL (kPos hs) (by decide) H.ns h1 (spliced_more (wpAny_BinOp ?_) rfl)) rfl)
  refine wpAny_Constant_str (ldG hs hL (kCh hs) (by decide) (m := m) H.ns h2 ?_)
  refine pos_toks (Nat.succ_pos _) (SB.add (fun t' k hk => ?_) (by show 1 + 1 ≤ sizeLine; decide))
  refine spliced_none (wpAny_newObj_type (hQ _ _ ⟨⟨_, _, rfl⟩, hk, fun b o _ e => Heap.get?_push_of_some _ e⟩ fun q α => ⟨_, _, _, rfl, ⟨_, Heap.get?_push_size _ rfl, rfl, _, rfl⟩, rfl, ?_⟩) (by show 2 ≤ sizeLine; decide))
  show bsl ++ ⟨#[c]⟩ = ⟨[92, c].toArray⟩
  rw [bsl_eq]
  rfl
theorem mkC {m : Str → Option Value} {p c : Nat} {t1 t2 : Tok} {s : Shared} {Q E : Value → Shared → Prop} (hs : env.scope = sc_iter) (hL : env.locals = Lg) (H : Hd x t I Lg ea it m p s) {i : Int} (h1 : m nPos = some (.int i t1)) (h2 : m nCh = some (.str ⟨#[c]⟩ t2))
    (hQ : ∀ v s', Kp (fun _ => False) s s' → (∀ q α, ItemOK q α (.two (.int (.c i)) (.str [c])) v s'.heap) → Q v s') :
    wpAny (model prog w) A (eval (.Tuple [.Name nPos q2, .Name nCh q4] 0 q6) env) Q E s := by
  refine Tuple_ (spliced_more (ldG hs hL (kPos hs) (by decide) H.ns h1 (spliced_more (ldG hs hL (kCh hs) (by decide) H.ns h2 ?_) rfl)) rfl)
  exact spliced_none (wpAny_newObj_type (hQ _ _ ⟨⟨_, _, rfl⟩, H.pos, fun b o _ e => Heap.get?_push_of_some _ e⟩ fun q α => ⟨_, _, _, rfl, ⟨_, Heap.get?_push_size _ rfl, rfl, _, rfl⟩, rfl, rfl⟩) (by show 2 ≤ sizeLine; decide))
theorem mkE {m : Str → Option Value} {t1 : Tok} {s : Shared} {Q E : Value → Shared → Prop} (hs : env.scope = sc_iter) (hL : env.locals = Lg) (hn : s.heap.Ns Lg m) {i : Int} (h1 : m nPos = some (.int i t1))
    (hQ : ∀ v s', Kp (fun _ => False) s s' → (∀ q α, ItemOK q α (.two (.int (.c i)) (.str [92])) v s'.heap) → Q v s') :
    wpAny (model prog w) A (eval (.Tuple [.Name nPos q2, .Constant (.str bsl) 0 q3] 0 q6) env) Q E s := by
  refine Tuple_ (spliced_more (ldG hs hL (kPos hs) (by decide) hn h1 (spliced_more (wpAny_Constant_str ?_) rfl)) rfl)
  refine spliced_none (wpAny_newObj_type (hQ _ _ ⟨⟨_, _, rfl⟩, Nat.succ_pos _, fun b o _ e => Heap.get?_push_of_some _ e⟩ fun q α => ⟨_, _, _, rfl, ⟨_, Heap.get?_push_size _ rfl, rfl, _, rfl⟩, rfl, ?_⟩) (by show 2 ≤ sizeLine; decide))
  show bsl = _
  rw [bsl_eq]
end
end Mine
end P31
section P32
open PySem PySem.W PyProof.Rows PySem.Calls PySem.Spec PySem.W.X
namespace Mine
section
variable {q1 q2 q3 q4 q5 q6 q7 q8 q9 q10 q11 q12 q13 q14 q15 q16 q17 q18 q19 q20 q21 q22 q23 q24 q25 q26 q27 : Pos} {prog : Program} {w : World} {A : Around} {env : Env} {x : Str} {t : Tok} {I Lg ea it : Addr} {HB : Heap → Prop}
abbrev ifC (q12 q13 q14 q15 q16 q17 q18 q19 q20 q21 q22 q23 : Pos) : Stmt := .If (.Compare (.Name nCh q12) [.Eq] [.Constant (.str bsl) 0 q13] q14) [sE true q15 q16 q17] [yC q18 q19 q20 q21 q22] q23
abbrev bodG (q1 q2 q3 q4 q5 q6 q7 q8 q9 q10 q11 q12 q13 q14 q15 q16 q17 q18 q19 q20 q21 q22 q23 q24 : Pos) : List Stmt :=
  [.If (.Name nEsc q1) [yB q2 q3 q4 q5 q6 q7 q8, sE false q9 q10 q11] [ifC q12 q13 q14 q15 q16 q17 q18 q19 q20 q21 q22 q23] q24]
theorem Kp.weak {c c' : Addr → Prop} {s s' : Shared} (h : Kp c s s') (hc : ∀ a, c a → c' a) : Kp c' s s' := ⟨h.st, h.pos, fun b o hb e => h.keep b o (fun q => hb (hc b q)) e⟩
theorem Hd.kp0 {m : Str → Option Value} {p : Nat} {s s' : Shared} (H : Hd x t I Lg ea it m p s) (h : Kp (fun _ => False) s s') : Hd x t I Lg ea it m p s' := by
  obtain ⟨h', tk, rfl⟩ := h.st
  exact H.keeps (fun b o e => h.keep b o (fun q => q) e) h.pos
/-- escape = b -/
theorem stE {c : Code} {fs : List Frame} {P : End → Shared → Prop} {K : Flow → Sem PySem.Fin} {Hh : Value → Sem PySem.Fin} {gd lv} {b : Bool} {m : Str → Option Value} {p : Nat} {s : Shared} (ap : Ap I Lg ea it) (hs : env.scope = sc_iter) (hL : env.locals = Lg) (H : Hd x t I Lg ea it m p s)
    (h : ∀ s', Hd x t I Lg ea it (fun y => if y = nEsc then some (.bool b) else m y) p s' → Kp (· = Lg) s s' → SegX (model prog w) A c (K .next) fs s' P) :
    SegX (model prog w) A c ((execs [sE b q9 q10 q11] env).wrap K Hh gd lv) fs s P := by
  refine sx_cons (sx_wrap (wpAny_Assign_Name (wpAny_Constant_bool (H.store ap hL (kFun hs) (kEsc hs) fun s' H' k hz => ?_)) rfl))
  exact sx_nil (h s' H' k)
/-- a yield inside the loop: what is asked of the rest -/
theorem yieldG {fs : List Frame} {cl : Code} {K : Flow → Sem PySem.Fin} {Hh : Value → Sem PySem.Fin} {gd : Bool → Bool} {lv} {e : Expr} {y1 y2 : Pos} {m : Str → Option Value} {p : Nat} {s s₀ : Shared} {xi : Item} {xs : List Item} (ap : Ap I Lg ea it)
    (hfs : splitAtGen fs = none) (hgd : gd false = false) (hfg : fs.any Frame.guarded = false) (H : Hd x t I Lg ea it m p s) (k0 : Kp (· ∈ [Lg, ea, it]) s₀ s) (hco : env.scope.isCoroutine = false) (hi : interactive env = false)
    (hmk : ∀ (Q E : Value → Shared → Prop), (∀ v s', Kp (fun _ => False) s s' → (∀ q α, ItemOK q α xi v s'.heap) → Q v s') → wpAny (model prog w) (A.over cl fs) (eval e env) Q E s)
    (h : ∀ s'', Hd x t I Lg ea it m p s'' → SegX (model prog w) A cl (K .next) fs s'' (PG HB I prog w A xs (· ∈ [I, Lg, ea, it]) (· ∈ [Lg, ea, it]) s'')) :
    SegX (model prog w) A cl ((exec (.Expr (.Yield (some e) y1) y2) env).wrap K Hh gd lv) fs s (PG HB I prog w A (xi :: xs) (· ∈ [I, Lg, ea, it]) (· ∈ [Lg, ea, it]) s₀) := by
  refine sx_Yield hfs hgd hfg (hmk _ _ fun v s' k1 hit k l p' hk => ?_) hco hi
  obtain ⟨own, ho1, ho2, ho3⟩ := (H.kp0 k1).own
  refine ⟨v, l, k, cl, p', fs, own, rfl, fun r hr => ⟨ho2 r hr, ho1 ▸ List.mem_map_of_mem hr⟩, ?_, ho1 ▸ ap.nd, k0.trans (k1.weak fun _ q => q.elim), hit, ?_, by show (!(false || fs.any Frame.guarded)) = true; rw [hfg]; rfl⟩
  · obtain ⟨r, hr, e⟩ := List.mem_map.mp (show I ∈ own.map (·.1) by rw [ho1]; exact List.mem_cons_self)
    exact ⟨r.2, by rw [← e]; exact hr⟩
  refine GFeed.of ⟨cl, k (.send .none), fs, .inr ⟨k, l, p', _, rfl, rfl⟩, fun s'' hp _ ho => ?_⟩
  refine (hk s'' _ (h s'' (ho3 s'' ho hp))).mono fun e' s3 hpg => hpg.from (fun a ha => .inl ?_) fun kk => kk.weak fun a ha => ?_
  · rw [← ho1] at ha
    obtain ⟨r, hr, e⟩ := List.mem_map.mp ha
    exact ⟨r, hr, e⟩
  · have ha' : a ∈ own.map (·.1) := by rw [ho1]; exact List.mem_cons_of_mem _ ha
    obtain ⟨r, hr, e⟩ := List.mem_map.mp ha'
    have nd := ap.nd
    rw [List.nodup_cons] at nd
    exact ⟨fun q => nd.1 (q ▸ ha), r, hr, e⟩
theorem loopG {kb : Result → Sem PySem.Fin} {c0 : Code} {p0 : Pos} (hh : A.handled = none) (ap : Ap I Lg ea it) (hs : env.scope = sc_iter) (hL : env.locals = Lg) (hi : interactive env = false)
    (tail : ∀ s m b p, (∃ o, s.heap.get? I = some o) → s.heap.Ns Lg m → 0 < s.toks → m nEsc = some (.bool b) → (b = true → ∃ t', m nPos = some (.int ((p : Nat) - 1 : Int) t')) →
      SegX (model prog w) A c0 (kb (.ok .next)) [] s (PG HB I prog w A (escIt b p []) (· ∈ [I, Lg, ea, it]) (· ∈ [Lg, ea, it]) s)) :
    ∀ (cs : List Nat) (b : Bool) (p : Nat) (m : Str → Option Value) (s : Shared), Hd x t I Lg ea it m p s → x.cps.toList.drop p = cs → p ≤ x.cps.size → m nEsc = some (.bool b) → (b = true → ∃ t', m nPos = some (.int ((p : Nat) - 1 : Int) t')) →
      SegX (model prog w) A (.forLoop (tgG q25 q26 q27) (.ref ea) (bodG q1 q2 q3 q4 q5 q6 q7 q8 q9 q10 q11 q12 q13 q14 q15 q16 q17 q18 q19 q20 q21 q22 q23 q24) [] env)
        (denote table (.forLoop (tgG q25 q26 q27) (.ref ea) (bodG q1 q2 q3 q4 q5 q6 q7 q8 q9 q10 q11 q12 q13 q14 q15 q16 q17 q18 q19 q20 q21 q22 q23 q24) [] env)) [.ret kb none false [] c0 p0 []] s (PG HB I prog w A (escIt b p cs) (· ∈ [I, Lg, ea, it]) (· ∈ [Lg, ea, it]) s) := by
  have nd := ap.nd
  simp only [List.nodup_cons, List.mem_cons, List.not_mem_nil, or_false, not_or, List.nodup_nil, not_false_eq_true, and_true] at nd
  obtain ⟨⟨n1, n2, n3⟩, ⟨n4, n5⟩, n6⟩ := nd
  have hco : env.scope.isCoroutine = false := by rw [hs] <;> rfl
  generalize hF : ([.ret kb none false [] c0 p0 []] : List Frame) = fs
  generalize hcl : (Code.forLoop (tgG q25 q26 q27) (.ref ea) (bodG q1 q2 q3 q4 q5 q6 q7 q8 q9 q10 q11 q12 q13 q14 q15 q16 q17 q18 q19 q20 q21 q22 q23 q24) [] env) = cl
  have hfs : splitAtGen fs = none := by subst hF; rfl
  have hfg : fs.any Frame.guarded = false := by subst hF; rfl
  have hhA : (A.over cl fs).handled = none := by subst hF; exact hh
  have D := Draws.strAscii (prog := prog) (w := w) (A := (A.over cl fs).in1) (show (A.over cl fs).in1.handled = none from hhA) it x t
  rw [← hcl] at D hhA
  intro cs
  induction cs with
  | nil =>
    intro b p m s H hd hp hb hq
    have hpe : p = x.cps.size := by
      have := List.drop_eq_nil_iff.mp hd
      simp at this
      omega
    subst hpe
    rw [← hcl]
    obtain ⟨old, hen⟩ := H.en
    refine sx_forLoop (wpAny_pyNext_enum_endD D hen H.ti fun h' he => ?_)
    subst hF
    refine sx_block (sx_done ((tail { s with heap := h' } m b _ ?_ ?_ H.pos hb hq).mono fun e s' hpg => hpg.from (fun a ha => ha) fun kk => Kp.trans ⟨⟨h', s.toks, rfl⟩, H.pos, fun a o ha e => he a o (fun q => ha (by rw [q]; simp)) e⟩ kk))
    · obtain ⟨o, ho⟩ := H.gI
      exact ⟨o, he I o n3 ho⟩
    · exact H.ns.extBut he n5
  | cons ch cs ih =>
    intro b p m s H hd hp hb hq
    have hlt : p < x.cps.size := by
      have : p < x.cps.toList.length := by
        refine Nat.lt_of_not_le fun h => ?_
        rw [List.drop_eq_nil_iff.mpr h] at hd
        cases hd
      simpa using this
    have hch : x.cps[p]? = some ch := by
      have := congrArg (fun l => l[0]?) hd
      simpa using this
    have hd' : x.cps.toList.drop (p + 1) = cs := by
      have := congrArg (List.drop 1) hd
      simpa [List.drop_drop, Nat.add_comm] using this
    rw [← hcl]
    obtain ⟨old, hen⟩ := H.en
    refine sx_forLoop (wpAny_pyNext_enum_itemD D hen H.ti hlt n6 (by simpa using n6) fun xv h' tk hP heo hti ht hz hk => ?_)
    obtain ⟨c', u, hc', rfl⟩ := hP
    rw [hch] at hc'; cases hc'
    refine wpAny_letOwnedTupleGo_enum heo fun h₂ he₂ hs₂ => ?_
    replace hs₂ : Heap.SameBut ea h' h₂ := hs₂
    have hne' : s.heap.objs.size ≠ ea := Nat.ne_of_gt (Heap.lt_size hen)
    refine wpAny_assign_Tuple hhA (items := #[.int p tk, .str ⟨#[ch]⟩ u]) ⟨_, (hs₂.2 _ hne').trans ht, rfl, _, rfl⟩ rfl rfl fun h₃ he₃ => ?_
    have hz₂ : h₂.objs.size = s.heap.objs.size + 1 := by rw [hs₂.1, hz]
    have old3 : ∀ a o, a ≠ ea → a ≠ it → s.heap.get? a = some o → h₃.get? a = some o := fun a o h1 h2 e => he₃ a o (Nat.ne_of_lt (show a < h₂.objs.size by rw [hz₂]; exact Nat.lt_succ_of_lt (Heap.lt_size e))) ((hs₂.2 a h1).trans (hk a o h1 h2 e))
    have up3 : ∀ a o, h₂.get? a = some o → h₃.get? a = some o := fun a o e => he₃ a o (Nat.ne_of_lt (Heap.lt_size e)) e
    obtain ⟨io, hio, hio'⟩ := hti
    have hIO : h₃.get? it = some io := up3 it io ((hs₂.2 it (Ne.symm n6)).trans hio)
    have H3 : Hd x t I Lg ea it m (p + 1) { s with heap := h₃, toks := tk + 1 } := by
      obtain ⟨go, hgo⟩ := H.gI
      obtain ⟨lo, es, ep, hlo, hlo'⟩ := H.ns
      exact ⟨⟨go, old3 I go n2 n3 hgo⟩, ⟨lo, es, ep, old3 Lg lo n4 n5 hlo, hlo'⟩, ⟨_, up3 ea _ he₂⟩, ⟨io, hIO, hio'⟩, Nat.succ_pos _⟩
    have K3 : Kp (· ∈ [Lg, ea, it]) s { s with heap := h₃, toks := tk + 1 } := ⟨⟨_, _, rfl⟩, Nat.succ_pos _, fun a o ha e => old3 a o (fun q => ha (by simp [q])) (fun q => ha (by simp [q])) e⟩
    refine wpAny_assignInOrder_more (wpAny_assign_Name (H3.store ap hL (kFun hs) (kPos hs) fun s4 H4 K4 _ => ?_))
    refine wpAny_assignInOrder_more (wpAny_assign_Name (H4.store ap hL (kFun hs) (kCh hs) fun s5 H5 K5 _ => ?_))
    refine wpAny_assignInOrder_none ?_
    have k5 : Kp (· ∈ [Lg, ea, it]) s s5 := (K3.trans (K4.weak fun a ha => by simp [show a = Lg from ha])).trans (K5.weak fun a ha => by simp [show a = Lg from ha])
    have vP : (fun y => if y = nCh then some (Value.str ⟨#[ch]⟩ u) else (fun y => if y = nPos then some (Value.int p tk) else m y) y) nPos = some (.int (p : Int) tk) := rfl
    have vC : (fun y => if y = nCh then some (Value.str ⟨#[ch]⟩ u) else (fun y => if y = nPos then some (Value.int p tk) else m y) y) nCh = some (.str ⟨#[ch]⟩ u) := rfl
    have vE : (fun y => if y = nCh then some (Value.str ⟨#[ch]⟩ u) else (fun y => if y = nPos then some (Value.int p tk) else m y) y) nEsc = some (.bool b) := hb
    generalize (fun y => if y = nCh then some (Value.str ⟨#[ch]⟩ u) else (fun y => if y = nPos then some (Value.int p tk) else m y) y) = m5 at H5 vP vC vE
    refine sx_cons (sx_If (isTrue_plain (ldG hs hL (kEsc hs) (by decide) H5.ns vE (wpAny_truthy_bool ?_)) rfl))
    have again : ∀ (K : Flow → Sem PySem.Fin) b' m' s6, K .next = .pure (.again cl) → Hd x t I Lg ea it m' (p + 1) s6 → m' nEsc = some (.bool b') → (b' = true → m' nPos = some (.int (p : Int) tk)) →
        SegX (model prog w) A cl (K .next) fs s6 (PG HB I prog w A (escIt b' (p + 1) cs) (· ∈ [I, Lg, ea, it]) (· ∈ [Lg, ea, it]) s6) := by
      intro K b' m' s6 hK H6 hb' hq'
      rw [hK]
      refine s_again prog w A cl fs _ s6 cl (by subst hcl; rfl) (ih b' (p + 1) m' s6 H6 hd' hlt hb' fun q => ⟨tk, ?_⟩)
      rw [hq' q]
      simp
    cases b with
    | true =>
      simp only [if_true]
      refine sx_cons (yieldG ap hfs rfl hfg H5 k5 hco hi (fun Q E hQ => mkB hs hL H5 vP vC hQ) fun s6 H6 => ?_)
      refine stE ap hs hL H6 fun s7 H7 k7 => ?_
      rw [hcl]
      refine (again (fun f => bodyK cl f) false _ s7 rfl H7 rfl (fun q => nomatch q)).mono fun e s' hpg => hpg.from (fun a ha => ha) fun kk => Kp.trans (k7.weak fun a ha => by simp [show a = Lg from ha]) kk
    | false =>
      simp only [Bool.false_eq_true, if_false]
      refine sx_cons (sx_If (wpAny_isTrue_Compare1 (ldG hs hL (kCh hs) (by decide) H5.ns vC (wpAny_Constant_str (PyProof.Rows.eq_str ?_))) rfl))
      refine wpAny_truthy_bool ?_
      have hcmp : ((⟨#[ch]⟩ : Str) == bsl) = Nat.beq ch 92 := by
        rw [bsl_eq]
        cases hcc : Nat.beq ch 92 with
        | true => rw [Nat.eq_of_beq_eq_true hcc]; rfl
        | false =>
          refine beq_eq_false_iff_ne.mpr fun e => ?_
          have : ch = 92 := by injection e with e; injection e with e; injection e
          rw [this] at hcc; cases hcc
      rw [hcmp]
      have H5' : Hd x t I Lg ea it m5 (p + 1) { s5 with toks := s5.toks + 1 } := H5.keeps (h' := s5.heap) (fun _ _ e => e) (Nat.succ_pos _)
      have k5' : Kp (· ∈ [Lg, ea, it]) s { s5 with toks := s5.toks + 1 } := k5.trans ⟨⟨s5.heap, _, rfl⟩, Nat.succ_pos _, fun _ _ _ e => e⟩
      cases hcc : Nat.beq ch 92 with
      | true =>
        simp only [if_true, escIt, hcc]
        refine stE ap hs hL H5' fun s7 H7 k7 => ?_
        rw [hcl]
        exact (again (fun f => bodyK cl f) true _ s7 rfl H7 rfl (fun _ => vP)).mono fun e s' hpg => hpg.from (fun a ha => ha) fun kk => (k5'.trans (k7.weak fun a ha => by simp [show a = Lg from ha])).trans kk
      | false =>
        simp only [Bool.false_eq_true, if_false, escIt, hcc]
        rw [hcl]
        refine sx_cons (yieldG ap hfs rfl hfg H5' k5' hco hi (fun Q E hQ => mkC hs hL H5' vP vC hQ) fun s6 H6 => ?_)
        exact sx_nil (again (fun f => bodyK cl f) false m5 s6 rfl H6 vE (fun q => nomatch q))
end
end Mine
end P32
section P33
open PySem PySem.W PyProof.Rows PySem.Calls PySem.Spec PySem.W.X
namespace Mine
abbrev nAddr : Str := Str.ofString "addr"
abbrev nEnum : Str := Str.ofString "enumerate"
abbrev HBe : Heap → Prop := fun h => GlobV h nEnum (.type "enumerate")
section
variable {prog : Program} {w : World} {A : Around} {env : Env} {x : Str} {t : Tok} {I Lg : Addr}
theorem stL {s : Shared} {n : Str} {v : Value} {m : Str → Option Value} {Q : Unit → Shared → Prop} {E : Value → Shared → Prop} (hs : env.scope = sc_iter) (hL : env.locals = Lg) (hne : I ≠ Lg) (hn : env.kindOf n = some .local) (hns : s.heap.Ns Lg m) (hI : ∃ o, s.heap.get? I = some o)
    (hQ : ∀ s', s'.heap.Ns Lg (fun y => if y = n then some v else m y) → (∃ o, s'.heap.get? I = some o) → Kp (· = Lg) s s' → s'.heap.objs.size = s.heap.objs.size → Q () s') : wpAny (model prog w) A (storeName env n v) Q E s := by
  subst hL
  obtain ⟨o, ho⟩ := hI
  exact wpAny_storeName_local hn hns (fun h' hns' hsb => hQ _ hns' ⟨o, (hsb.2 _ hne).trans ho⟩ ⟨⟨_, _, rfl⟩, Nat.succ_pos _, fun b o hb e => (hsb.2 b hb).trans e⟩ hsb.1) (by rw [kFun hs]; rfl)
theorem inter (hs : env.scope = sc_iter) : interactive env = false := by unfold interactive; rw [kFun hs]; rfl
/-- behind the loop -/
theorem tailG {HB : Heap → Prop} {ea it : Addr} {q1 q2 q3 q4 q5 q6 q7 : Pos} {c0 : Code} {K0 : Flow → Sem PySem.Fin} {H0 : Value → Sem PySem.Fin} (hs : env.scope = sc_iter) (hL : env.locals = Lg) (hne : I ≠ Lg) (hK : K0 .next = .pure (.done (.ret .none)))
    (s : Shared) (m : Str → Option Value) (b : Bool) (p : Nat) (hI : ∃ o, s.heap.get? I = some o) (hn : s.heap.Ns Lg m) (ht : 0 < s.toks) (hb : m nEsc = some (.bool b)) (hq : b = true → ∃ t', m nPos = some (.int ((p : Nat) - 1 : Int) t')) :
    SegX (model prog w) A c0 ((execs [.If (.Name nEsc q1) [.Expr (.Yield (some (.Tuple [.Name nPos q2, .Constant (.str bsl) 0 q3] 0 q4)) q5) q6] [] q7] env).wrap K0 H0 id id) [] s (PG HB I prog w A (escIt b p []) (· ∈ [I, Lg, ea, it]) (· ∈ [Lg, ea, it]) s) := by
  refine sx_cons (sx_If (isTrue_plain (ldG hs hL (kEsc hs) (by decide) hn hb (wpAny_truthy_bool ?_)) rfl))
  have fin : ∀ s, 0 < s.toks → SegX (model prog w) A c0 (K0 .next) [] s (PG HB I prog w A [] (· ∈ [I, Lg, ea, it]) (· ∈ [Lg, ea, it]) s) := fun s hp => by
    rw [hK]
    exact s_end prog w A c0 _ s (.ok (.ret .none)) _ rfl ⟨rfl, ⟨⟨s.heap, s.toks, rfl⟩, hp, fun _ _ _ e => e⟩⟩
  cases b with
  | false =>
    simp only [Bool.false_eq_true, if_false]
    exact sx_nil (sx_nil (fin s ht))
  | true =>
    simp only [if_true]
    obtain ⟨t', hp⟩ := hq rfl
    refine sx_cons (sx_Yield rfl rfl rfl (mkE hs hL hn hp fun v s' k1 hit k l p' hk => ?_) (by rw [hs] <;> rfl) (inter hs))
    obtain ⟨o, ho⟩ := hI
    obtain ⟨lo, es, ep, hlo, _⟩ := hn
    refine ⟨v, l, k, c0, p', [], [(I, o), (Lg, lo)], rfl, fun r hr => ?_, ⟨o, List.mem_cons_self⟩, by simpa using hne, k1.weak fun _ q => q.elim, hit, ?_, rfl⟩
    · simp only [List.mem_cons, List.not_mem_nil, or_false] at hr
      rcases hr with rfl | rfl
      · exact ⟨k1.keep _ _ (fun q => q) ho, by simp⟩
      · exact ⟨k1.keep _ _ (fun q => q) hlo, by simp⟩
    · refine GFeed.of ⟨c0, k (.send .none), [], .inr ⟨k, l, p', _, rfl, rfl⟩, fun s'' hp'' _ ho'' => ?_⟩
      refine hk s'' _ ?_
      refine sx_nil (sx_nil ?_)
      rw [hK]
      exact s_end prog w A c0 _ s'' (.ok (.ret .none)) _ rfl ⟨rfl, ⟨⟨s''.heap, s''.toks, rfl⟩, hp'', fun _ _ _ e => e⟩⟩
theorem startG (hh : A.handled = none) (hs : env.scope = sc_iter) (hL : env.locals = Lg) (hgl : env.globals = mainGlobals) (hbl : env.builtins = builtinsNs) (hne : I ≠ Lg) (hg1 : mainGlobals ≠ Lg) (hb1 : builtinsNs ≠ Lg) {m : Str → Option Value} (hx : x.cps.all (· < 128) = true)
    (s : Shared) (hI : ∃ o, s.heap.get? I = some o) (hn : s.heap.Ns Lg m) (hm : m nAddr = some (.str x t)) (hg : HBe s.heap) :
    SegX (model prog w) A (.func bo_iter env) (denote table (.func bo_iter env)) [] s (PG HBe I prog w A (escIt false 0 x.cps.toList) (fun a => (a = I ∨ a = Lg) ∨ s.heap.objs.size ≤ a) (fun a => a = Lg) s) := by
  have hIs : I < s.heap.objs.size := let ⟨o, ho⟩ := hI; Heap.lt_size ho
  have hLs : Lg < s.heap.objs.size := hn.lt
  refine sx_func ?_
  refine sx_cons (sx_wrap (wpAny_Assign_Name (wpAny_Constant_int (stL hs hL hne (kPos hs) (m := m) hn hI fun s1 n1 I1 k1 z1 => ?_)) rfl))
  refine sx_cons (sx_wrap (wpAny_Assign_Name (wpAny_Constant_bool (stL hs hL hne (kEsc hs) n1 I1 fun s2 n2 I2 k2 z2 => ?_)) rfl))
  have k02 : Kp (· = Lg) s s2 := Kp.trans (s' := s1) ⟨let ⟨h, tk, e⟩ := k1.st; ⟨h, tk, e⟩, k1.pos, k1.keep⟩ k2
  have z02 : s2.heap.objs.size = s.heap.objs.size := z2.trans z1
  refine sx_cons (sx_For (fun _ => rfl) (Call_ ?_ rfl))
  have hke : env.kindOf nEnum = some .globalImplicit := by show env.scope.names.lookup _ = _; rw [hs] <;> rfl
  have hka : env.kindOf nAddr = some .local := by show env.scope.names.lookup _ = _; rw [hs] <;> rfl
  refine Name_function_global (kFun hs) hke ?_ (by decide)
  have keepNs : ∀ (a : Addr) (mm : Str → Option Value), a ≠ Lg → s.heap.Ns a mm → s2.heap.Ns a mm := fun a mm ha ⟨o, es, ep, ho, hr⟩ => ⟨o, es, ep, k02.keep a o ha ho, hr⟩
  have m2a : (fun y => if y = nEsc then some (Value.bool false) else (fun y => if y = nPos then some (Value.int 0 s.toks) else m y) y) nAddr = some (.str x t) := hm
  have m2e : (fun y => if y = nEsc then some (Value.bool false) else (fun y => if y = nPos then some (Value.int 0 s.toks) else m y) y) nEsc = some (.bool false) := rfl
  generalize hm2 : (fun y => if y = nEsc then some (Value.bool false) else (fun y => if y = nPos then some (Value.int 0 s.toks) else m y) y) = m2 at n2 m2a m2e
  obtain ⟨mg, g1, g2⟩ := hg
  have g1' : s2.heap.Ns env.globals mg := by rw [hgl]; exact keepNs _ _ hg1 g1
  refine (?_ : ∀ (Q : Value → Shared → Prop) (E : Value → Shared → Prop), Q (.type "enumerate") s2 → wpAny (model prog w) (A.over (.func bo_iter env) []) (loadGlobal env nEnum) Q E s2) _ _ ?_
  · intro Q E hQ
    rcases g2 with g2 | ⟨g2, mb, g3, g4⟩
    · exact loadGlobal_global g1' g2 hQ
    · exact loadGlobal_builtin g1' g2 (by rw [hbl]; exact keepNs _ _ hb1 g3) g4 hQ
  refine PyProof.Rows.callWith_type1 (spliced_more (ldG hs hL hka (by decide) n2 m2a (spliced_none (call_enumerate_str fun h' he hit hz hk => wpAny_pyIter_enum he fun p => ?_))) rfl) rfl rfl
  rw [show strIterType x = "str_ascii_iterator" by unfold strIterType; rw [if_pos hx]] at hit
  have hIlt : I < s2.heap.objs.size := by rw [z02]; exact hIs
  have hLlt : Lg < s2.heap.objs.size := by rw [z02]; exact hLs
  have ap : Ap I Lg (s2.heap.objs.size + 1) s2.heap.objs.size := ⟨by
    simp only [List.nodup_cons, List.mem_cons, List.not_mem_nil, or_false, not_or, List.nodup_nil, not_false_eq_true, and_true]
    exact ⟨⟨hne, Nat.ne_of_lt (Nat.lt_succ_of_lt hIlt), Nat.ne_of_lt hIlt⟩, ⟨Nat.ne_of_lt (Nat.lt_succ_of_lt hLlt), Nat.ne_of_lt hLlt⟩, Nat.succ_ne_self _⟩⟩
  have H : Hd x t I Lg (s2.heap.objs.size + 1) s2.heap.objs.size m2 0 { s2 with heap := h' } := ⟨let ⟨o, ho⟩ := I2; ⟨o, hk _ _ ho⟩, n2.keeps hk, ⟨_, he⟩, hit, k02.pos⟩
  refine (loopG (HB := HBe) hh ap hs hL (inter hs) (fun s' m' b p' hI' hn' ht' hb' hq' => tailG hs hL hne rfl s' m' b p' hI' hn' ht' hb' hq') x.cps.toList false 0 m2 _ H rfl (Nat.zero_le _) m2e (fun q => nomatch q)).mono fun e s' hpg => hpg.from (fun a ha => ?_) fun kk => ?_
  · simp only [List.mem_cons, List.not_mem_nil, or_false] at ha
    rcases ha with rfl | rfl | rfl | rfl
    · exact .inl (.inl rfl)
    · exact .inl (.inr rfl)
    · exact .inr (by rw [z02]; exact Nat.le_succ _)
    · exact .inr (Nat.le_of_eq z02.symm)
  · obtain ⟨h2, tk2, rfl⟩ := k02.st
    obtain ⟨h3, tk3, rfl⟩ := kk.st
    refine ⟨⟨h3, tk3, rfl⟩, kk.pos, fun a o ha e => kk.keep a o (fun q => ?_) (hk a o (k02.keep a o ha e))⟩
    have hlt : a < h2.objs.size := by rw [show h2.objs.size = s.heap.objs.size from z02]; exact Heap.lt_size e
    simp only [List.mem_cons, List.not_mem_nil, or_false] at q
    rcases q with q | q | q
    · exact ha q
    · exact Nat.lt_irrefl _ (Nat.lt_of_lt_of_le (q ▸ hlt : h2.objs.size + 1 < h2.objs.size) (Nat.le_succ _))
    · exact Nat.lt_irrefl _ (q ▸ hlt : h2.objs.size < h2.objs.size)
end
end Mine
end P33
section P34
open PySem PySem.W PyProof.Rows PySem.Calls PySem.Spec PySem.W.X
namespace Mine
section
variable {prog : Program} {w : World} {A : Around} {E : Value → Shared → Prop} {s : Shared} {HB : Heap → Prop}
theorem resumeX {β : Type} {I : Addr} {Q : β → Shared → Prop} {gi : Nat} {gs : GenState} {l : List Value} {k : GenResult → Sem β} {own : Own} {P : (Addr → Prop) → (Addr → Prop) → Shared → End → Shared → Prop} (hg : s.gens[gi]? = some gs) (hw : Wk HB I prog w A own gs P)
    (hp : 0 < s.toks) (hb : HB s.heap) (ho : ∀ r ∈ own, s.heap.get? r.1 = some r.2)
    (h : ∀ e s₁, P (fun a => (∃ r ∈ own, r.1 = a) ∨ s.heap.objs.size ≤ a) (fun a => a ≠ I ∧ ∃ r ∈ own, r.1 = a) (s.setGen gi .running) e s₁ → wpAny (model prog w) A (k e.result) Q E (s₁.setGen gi e.genState)) :
    wpAny (model prog w) A (.resume gi (.send .none) l k) Q E s := by
  obtain ⟨c₀, t₀, fs₀, hgs, hx⟩ := hw
  refine wake_any β prog w (c₀ := c₀) (t₀ := t₀) (fs₀ := fs₀) hg ?_ (fun Γ => Γ.In A) (fun _ x => x) ((hx (s.setGen gi .running) hp hb ho).mono fun e s₁ hP => h e s₁ hP)
  rcases hgs with ⟨h1, h2, h3⟩ | ⟨k₀, l₀, p₀, cl, h1, h2⟩
  · exact .inl ⟨h1, rfl, h2, h3⟩
  · exact .inr ⟨k₀, l₀, p₀, cl, h1, h2⟩
theorem nextGen {I : Addr} {gi : Nat} {gs : GenState} {own : Own} {P : (Addr → Prop) → (Addr → Prop) → Shared → End → Shared → Prop} {Q : Option Value → Shared → Prop} (hh : A.handled = none) (hl : s.heap.NoLimit) (hroom : A.depth < recursionLimit)
    (hI : s.heap.IsGen I gi) (hg : s.gens[gi]? = some gs) (hw : Wk HB I prog w A.in1 own gs P) (hp : 0 < s.toks) (hb : HB s.heap) (ho : ∀ r ∈ own, s.heap.get? r.1 = some r.2)
    (h : ∀ e s₁, P (fun a => (∃ r ∈ own, r.1 = a) ∨ s.heap.objs.size ≤ a) (fun a => a ≠ I ∧ ∃ r ∈ own, r.1 = a) (s.setGen gi .running) e s₁ →
      (e = .ret (.ok (.ret .none)) ∧ ∀ h', (∀ b o, s₁.heap.get? b = some o → h'.get? b = some o) → Q none { s₁.setGen gi e.genState with heap := h' }) ∨ (∃ v g l k c p fs, e = .susp v g l k c p fs ∧ Q (some v) (s₁.setGen gi e.genState))) :
    wpAny (model prog w) A (pyNext (.ref I)) Q E s := by
  have alive : (∃ c, gs = .fresh c) ∨ ∃ k l c p fs cl, gs = .suspended k l c p fs cl := by
    obtain ⟨c₀, t₀, fs₀, hgs, _⟩ := hw
    rcases hgs with ⟨h1, _⟩ | ⟨k₀, l₀, p₀, cl, h1, _⟩
    · exact .inl ⟨_, h1⟩
    · exact .inr ⟨_, _, _, _, _, _, h1⟩
  unfold pyNext
  refine wpAny_bind (wpAny_attempt (wpAny_callSpecial?_slot (name := Str.ofString "__next__") hI.typeIs slot_gen_next (wpAny_call_entry slot_gen_next hI.typeIs entry_gen_next ?_ (args_gen_next _))))
  show wpAny _ A.in1 (Builtin.Generator.genWake (.ref I) (.send .none)) _ _ s
  unfold Builtin.Generator.genWake
  refine wpAny_bind (wpAny_holding (wpAny_genNumber hI (wpAny_bind (wpAny_genState hg ?_))))
  have go : ∀ (k : GenResult → Sem PySem.Fin) (Q' : PySem.Fin → Shared → Prop) (E' : Value → Shared → Prop), (∀ e s₁, P (fun a => (∃ r ∈ own, r.1 = a) ∨ s.heap.objs.size ≤ a) (fun a => a ≠ I ∧ ∃ r ∈ own, r.1 = a) (s.setGen gi .running) e s₁ → wpAny (model prog w) A.in1 (k e.result) Q' E' (s₁.setGen gi e.genState)) →
      wpAny (model prog w) A.in1 (.resume gi (.send .none) [] k) Q' E' s := fun k Q' E' hk => resumeX hg hw hp hb ho hk
  rcases alive with ⟨c, rfl⟩ | ⟨k, l, c, p, fs, cl, rfl⟩
  all_goals
    refine wpAny_bind (wpAny_roomToWake hl hroom ?_)
    refine go _ _ _ fun e s₁ hP => ?_
    rcases h e s₁ hP with ⟨rfl, hq⟩ | ⟨v, g, l, k, c, p, fs, rfl, hq⟩
    · show wpAny _ A.in1 (newExc (.type "StopIteration") [] >>= _) _ _ _
      refine wpAny_bind ?_
      simp only [newExc, newTuple]
      refine wpAny_bind (wpAny_newObj_type ?_ (by size_fits))
      refine wpAny_bind (m := firstArgMember _ _) (wpAny_of_eq (a := Value.none) (by first | rfl | (simp only [firstArgMember]; rfl)) ?_)
      refine wpAny_newObj_type ?_ (by size_fits)
      simp only [raiseNew]
      refine wpAny_bind (wpAny_bind (wpAny_handled ?_))
      rw [show A.in1.handled = none from hh]
      refine wpAny_throw ?_
      refine wpAny_bind (wpAny_isInstance (T := "StopIteration") (b := true) ⟨_, Heap.get?_push_size _ rfl, rfl⟩ isSubtype_stop ?_)
      exact wpAny_pure (hq _ fun b o hb => Heap.get?_push_of_some _ (Heap.get?_push_of_some _ hb))
    · exact wpAny_pure ⟨v, rfl, wpAny_pure hq⟩
end
end Mine
end P34
section P35
open PySem PySem.W PyProof.Rows PySem.Calls PySem.Spec PySem.W.X
namespace Mine
variable {g : Gl} {Γ : Sta} {lv : Nat}
theorem Rel.gens {c : Cx g Γ} {α : List Addr} {ext : List (Addr × Obj)} {G G' : List GenState} {st : PS} {s : Shared} (R : Rel c α ext G st s) {gs : Array GenState} (hb : AllBare gs) (hp : G' <+: gs.toList) : Rel c α ext G' st { s with gens := gs } :=
  let ⟨m, led, bl, R⟩ := R; ⟨m, led, bl, R.F, R.N, R.nd, R.la, R.lo, R.nn, R.bk, R.ce, hp, hb, R.tb, R.tk⟩
theorem AllBare.set {gs : Array GenState} {i : Nat} {x : GenState} (h : AllBare gs) (hx : x.bare = true) : AllBare (gs.setIfInBounds i x) := fun y hy => by
  rw [← Array.mem_toList_iff, Array.toList_setIfInBounds] at hy
  rcases List.mem_or_eq_of_mem_set hy with h1 | h1
  · exact h y (Array.mem_toList_iff.mp h1)
  · exact h1 ▸ hx
theorem set_app {β : Type} (a : List β) (x y : β) (b : List β) : (a ++ x :: b).set a.length y = a ++ y :: b := by
  rw [List.set_append_right _ _ (Nat.le_refl _), Nat.sub_self]; rfl
theorem GlobV.keeps {h h' : Heap} {x : Str} {v : Value} (hv : GlobV h x v) (hk : ∀ b o, h.get? b = some o → h'.get? b = some o) : GlobV h' x v := by
  obtain ⟨mg, h1, h2⟩ := hv
  refine ⟨mg, h1.keeps hk, h2.imp (fun x => x) fun ⟨a, mb, b, c⟩ => ⟨a, mb, b.keeps hk, c⟩⟩
structure GenO (o : Obj) (gi : Nat) : Prop where
  cls : o.cls = .type "generator"
  dat : ∃ nm qn, o.data = .fields #[.int gi 0, nm, qn]
  slo : o.slots = #[]
theorem GFeed.wk {HB : Heap → Prop} {I : Addr} {prog : Program} {w : World} {A : Around} {x : Item} {xs : List Item} {own : Own} {gs : GenState} (h : GFeed HB I prog w A (x :: xs) own gs) : Wk HB I prog w A own gs (PGc I x (GFeed HB I prog w A xs)) := h
theorem GFeed.wk0 {HB : Heap → Prop} {I : Addr} {prog : Program} {w : World} {A : Around} {own : Own} {gs : GenState} (h : GFeed HB I prog w A [] own gs) : Wk HB I prog w A own gs PGn := h
theorem feed_ok {c : Cx g Γ} {G : List GenState} {I : Addr} {go : Obj} {pre : List GenState} (hlim : ∀ h, g.B h → h.NoLimit) (hen : ∀ h, g.B h → GlobV h nEnum (.type "enumerate")) (hgo : GenO go (G ++ pre).length) :
    ∀ (L : List Item) (own : Own) (gs : GenState), (I, go) ∈ own → GFeed HBe I g.prog g.w c.A.in1 L own gs → Feed c G I L own (pre ++ [gs]) := by
  intro L
  induction L with
  | nil =>
    intro own gs hI hf α ext st s Q E R hQ
    obtain ⟨m, led, bl, R'⟩ := id R
    obtain ⟨tl, htl⟩ := R'.ge
    have htl' : s.gens.toList = (G ++ pre) ++ gs :: tl := by rw [← htl]; simp [List.append_assoc]
    have hg : s.gens[(G ++ pre).length]? = some gs := by rw [← Array.getElem?_toList, htl', List.getElem?_append_right (Nat.le_refl _), Nat.sub_self]; rfl
    have hIs := R.get hI
    obtain ⟨nm, qn, hdat⟩ := hgo.dat
    refine nextGen c.hh ((hlim _ c.hB).keeps R'.F.keep) (by have := c.hdep; omega) ⟨go, nm, qn, hIs, hgo.cls, hdat, hgo.slo⟩ hg hf.wk0 R.pos ((hen _ c.hB).keeps R'.F.keep) (fun r hr => R.get hr) fun e s₁ hP => .inl ⟨hP.1, fun h' hk => ?_⟩
    obtain ⟨rfl, kp⟩ := hP
    obtain ⟨h1, tk, rfl⟩ := kp.st
    refine hQ _ ?_ rfl
    have R2 : Rel c α ext G st { s with heap := h', toks := tk } := R.drop (fun b o hb e => hk b o (kp.keep b o (fun ⟨_, r, hr, q⟩ => hb r hr q.symm) e)) kp.pos
    refine R2.gens (AllBare.set (AllBare.set R'.ba rfl) rfl) ?_
    show G <+: ((s.gens.setIfInBounds _ _).setIfInBounds _ _).toList
    rw [Array.toList_setIfInBounds, Array.toList_setIfInBounds, htl', set_app, set_app]
    rw [List.append_assoc]
    exact List.prefix_append _ _
  | cons x xs ih =>
    intro own gs hI hf α ext st s Q E R hQ
    obtain ⟨m, led, bl, R'⟩ := id R
    obtain ⟨tl, htl⟩ := R'.ge
    have htl' : s.gens.toList = (G ++ pre) ++ gs :: tl := by rw [← htl]; simp [List.append_assoc]
    have hg : s.gens[(G ++ pre).length]? = some gs := by rw [← Array.getElem?_toList, htl', List.getElem?_append_right (Nat.le_refl _), Nat.sub_self]; rfl
    have hIs := R.get hI
    obtain ⟨nm, qn, hdat⟩ := hgo.dat
    refine nextGen c.hh ((hlim _ c.hB).keeps R'.F.keep) (by have := c.hdep; omega) ⟨go, nm, qn, hIs, hgo.cls, hdat, hgo.slo⟩ hg hf.wk R.pos ((hen _ c.hB).keeps R'.F.keep) (fun r hr => R.get hr) fun e s₁ hP => ?_
    obtain ⟨v, l, k, cc, p, fs, own', rfl, h2, ⟨o', h2'⟩, h3, kp, h5, h6, h7⟩ := hP
    refine .inr ⟨v, _, l, k, cc, p, fs, rfl, hQ v _ fun tg Q' E' hgd hQ' => ?_⟩
    obtain ⟨h1, tk, rfl⟩ := kp.st
    have hIe : h1.get? I = some go := kp.keep I go (fun q => q.1 rfl) hIs
    have : o' = go := Option.some.inj ((h2 (I, o') h2').1.symm.trans hIe)
    subst this
    refine letGo_plain hIe hgo.cls hdat (by decide) ?_
    refine hQ' own' (pre ++ [(End.susp v false l k cc p fs).genState]) _ (ih own' _ h2' h6) ?_ rfl (h5 _ _)
    have R2 : Rel c α (own' ++ ext) (G ++ (pre ++ [gs])) st { s with heap := h1, toks := tk } := R.priv (fun b o hb e => kp.keep b o (fun ⟨_, r, hr, q⟩ => hb r hr q.symm) e) (fun r hr => h2 r hr) h3 kp.pos
    refine R2.gens (AllBare.set (AllBare.set R'.ba rfl) h7) ?_
    show _ <+: ((s.gens.setIfInBounds _ _).setIfInBounds _ _).toList
    rw [Array.toList_setIfInBounds, Array.toList_setIfInBounds, htl', set_app, set_app]
    exact ⟨tl, by simp [List.append_assoc]⟩
end Mine
end P35
section P36
open PySem PySem.W PyProof.Rows PySem.Calls PySem.Spec PySem.W.X
namespace Mine
variable {g : Gl} {Γ : Sta} {lv : Nat}
noncomputable def genF (f : PS → Option (MV × PS)) : PS → Option (It × PS) := fun st => match f st with
  | some (.str cs, st1) => match asciiB cs with
    | true => some (.feed (escIt false 0 cs), st1)
    | false => .none
  | _ => .none
theorem IterOK.gen {nm : Str} {a : Addr} {name qual : Str} {e : Expr} {p pos : Pos} {f : PS → Option (MV × PS)} (hlim : ∀ h, g.B h → h.NoLimit) (hen : ∀ h, g.B h → GlobV h nEnum (.type "enumerate")) (hbn : ∀ h, g.B h → ∃ mb, h.Ns builtinsNs mb)
    (hg : ∀ h, g.B h → GlobV h nm (.ref a)) (hfd : ∀ h, g.B h → FnIs h a name qual pa_iter bo_iter sc_iter [])
    (hk : Γ.scope.names.lookup nm = some .globalImplicit) (hd : (nm == ("__debug__" : Str)) = false) (h : EvOK g Γ lv e f) (hu : unStarred e = true) :
    IterOK g Γ lv (.Call (.Name nm p) [e] [] pos) (genF f) := by
  intro c hl α ext G st it st' s Q E hf R hQ
  unfold genF at hf
  split at hf
  · rename_i cs st1 e1
    split at hf
    · rename_i hasc
      cases hf
      refine Call_ (glob_name R hg hk hd ?_) rfl
      obtain ⟨o, doc, pm, an, cdv, ct, ho, hdt, hcd⟩ := hfd c.h₀ c.hB
      refine callWith_def_at ho hdt (spliced_more (h c hl α ext G st _ _ s _ E e1 R fun wv α1 s1 hs1 R1 ho1 hv => spliced_none ?_) (starEach_un hu)) (starEach_un hu)
      obtain ⟨m, led, bl, R'⟩ := id R1
      refine ⟨R'.F.keep _ _ ho, ?_⟩
      obtain ⟨t, rfl⟩ := hv.str_inv
      have hlm := (hlim _ c.hB).keeps R'.F.keep
      refine wpAny_call (codeAny_call_generator (by have := c.hdep; omega) (R'.F.keep _ _ ho) hdt rfl rfl rfl (hcd.keeps R'.F.keep) ?_)
      refine (BindsTo.of_eq (binds := [(nAddr, .str ⟨cs.toArray⟩ t)]) rfl : BindsTo s1 _ _ _) _ _ _ _ ?_
      refine wpAny_newFunctionEnv (show ∀ x ∈ sc_iter.names, x.2 ≠ .cell by decide) (fun y hy => by rw [List.mem_singleton.mp hy]; rfl) (fun h' hns hsb => ?_) rfl
      have keep : ∀ b o, s1.heap.get? b = some o → h'.get? b = some o := fun b o e => (hsb.2 b (Nat.ne_of_lt (Heap.lt_size e))).trans (Heap.get?_push_of_some _ e)
      refine ⟨hlm.keeps keep, ?_⟩
      generalize henv : newEnv _ _ _ _ _ _ _ _ _ = env
      have hsz : h'.objs.size = s1.heap.objs.size + 1 := by rw [hsb.1]; exact Heap.size_push ..
      obtain ⟨lo, es, ep, hlo, hlo'⟩ := hns
      have hgo := Heap.get?_push_size h' (o := { cls := .type "generator", data := .fields #[.int s1.gens.size 0, .str name (s1.toks + 1), .str qual (s1.toks + 1 + 1)] }) rfl
      show wpAny _ _ (pyIter (.ref h'.objs.size)) _ _ { s1 with gens := s1.gens.push (.fresh (.func bo_iter env)), toks := s1.toks + 1 + 1 + 1, heap := h'.push { cls := .type "generator", data := .fields #[.int s1.gens.size 0, .str name (s1.toks + 1), .str qual (s1.toks + 1 + 1)] } }
      refine wpAny_pyIter_gen (g := s1.gens.size) ⟨_, _, _, hgo, rfl, rfl, rfl⟩ ?_
      obtain ⟨tl, htl⟩ := R'.ge
      have hgi : s1.gens.size = (G ++ tl).length := by rw [htl, Array.length_toList]
      have hne : h'.objs.size ≠ s1.heap.objs.size := by rw [hsz]; exact Nat.succ_ne_self _
      obtain ⟨mg, hmg, _⟩ := (hen _ c.hB).keeps R'.F.keep
      obtain ⟨mb, hmb⟩ := hbn _ c.hB
      have hg1 : mainGlobals ≠ s1.heap.objs.size := Nat.ne_of_lt hmg.lt
      have hb1 : builtinsNs ≠ s1.heap.objs.size := Nat.ne_of_lt (hmb.keeps R'.F.keep).lt
      refine hQ h'.objs.size [(h'.objs.size, { cls := .type "generator", data := .fields #[.int s1.gens.size 0, .str name (s1.toks + 1), .str qual (s1.toks + 1 + 1)] }), (s1.heap.objs.size, lo)] (tl ++ [.fresh (.func bo_iter env)]) α1 _ hs1 ?_ ho1 ?_
      · have R2 : Rel c α1 ([(h'.objs.size, { cls := .type "generator", data := .fields #[.int s1.gens.size 0, .str name (s1.toks + 1), .str qual (s1.toks + 1 + 1)] }), (s1.heap.objs.size, lo)] ++ ext) G st' { s1 with toks := s1.toks + 1 + 1 + 1, heap := h'.push { cls := .type "generator", data := .fields #[.int s1.gens.size 0, .str name (s1.toks + 1), .str qual (s1.toks + 1 + 1)] } } := by
          refine Rel.priv (own := []) R1 (fun b o _ e => Heap.get?_push_of_some _ (keep b o e)) (fun r hr => ?_) (by simpa using hne) (Nat.succ_pos _)
          simp only [List.mem_cons, List.not_mem_nil, or_false] at hr
          rcases hr with rfl | rfl
          · exact ⟨hgo, .inr (by rw [hsz]; exact Nat.le_succ _)⟩
          · exact ⟨Heap.get?_push_of_some _ hlo, .inr (Nat.le_refl _)⟩
        refine R2.gens (R'.ba.push rfl) ?_
        rw [Array.toList_push, ← htl, List.append_assoc]
        exact List.prefix_refl _
      · refine feed_ok hlim hen ⟨rfl, ⟨_, _, by rw [hgi]⟩, rfl⟩ _ _ _ List.mem_cons_self (GFeed.of ⟨.func bo_iter env, denote table (.func bo_iter env), [], .inl ⟨rfl, rfl, rfl⟩, fun s2 hp2 hB2 ho2 => ?_⟩)
        have hIo := ho2 (h'.objs.size, _) List.mem_cons_self
        have hLo := ho2 (s1.heap.objs.size, lo) (by simp)
        refine (startG (x := ⟨cs.toArray⟩) (t := t) (I := h'.objs.size) (Lg := s1.heap.objs.size) (show c.A.in1.handled = none from c.hh) (by rw [← henv]; rfl) (by rw [← henv]; rfl) (by rw [← henv]; rfl) (by rw [← henv]; rfl) hne hg1 hb1 (asciiB_all hasc) s2 ⟨_, hIo⟩ ⟨lo, es, ep, hLo, hlo'⟩ rfl hB2).mono fun e s3 hpg => ?_
        refine hpg.from (fun a' ha => ?_) fun kk => kk.weak fun a' ha => ?_
        · rcases ha with (rfl | rfl) | ha
          · exact .inl ⟨_, List.mem_cons_self, rfl⟩
          · exact .inl ⟨(s1.heap.objs.size, lo), by simp, rfl⟩
          · exact .inr ha
        · have ha : a' = s1.heap.objs.size := ha
          subst ha
          exact ⟨Ne.symm hne, (s1.heap.objs.size, lo), by simp, rfl⟩
    · cases hf
  · cases hf
end Mine
end P36
section P37
open PySem PySem.W PyProof.Rows PySem.Calls PySem.Spec
namespace Mine
structure FnV (g : Gl) (name : Str) (pa : Arguments) (bo : List Stmt) (sc : Scope) where
  a : Addr
  glob : ∀ h, g.B h → GlobV h name (.ref a)
  fn : ∀ h, g.B h → FnIs h a name name pa bo sc []
abbrev BltV (g : Gl) (name : Str) (v : Value) : Prop := ∀ h, g.B h → GlobV h name v
/-- what the globals are -/
structure Fk (g : Gl) where
  lim : ∀ h, g.B h → h.NoLimit
  bns : ∀ h, g.B h → ∃ mb, h.Ns builtinsNs mb
  nbk : ∀ h, g.B h → NoneBooked h
  len : BltV g (Str.ofString "len") (.builtin "len")
  min : BltV g (Str.ofString "min") (.builtin "min")
  abs : BltV g (Str.ofString "abs") (.builtin "abs")
  sum : BltV g (Str.ofString "sum") (.builtin "sum")
  sorted : BltV g (Str.ofString "sorted") (.builtin "sorted")
  divmod : BltV g (Str.ofString "divmod") (.builtin "divmod")
  range : BltV g (Str.ofString "range") (.type "range")
  list : BltV g (Str.ofString "list") (.type "list")
  enum : BltV g (Str.ofString "enumerate") (.type "enumerate")
  zip : BltV g (Str.ofString "zip") (.type "zip")
  rev : BltV g (Str.ofString "reversed") (.type "reversed")
  iter : FnV g (Str.ofString "_iter_escaped_chars") pa_iter bo_iter sc_iter
  strip : FnV g (Str.ofString "_strip_quoted_realnames") pa_strip bo_strip sc_strip
  check : FnV g (Str.ofString "_check_parenthesis") pa_check bo_check sc_check
  pre : FnV g (Str.ofString "_pre_parse_validation") pa_pre bo_pre sc_pre
  countOf : FnV g (Str.ofString "countOf") pa_countOf bo_countOf sc_countOf
  indexOf : FnV g (Str.ofString "indexOf") pa_indexOf bo_indexOf sc_indexOf
  imul : FnV g (Str.ofString "imul") pa_imul bo_imul sc_imul
  isub : FnV g (Str.ofString "isub") pa_isub bo_isub sc_isub
  drawn : FnV g (Str.ofString "_law_drawn") pa_drawn bo_drawn sc_drawn
  heights : FnV g (Str.ofString "_law_heights") pa_heights bo_heights sc_heights
  taken : FnV g (Str.ofString "_law_taken") pa_taken bo_taken sc_taken
  mates : FnV g (Str.ofString "_law_mates") pa_mates bo_mates sc_mates
  entry : FnV g (Str.ofString "_law_entry") pa_entry bo_entry sc_entry
  minors : FnV g (Str.ofString "_law_minors") pa_minors bo_minors sc_minors
  byh : FnV g (Str.ofString "_law_by_heights") pa_byh bo_byh sc_byh
  div2 : FnV g (Str.ofString "_div2n1n") pa_div2 bo_div2 sc_div2
  i2d : FnV g (Str.ofString "_int2digits") pa_i2d bo_i2d sc_i2d
  d2i : FnV g (Str.ofString "_digits2int") pa_d2i bo_d2i sc_d2i
  dpos : FnV g (Str.ofString "_divmod_pos") pa_dpos bo_dpos sc_dpos
  idm : FnV g (Str.ofString "int_divmod") pa_idm bo_idm sc_idm
  divt : Tok
  divl : BltV g (Str.ofString "_DIV_LIMIT") (.int 4000 divt)
theorem st0 : Str.ofString "\"" = ⟨[34].toArray⟩ := by decide +kernel
theorem st1 : Str.ofString "\\" = ⟨[92].toArray⟩ := by decide +kernel
theorem st2 : Str.ofString "(" = ⟨[40].toArray⟩ := by decide +kernel
theorem st3 : Str.ofString ")" = ⟨[41].toArray⟩ := by decide +kernel
theorem st4 : Str.ofString "" = ⟨([] : List Nat).toArray⟩ := by decide +kernel
theorem st5 : Str.ofString "('', '')" = ⟨[40, 39, 39, 44, 32, 39, 39, 41].toArray⟩ := by decide +kernel
theorem st6 : Str.ofString "\\)" = ⟨[92, 41].toArray⟩ := by decide +kernel
theorem st7 : Str.ofString "\"(\"" = ⟨[34, 40, 34].toArray⟩ := by decide +kernel
theorem st8 : Str.ofString "()" = ⟨[40, 41].toArray⟩ := by decide +kernel
theorem st9 : Str.ofString ")(" = ⟨[41, 40].toArray⟩ := by decide +kernel
theorem chrC : Str.ofString ")" = ⟨#[41]⟩ := by decide +kernel
theorem ix0 {β : Type} {x : β} {l : List β} : (x :: l)[0]? = some x := rfl
theorem ix1 {β : Type} {x0 x1 : β} {l : List β} : (x0 :: x1 :: l)[1]? = some x1 := rfl
theorem ix2 {β : Type} {x0 x1 x2 : β} {l : List β} : (x0 :: x1 :: x2 :: l)[2]? = some x2 := rfl
theorem ix3 {β : Type} {x0 x1 x2 x3 : β} {l : List β} : (x0 :: x1 :: x2 :: x3 :: l)[3]? = some x3 := rfl
theorem ix4 {β : Type} {x0 x1 x2 x3 x4 : β} {l : List β} : (x0 :: x1 :: x2 :: x3 :: x4 :: l)[4]? = some x4 := rfl
theorem ix5 {β : Type} {x0 x1 x2 x3 x4 x5 : β} {l : List β} : (x0 :: x1 :: x2 :: x3 :: x4 :: x5 :: l)[5]? = some x5 := rfl
theorem ix6 {β : Type} {x0 x1 x2 x3 x4 x5 x6 : β} {l : List β} : (x0 :: x1 :: x2 :: x3 :: x4 :: x5 :: x6 :: l)[6]? = some x6 := rfl
theorem ix7 {β : Type} {x0 x1 x2 x3 x4 x5 x6 x7 : β} {l : List β} : (x0 :: x1 :: x2 :: x3 :: x4 :: x5 :: x6 :: x7 :: l)[7]? = some x7 := rfl
theorem ix8 {β : Type} {x0 x1 x2 x3 x4 x5 x6 x7 x8 : β} {l : List β} : (x0 :: x1 :: x2 :: x3 :: x4 :: x5 :: x6 :: x7 :: x8 :: l)[8]? = some x8 := rfl
theorem ix9 {β : Type} {x0 x1 x2 x3 x4 x5 x6 x7 x8 x9 : β} {l : List β} : (x0 :: x1 :: x2 :: x3 :: x4 :: x5 :: x6 :: x7 :: x8 :: x9 :: l)[9]? = some x9 := rfl
theorem ix10 {β : Type} {x0 x1 x2 x3 x4 x5 x6 x7 x8 x9 x10 : β} {l : List β} : (x0 :: x1 :: x2 :: x3 :: x4 :: x5 :: x6 :: x7 :: x8 :: x9 :: x10 :: l)[10]? = some x10 := rfl
theorem ix11 {β : Type} {x0 x1 x2 x3 x4 x5 x6 x7 x8 x9 x10 x11 : β} {l : List β} : (x0 :: x1 :: x2 :: x3 :: x4 :: x5 :: x6 :: x7 :: x8 :: x9 :: x10 :: x11 :: l)[11]? = some x11 := rfl
theorem ixS {β : Type} {x y : β} {l : List β} {i : Nat} (h : l[i]? = some y) : (x :: l)[i + 1]? = some y := h
end Mine
end P37
set_option hygiene false in
local macro_rules | `(tactic| wtm_at "mine step") => `(tactic| first
  | with_reducible exact ExsOK.nil
  | with_reducible refine' ExsOK.cons ?_ ?_
  | with_reducible exact EvsOK.nil
  | with_reducible refine' EvsOK.cons ?_ ?_ (by ((intros; kernel_rfl)))
  | with_reducible refine' EvOK.loc (by (first | with_reducible exact ix0 | with_reducible exact ix1 | with_reducible exact ix2 | with_reducible exact ix3 | with_reducible exact ix4 | with_reducible exact ix5 | with_reducible exact ix6 | with_reducible exact ix7 | with_reducible exact ix8 | with_reducible exact ix9 | with_reducible exact ix10 | with_reducible exact ix11 | fail)) (by ((intros; kernel_rfl))) (by ((intros; kernel_rfl)))
  | with_reducible refine' EvOK.cel (by (first | with_reducible exact ix0 | with_reducible exact ix1 | with_reducible exact ix2 | with_reducible exact ix3 | with_reducible exact ix4 | with_reducible exact ix5 | with_reducible exact ix6 | with_reducible exact ix7 | with_reducible exact ix8 | with_reducible exact ix9 | with_reducible exact ix10 | with_reducible exact ix11 | fail)) (by (decide +kernel)) (by ((intros; kernel_rfl))) (by ((intros; kernel_rfl)))
  | with_reducible exact EvOK.int
  | with_reducible exact EvOK.none
  | with_reducible exact EvOK.bool
  | with_reducible exact EvOK.str st0
  | with_reducible exact EvOK.str st1
  | with_reducible exact EvOK.str st2
  | with_reducible exact EvOK.str st3
  | with_reducible exact EvOK.str st4
  | with_reducible exact EvOK.str st5
  | with_reducible exact EvOK.str st6
  | with_reducible exact EvOK.str st7
  | with_reducible exact EvOK.str st8
  | with_reducible exact EvOK.str st9
  | with_reducible refine' EvOK.bin ?_ ?_ ?_
  | with_reducible refine' EvOK.cmp ?_ ?_ ?_ (by ((intros; kernel_rfl)))
  | with_reducible refine' EvOK.un ?_ ?_
  | with_reducible refine' EvOK.slice ?_ ?_ ?_
  | with_reducible refine' EvOK.idx ?_ ?_ (by ((intros; kernel_rfl)))
  | with_reducible exact PartOK.none
  | with_reducible refine' PartOK.some ?_
  | with_reducible refine' EvOK.list ?_
  | with_reducible refine' EvOK.tuple ?_
  | with_reducible refine' EvOK.ite ?_ ?_ ?_
  | with_reducible refine' EvOK.and2 ?_ ?_
  | with_reducible refine' EvOK.chain ?_ ?_ ?_ ?_ ?_ (by with_unfolding_all rfl)
  | with_reducible exact add_ok | with_reducible exact sub_ok | with_reducible exact mul_ok | with_reducible exact div_ok | with_reducible exact mod_ok | with_reducible exact pow_ok | with_reducible exact neg_ok | with_reducible exact iadd_ok | with_reducible exact isub_ok | with_reducible exact imul_ok
  | with_reducible exact eq_ok | with_reducible exact ne_ok | with_reducible exact lt_ok | with_reducible exact le_ok | with_reducible exact gt_ok | with_reducible exact is_ok | with_reducible exact in_ok | with_reducible exact nin_ok
  | with_reducible refine' ExOK.ret ?_
  | with_reducible refine' ExOK.ite ?_ ?_ ?_
  | with_reducible refine' ExOK.asg ?_ (by (first | with_reducible exact ix0 | with_reducible exact ix1 | with_reducible exact ix2 | with_reducible exact ix3 | with_reducible exact ix4 | with_reducible exact ix5 | with_reducible exact ix6 | with_reducible exact ix7 | with_reducible exact ix8 | with_reducible exact ix9 | with_reducible exact ix10 | with_reducible exact ix11 | fail)) (by (decide +kernel)) (by ((intros; kernel_rfl))) (by ((intros; kernel_rfl)))
  | with_reducible refine' ExOK.aug ?_ ?_ (by (first | with_reducible exact ix0 | with_reducible exact ix1 | with_reducible exact ix2 | with_reducible exact ix3 | with_reducible exact ix4 | with_reducible exact ix5 | with_reducible exact ix6 | with_reducible exact ix7 | with_reducible exact ix8 | with_reducible exact ix9 | with_reducible exact ix10 | with_reducible exact ix11 | fail)) (by (decide +kernel)) (by ((intros; kernel_rfl)))
  | with_reducible refine' ExOK.expr ?_ (by ((intros; kernel_rfl)))
  | with_reducible refine' ExOK.setI ?_ ?_ ?_ (by ((intros; kernel_rfl)))
  | with_reducible refine' IsOK.cmp ?_ ?_ ?_ (by ((intros; kernel_rfl)))
  | with_reducible refine' IsOK.not ?_
  | with_reducible refine' IsOK.or2 ?_ ?_
  | with_reducible refine' IsOK.plain ?_ (by ((intros; kernel_rfl)))
  | with_reducible refine' TgtOK.name (by (first | with_reducible exact ix0 | with_reducible exact ix1 | with_reducible exact ix2 | with_reducible exact ix3 | with_reducible exact ix4 | with_reducible exact ix5 | with_reducible exact ix6 | with_reducible exact ix7 | with_reducible exact ix8 | with_reducible exact ix9 | with_reducible exact ix10 | with_reducible exact ix11 | fail)) (by (decide +kernel)) (by ((intros; kernel_rfl)))
  | with_reducible refine' TgtOK.cell (by (first | with_reducible exact ix0 | with_reducible exact ix1 | with_reducible exact ix2 | with_reducible exact ix3 | with_reducible exact ix4 | with_reducible exact ix5 | with_reducible exact ix6 | with_reducible exact ix7 | with_reducible exact ix8 | with_reducible exact ix9 | with_reducible exact ix10 | with_reducible exact ix11 | fail)) (by ((intros; kernel_rfl)))
  | with_reducible refine' TgtOK.pair (by (first | with_reducible exact ix0 | with_reducible exact ix1 | with_reducible exact ix2 | with_reducible exact ix3 | with_reducible exact ix4 | with_reducible exact ix5 | with_reducible exact ix6 | with_reducible exact ix7 | with_reducible exact ix8 | with_reducible exact ix9 | with_reducible exact ix10 | with_reducible exact ix11 | fail)) (by (first | with_reducible exact ix0 | with_reducible exact ix1 | with_reducible exact ix2 | with_reducible exact ix3 | with_reducible exact ix4 | with_reducible exact ix5 | with_reducible exact ix6 | with_reducible exact ix7 | with_reducible exact ix8 | with_reducible exact ix9 | with_reducible exact ix10 | with_reducible exact ix11 | fail)) (by (decide +kernel)) (by ((intros; kernel_rfl))) (by ((intros; kernel_rfl)))
  | wtm_at "mine call"
  | with_reducible refine' EvOK.meth ?_ gm_append ?_ append_ok (by ((intros; kernel_rfl))) (by (with_unfolding_all exact fun _ => ⟨_, rfl⟩))
  | with_reducible refine' EvOK.meth ?_ gm_reverse ?_ reverse_ok (by ((intros; kernel_rfl))) (by (with_unfolding_all exact fun _ => ⟨_, rfl⟩))
  | with_reducible refine' EvOK.meth ?_ gm_count ?_ count_ok (by ((intros; kernel_rfl))) (by (with_unfolding_all exact fun _ => ⟨_, rfl⟩))
  | with_reducible refine' EvOK.meth ?_ gm_join ?_ join_ok (by ((intros; kernel_rfl))) (by (with_unfolding_all exact fun _ => ⟨_, rfl⟩))
  | with_reducible refine' ExOK.for 70 ?_ ?_ ?_ ?_ (by ((intros; kernel_rfl)))
  | with_reducible refine' ExOK.wh 70 ?_ ?_
  | with_reducible refine' IterOK.val ?_)
section P37
open PySem PySem.W PyProof.Rows PySem.Calls PySem.Spec
namespace Mine
end Mine
end P37
set_option hygiene false in
local macro_rules | `(tactic| wtm_at "mine call") => `(tactic| first
  | with_reducible refine' EvOK.callBlt F.len (by ((intros; kernel_rfl))) (by ((intros; kernel_rfl))) len_ok ?_ (by ((intros; kernel_rfl))) (by ((intros; kernel_rfl)))
  | with_reducible refine' EvOK.callBlt F.min (by ((intros; kernel_rfl))) (by ((intros; kernel_rfl))) min_ok ?_ (by ((intros; kernel_rfl))) (by ((intros; kernel_rfl)))
  | with_reducible refine' EvOK.callBlt F.abs (by ((intros; kernel_rfl))) (by ((intros; kernel_rfl))) abs_ok ?_ (by ((intros; kernel_rfl))) (by ((intros; kernel_rfl)))
  | with_reducible refine' EvOK.callBlt F.sum (by ((intros; kernel_rfl))) (by ((intros; kernel_rfl))) sum_ok ?_ (by ((intros; kernel_rfl))) (by ((intros; kernel_rfl)))
  | with_reducible refine' EvOK.callTy F.range (by ((intros; kernel_rfl))) (by ((intros; kernel_rfl))) range_ok ?_ (by ((intros; kernel_rfl))) (by ((intros; kernel_rfl)))
  | with_reducible refine' EvOK.callTy F.list (by ((intros; kernel_rfl))) (by ((intros; kernel_rfl))) listR_ok ?_ (by ((intros; kernel_rfl))) (by ((intros; kernel_rfl)))
  | with_reducible refine' IterOK.callTy F.enum (by ((intros; kernel_rfl))) (by ((intros; kernel_rfl))) enum_ok ?_ (by ((intros; kernel_rfl))) (by ((intros; kernel_rfl)))
  | with_reducible refine' IterOK.callTy F.zip (by ((intros; kernel_rfl))) (by ((intros; kernel_rfl))) zip_ok ?_ (by ((intros; kernel_rfl))) (by ((intros; kernel_rfl)))
  | with_reducible refine' IterOK.callTy F.rev (by ((intros; kernel_rfl))) (by ((intros; kernel_rfl))) rev_ok ?_ (by ((intros; kernel_rfl))) (by ((intros; kernel_rfl))))
section P37
open PySem PySem.W PyProof.Rows PySem.Calls PySem.Spec
namespace Mine
set_option maxHeartbeats 4000000
noncomputable def heightsX : { f : PS → Option (FL × PS) // ∀ (g : Gl) (_ : Fk g), ExsOK g ⟨[Str.ofString "row", Str.ofString "heights", Str.ofString "sign"], [], sc_heights⟩ 0 bo_heights f } := by
  apply Subtype.mk
  intro g F
  repeat' wtm_at "mine step"
end Mine
end P37
section P38
open PySem PySem.W PyProof.Rows PySem.Calls PySem.Spec
set_option maxHeartbeats 4000000
namespace Mine
theorem heights_ok {g : Gl} (F : Fk g) : OpNOK g 1 (fun ws => call (.ref F.heights.a) ws) (fnF 1 2 heightsX.1) :=
  OpNOK.fn (pn := [Str.ofString "row"]) (ls := [Str.ofString "heights", Str.ofString "sign"]) F.lim F.heights.fn rfl rfl rfl (by decide +kernel) (by ((intro doc pm an cdv ct ws h; rcases ws with _ | ⟨w1, _ | ⟨w2, _ | ⟨w3, _ | ⟨w4, _ | ⟨w5, ws⟩⟩⟩⟩⟩ <;> first | rfl | (simp at h)))) (by decide +kernel) (by decide +kernel) (heightsX.2 g F)
noncomputable def imulX : { f : PS → Option (FL × PS) // ∀ (g : Gl) (_ : Fk g), ExsOK g ⟨[Str.ofString "a", Str.ofString "b"], [], sc_imul⟩ 0 bo_imul f } := by
  apply Subtype.mk
  intro g F
  repeat' wtm_at "mine step"
theorem imul2_ok {g : Gl} (F : Fk g) : OpNOK g 1 (fun ws => call (.ref F.imul.a) ws) (fnF 2 0 imulX.1) :=
  OpNOK.fn (pn := [Str.ofString "a", Str.ofString "b"]) (ls := []) F.lim F.imul.fn rfl rfl rfl (by decide +kernel) (by ((intro doc pm an cdv ct ws h; rcases ws with _ | ⟨w1, _ | ⟨w2, _ | ⟨w3, _ | ⟨w4, _ | ⟨w5, ws⟩⟩⟩⟩⟩ <;> first | rfl | (simp at h)))) (by decide +kernel) (by decide +kernel) (imulX.2 g F)
noncomputable def isubX : { f : PS → Option (FL × PS) // ∀ (g : Gl) (_ : Fk g), ExsOK g ⟨[Str.ofString "a", Str.ofString "b"], [], sc_isub⟩ 0 bo_isub f } := by
  apply Subtype.mk
  intro g F
  repeat' wtm_at "mine step"
theorem isub2_ok {g : Gl} (F : Fk g) : OpNOK g 1 (fun ws => call (.ref F.isub.a) ws) (fnF 2 0 isubX.1) :=
  OpNOK.fn (pn := [Str.ofString "a", Str.ofString "b"]) (ls := []) F.lim F.isub.fn rfl rfl rfl (by decide +kernel) (by ((intro doc pm an cdv ct ws h; rcases ws with _ | ⟨w1, _ | ⟨w2, _ | ⟨w3, _ | ⟨w4, _ | ⟨w5, ws⟩⟩⟩⟩⟩ <;> first | rfl | (simp at h)))) (by decide +kernel) (by decide +kernel) (isubX.2 g F)
noncomputable def countOfX : { f : PS → Option (FL × PS) // ∀ (g : Gl) (_ : Fk g), ExsOK g ⟨[Str.ofString "a", Str.ofString "b", Str.ofString "count", Str.ofString "i"], [], sc_countOf⟩ 0 bo_countOf f } := by
  apply Subtype.mk
  intro g F
  repeat' wtm_at "mine step"
theorem countOf_ok {g : Gl} (F : Fk g) : OpNOK g 1 (fun ws => call (.ref F.countOf.a) ws) (fnF 2 2 countOfX.1) :=
  OpNOK.fn (pn := [Str.ofString "a", Str.ofString "b"]) (ls := [Str.ofString "count", Str.ofString "i"]) F.lim F.countOf.fn rfl rfl rfl (by decide +kernel) (by ((intro doc pm an cdv ct ws h; rcases ws with _ | ⟨w1, _ | ⟨w2, _ | ⟨w3, _ | ⟨w4, _ | ⟨w5, ws⟩⟩⟩⟩⟩ <;> first | rfl | (simp at h)))) (by decide +kernel) (by decide +kernel) (countOfX.2 g F)
noncomputable def indexOfX : { f : PS → Option (FL × PS) // ∀ (g : Gl) (_ : Fk g), ExsOK g ⟨[Str.ofString "a", Str.ofString "b", Str.ofString "i", Str.ofString "j"], [], sc_indexOf⟩ 0 bo_indexOf f } := by
  apply Subtype.mk
  intro g F
  refine' ExsOK.cons ?_ ?_
  · refine' ExOK.for 70 ?_ ?_ ?_ ExsOK.fail (fun _ _ => rfl)
    repeat' wtm_at "mine step"
  · repeat' wtm_at "mine step"
theorem indexOf_ok {g : Gl} (F : Fk g) : OpNOK g 1 (fun ws => call (.ref F.indexOf.a) ws) (fnF 2 2 indexOfX.1) :=
  OpNOK.fn (pn := [Str.ofString "a", Str.ofString "b"]) (ls := [Str.ofString "i", Str.ofString "j"]) F.lim F.indexOf.fn rfl rfl rfl (by decide +kernel) (by ((intro doc pm an cdv ct ws h; rcases ws with _ | ⟨w1, _ | ⟨w2, _ | ⟨w3, _ | ⟨w4, _ | ⟨w5, ws⟩⟩⟩⟩⟩ <;> first | rfl | (simp at h)))) (by decide +kernel) (by decide +kernel) (indexOfX.2 g F)
end Mine
end P38
set_option hygiene false in
local macro_rules | `(tactic| wtm_at "mine call") => `(tactic| with_reducible refine' IterOK.gen F.lim F.enum F.bns F.iter.glob F.iter.fn (by ((intros; kernel_rfl))) (by ((intros; kernel_rfl))) ?_ (by ((intros; kernel_rfl))))
section P38
open PySem PySem.W PyProof.Rows PySem.Calls PySem.Spec
set_option maxHeartbeats 4000000
namespace Mine
noncomputable def stripX : { f : PS → Option (FL × PS) // ∀ (g : Gl) (_ : Fk g), ExsOK g ⟨[Str.ofString "addr", Str.ofString "start", Str.ofString "open_pos", Str.ofString "result", Str.ofString "pos", Str.ofString "ch"], [], sc_strip⟩ 0 bo_strip f } := by
  apply Subtype.mk
  intro g F
  repeat' wtm_at "mine step"
theorem strip_ok {g : Gl} (F : Fk g) : OpNOK g 1 (fun ws => call (.ref F.strip.a) ws) (fnF 1 5 stripX.1) :=
  OpNOK.fn (pn := [Str.ofString "addr"]) (ls := [Str.ofString "start", Str.ofString "open_pos", Str.ofString "result", Str.ofString "pos", Str.ofString "ch"]) F.lim F.strip.fn rfl rfl rfl (by decide +kernel) (by ((intro doc pm an cdv ct ws h; rcases ws with _ | ⟨w1, _ | ⟨w2, _ | ⟨w3, _ | ⟨w4, _ | ⟨w5, ws⟩⟩⟩⟩⟩ <;> first | rfl | (simp at h)))) (by decide +kernel) (by decide +kernel) (stripX.2 g F)
/-- a call of a def of the program -/
theorem EvOK.fnV {g : Gl} {Γ : Sta} {lv lv' : Nat} {x : Str} {pa : Arguments} {bo : List Stmt} {sc : Scope} {e : Expr} {es : List Expr} {p pos : Pos} {f : PS → Option (List MV × PS)} {F : List MV → SS → Option (MV × SS)} (V : FnV g x pa bo sc)
    (ho : OpNOK g lv' (fun ws => call (.ref V.a) ws) F) (hlv : lv' ≤ lv) (hk : Γ.scope.names.lookup x = some .globalImplicit) (hd : (x == ("__debug__" : Str)) = false) (hs : EvsOK g Γ lv (e :: es) f) (hu : unStarred e = true) :
    EvOK g Γ lv (.Call (.Name x p) (e :: es) [] pos) (callF f F) :=
  EvOK.callFn V.glob (fun h hb => let ⟨o, doc, pm, an, cdv, ct, ho, hd, _⟩ := V.fn h hb; ⟨o, _, ho, hd⟩) hk hd (ho.mono hlv) hs hu
end Mine
end P38
set_option hygiene false in
local macro_rules | `(tactic| wtm_at "mine call") => `(tactic| first
  | with_reducible refine' EvOK.fnV F.heights (heights_ok F) (by (decide +kernel)) (by ((intros; kernel_rfl))) (by ((intros; kernel_rfl))) ?_ (by ((intros; kernel_rfl)))
  | with_reducible refine' EvOK.fnV F.imul (imul2_ok F) (by (decide +kernel)) (by ((intros; kernel_rfl))) (by ((intros; kernel_rfl))) ?_ (by ((intros; kernel_rfl)))
  | with_reducible refine' EvOK.fnV F.isub (isub2_ok F) (by (decide +kernel)) (by ((intros; kernel_rfl))) (by ((intros; kernel_rfl))) ?_ (by ((intros; kernel_rfl)))
  | with_reducible refine' EvOK.fnV F.countOf (countOf_ok F) (by (decide +kernel)) (by ((intros; kernel_rfl))) (by ((intros; kernel_rfl))) ?_ (by ((intros; kernel_rfl)))
  | with_reducible refine' EvOK.fnV F.indexOf (indexOf_ok F) (by (decide +kernel)) (by ((intros; kernel_rfl))) (by ((intros; kernel_rfl))) ?_ (by ((intros; kernel_rfl)))
  | with_reducible refine' EvOK.fnV F.strip (strip_ok F) (by (decide +kernel)) (by ((intros; kernel_rfl))) (by ((intros; kernel_rfl))) ?_ (by ((intros; kernel_rfl))))
section P38
open PySem PySem.W PyProof.Rows PySem.Calls PySem.Spec
set_option maxHeartbeats 4000000
namespace Mine
noncomputable def checkX : { f : PS → Option (FL × PS) // ∀ (g : Gl) (_ : Fk g), ExsOK g ⟨[Str.ofString "addr", Str.ofString "opens", Str.ofString "pos", Str.ofString "ch"], [], sc_check⟩ 1 bo_check f } := by
  apply Subtype.mk
  intro g F
  repeat' wtm_at "mine step"
theorem check_ok {g : Gl} (F : Fk g) : OpNOK g 2 (fun ws => call (.ref F.check.a) ws) (fnF 1 3 checkX.1) :=
  OpNOK.fn (pn := [Str.ofString "addr"]) (ls := [Str.ofString "opens", Str.ofString "pos", Str.ofString "ch"]) F.lim F.check.fn rfl rfl rfl (by decide +kernel) (by ((intro doc pm an cdv ct ws h; rcases ws with _ | ⟨w1, _ | ⟨w2, _ | ⟨w3, _ | ⟨w4, _ | ⟨w5, ws⟩⟩⟩⟩⟩ <;> first | rfl | (simp at h)))) (by decide +kernel) (by decide +kernel) (checkX.2 g F)
end Mine
end P38
set_option hygiene false in
local macro_rules | `(tactic| wtm_at "mine call") => `(tactic| with_reducible refine' EvOK.fnV F.check (check_ok F) (by (decide +kernel)) (by ((intros; kernel_rfl))) (by ((intros; kernel_rfl))) ?_ (by ((intros; kernel_rfl))))
section P38
open PySem PySem.W PyProof.Rows PySem.Calls PySem.Spec
set_option maxHeartbeats 4000000
namespace Mine
noncomputable def preX : { f : PS → Option (FL × PS) // ∀ (g : Gl) (_ : Fk g), ExsOK g ⟨[Str.ofString "email_header_fields", Str.ofString "accepted_values", Str.ofString "v"], [], sc_pre⟩ 2 bo_pre f } := by
  apply Subtype.mk
  intro g F
  repeat' wtm_at "mine step"
theorem pre_ok {g : Gl} (F : Fk g) : OpNOK g 3 (fun ws => call (.ref F.pre.a) ws) (fnF 1 2 preX.1) :=
  OpNOK.fn (pn := [Str.ofString "email_header_fields"]) (ls := [Str.ofString "accepted_values", Str.ofString "v"]) F.lim F.pre.fn rfl rfl rfl (by decide +kernel) (by ((intro doc pm an cdv ct ws h; rcases ws with _ | ⟨w1, _ | ⟨w2, _ | ⟨w3, _ | ⟨w4, _ | ⟨w5, ws⟩⟩⟩⟩⟩ <;> first | rfl | (simp at h)))) (by decide +kernel) (by decide +kernel) (preX.2 g F)
noncomputable def entryX : { f : PS → Option (FL × PS) // ∀ (g : Gl) (_ : Fk g), ExsOK g ⟨[Str.ofString "above", Str.ofString "below", Str.ofString "q", Str.ofString "seen", Str.ofString "start", Str.ofString "place", Str.ofString "worth"], [], sc_entry⟩ 1 bo_entry f } := by
  apply Subtype.mk
  intro g F
  repeat' wtm_at "mine step"
theorem entry_ok {g : Gl} (F : Fk g) : OpNOK g 2 (fun ws => call (.ref F.entry.a) ws) (fnF 3 4 entryX.1) :=
  OpNOK.fn (pn := [Str.ofString "above", Str.ofString "below", Str.ofString "q"]) (ls := [Str.ofString "seen", Str.ofString "start", Str.ofString "place", Str.ofString "worth"]) F.lim F.entry.fn rfl rfl rfl (by decide +kernel) (by ((intro doc pm an cdv ct ws h; rcases ws with _ | ⟨w1, _ | ⟨w2, _ | ⟨w3, _ | ⟨w4, _ | ⟨w5, ws⟩⟩⟩⟩⟩ <;> first | rfl | (simp at h)))) (by decide +kernel) (by decide +kernel) (entryX.2 g F)
end Mine
end P38
section P39
open PySem PySem.W PyProof.Rows PySem.Calls PySem.Spec
set_option maxHeartbeats 4000000
namespace Mine
end Mine
end P39
set_option hygiene false in
local macro_rules | `(tactic| wtm_at "mine call") => `(tactic| first
  | with_reducible refine' UnOK.emit ?_
  | with_reducible refine' UnOK.test0 ?_
  | with_reducible refine' UnOK.test1 ?_ ?_
  | with_reducible refine' EvOK.repl F.nbk ?_ ?_ chrC chrC (by (with_unfolding_all exact fun _ => ⟨_, rfl⟩))
  | with_reducible refine' EvOK.fnV F.entry (entry_ok F) (by (decide +kernel)) (by ((intros; kernel_rfl))) (by ((intros; kernel_rfl))) ?_ (by ((intros; kernel_rfl)))
  | with_reducible refine' EvOK.fnV F.pre (pre_ok F) (by (decide +kernel)) (by ((intros; kernel_rfl))) (by ((intros; kernel_rfl))) ?_ (by ((intros; kernel_rfl))))
section P39
open PySem PySem.W PyProof.Rows PySem.Calls PySem.Spec
set_option maxHeartbeats 4000000
namespace Mine
noncomputable def matesX : { f : PS → Option (FL × PS) // ∀ (g : Gl) (_ : Fk g), ExsOK g ⟨[Str.ofString "mates", Str.ofString "ends", Str.ofString "answers", Str.ofString "other"], [Str.ofString "row", Str.ofString "hidden", Str.ofString "place"], sc_mates⟩ 2 bo_mates f } := by
  apply Subtype.mk
  intro g F
  repeat' first
    | (refine' ExOK.asgComp (onm := none) (ln := [Str.ofString "end"]) (fn := [Str.ofString "hidden", Str.ofString "place", Str.ofString "row"]) (mp := [1, 2, 0]) 100 (by (exact ⟨rfl, by decide +kernel, by decide +kernel, rfl, ⟨fun _ => rfl, fun _ _ => rfl⟩, (by intro x h; cases h <;> decide +kernel), by decide +kernel⟩)) ?_ (fun _ _ => rfl) (turn1 _ _ _ _ _ _) ?_ ?_ (by (first | with_reducible exact ix0 | with_reducible exact ix1 | with_reducible exact ix2 | with_reducible exact ix3 | with_reducible exact ix4 | with_reducible exact ix5 | with_reducible exact ix6 | with_reducible exact ix7 | with_reducible exact ix8 | with_reducible exact ix9 | with_reducible exact ix10 | with_reducible exact ix11 | fail)) (by (decide +kernel)) (by ((intros; kernel_rfl))) (fun env h => by cases env; cases h; rfl) <;> ((try dsimp only [subSta, Option.toList, List.nil_append, List.cons_append])))
    | wtm_at "mine step"
end Mine
end P39
section P40
open PySem PySem.W PyProof.Rows PySem.Calls PySem.Spec
set_option maxHeartbeats 4000000
namespace Mine
theorem mates_ok {g : Gl} (F : Fk g) : OpNOK g 3 (fun ws => call (.ref F.mates.a) ws) (fnCF 2 [none, none, none, none] [some 0, some 1, none] matesX.1) :=
  OpNOK.fnC (pn := [Str.ofString "row", Str.ofString "hidden"]) F.lim F.mates.fn rfl rfl rfl (by ((intro doc pm an cdv ct ws h; rcases ws with _ | ⟨w1, _ | ⟨w2, _ | ⟨w3, _ | ⟨w4, _ | ⟨w5, ws⟩⟩⟩⟩⟩ <;> first | rfl | (simp at h)))) (by decide +kernel) (by decide +kernel) (fun _ => rfl) (by decide +kernel) (by decide +kernel) (by decide +kernel) (by decide +kernel) (by decide +kernel) (matesX.2 g F)
noncomputable def takenX : { f : PS → Option (FL × PS) // ∀ (g : Gl) (_ : Fk g), ExsOK g ⟨[Str.ofString "rows", Str.ofString "place", Str.ofString "fields", Str.ofString "due"], [Str.ofString "size", Str.ofString "pairs", Str.ofString "hidden", Str.ofString "signs", Str.ofString "walked"], sc_taken⟩ 3 bo_taken f } := by
  apply Subtype.mk
  intro g F
  refine' ExsOK.cons ?_ ?_
  · repeat' wtm_at "mine step"
  refine' ExsOK.cons ?_ ?_
  · refine' ExOK.for 70 ?_ ?_ ?_ ?_ (fun _ _ => rfl)
    · repeat' wtm_at "mine step"
    · repeat' wtm_at "mine step"
    · refine' ExsOK.cons ?_ ?_
      · (refine' ExOK.asgComp (onm := none) (ln := [Str.ofString "row", Str.ofString "sign"]) (fn := [Str.ofString "pairs", Str.ofString "signs"]) (mp := [1, 3]) 100 (by (exact ⟨rfl, by decide +kernel, by decide +kernel, rfl, ⟨fun _ => rfl, fun _ _ => rfl⟩, (by intro x h; cases h <;> decide +kernel), by decide +kernel⟩)) ?_ (fun _ _ => rfl) (turn2a _ _ _ _ _ _ _ _ _) ?_ (UnOK.test0 (UnOK.nest 100 rfl rfl (turn2b _ _ _ _ _ _ _) ?_ (fun _ _ => rfl) ?_ ?_)) (by (first | with_reducible exact ix0 | with_reducible exact ix1 | with_reducible exact ix2 | with_reducible exact ix3 | with_reducible exact ix4 | with_reducible exact ix5 | with_reducible exact ix6 | with_reducible exact ix7 | with_reducible exact ix8 | with_reducible exact ix9 | with_reducible exact ix10 | with_reducible exact ix11 | fail)) (by (decide +kernel)) (by ((intros; kernel_rfl))) (fun env h => by cases env; cases h; rfl) <;> ((try dsimp only [subSta, Option.toList, List.nil_append, List.cons_append])))
        · repeat' wtm_at "mine step"
        · repeat' wtm_at "mine step"
        · repeat' wtm_at "mine step"
        · repeat' wtm_at "mine step"
        · repeat' wtm_at "mine step"
      · repeat' wtm_at "mine step"
    · repeat' wtm_at "mine step"
  refine' ExsOK.cons ?_ ?_
  · (refine' ExOK.asgComp (onm := none) (ln := [Str.ofString "row"]) (fn := [Str.ofString "pairs"]) (mp := [1]) 100 (by (exact ⟨rfl, by decide +kernel, by decide +kernel, rfl, ⟨fun _ => rfl, fun _ _ => rfl⟩, (by intro x h; cases h <;> decide +kernel), by decide +kernel⟩)) ?_ (fun _ _ => rfl) (turn1 _ _ _ _ _ _) ?_ ?_ (by (first | with_reducible exact ix0 | with_reducible exact ix1 | with_reducible exact ix2 | with_reducible exact ix3 | with_reducible exact ix4 | with_reducible exact ix5 | with_reducible exact ix6 | with_reducible exact ix7 | with_reducible exact ix8 | with_reducible exact ix9 | with_reducible exact ix10 | with_reducible exact ix11 | fail)) (by (decide +kernel)) (by ((intros; kernel_rfl))) (fun env h => by cases env; cases h; rfl) <;> ((try dsimp only [subSta, Option.toList, List.nil_append, List.cons_append])))
    · repeat' wtm_at "mine step"
    · repeat' wtm_at "mine step"
    · repeat' wtm_at "mine step"
  refine' ExsOK.cons ?_ ?_
  · (refine' ExOK.asgC ?_ (by (first | with_reducible exact ix0 | with_reducible exact ix1 | with_reducible exact ix2 | with_reducible exact ix3 | with_reducible exact ix4 | with_reducible exact ix5 | with_reducible exact ix6 | with_reducible exact ix7 | with_reducible exact ix8 | with_reducible exact ix9 | with_reducible exact ix10 | with_reducible exact ix11 | fail)) (by ((intros; kernel_rfl))) (fun env h => by simp only [swapsWith]; rw [h, show (some NameKind.cell == some NameKind.local) = false from rfl, Bool.and_false, Bool.false_and, Bool.false_and]))
    (refine' EvOK.comp (onm := none) (ln := [Str.ofString "row"]) (fn := []) (mp := []) 100 (by (exact ⟨rfl, by decide +kernel, by decide +kernel, rfl, ⟨fun _ => rfl, fun _ _ => rfl⟩, (by intro x h; cases h <;> decide +kernel), by decide +kernel⟩)) ?_ (fun _ _ => rfl) (turn1 _ _ _ _ _ _) ?_ ?_ <;> ((try dsimp only [subSta, Option.toList, List.nil_append, List.cons_append])))
    repeat' wtm_at "mine step"
  refine' ExsOK.cons ?_ ?_
  · (refine' ExOK.asgComp (onm := none) (ln := [Str.ofString "row"]) (fn := [Str.ofString "hidden", Str.ofString "pairs", Str.ofString "size"]) (mp := [2, 1, 0]) 100 (by (exact ⟨rfl, by decide +kernel, by decide +kernel, rfl, ⟨fun _ => rfl, fun _ _ => rfl⟩, (by intro x h; cases h <;> decide +kernel), by decide +kernel⟩)) ?_ (fun _ _ => rfl) (turn1 _ _ _ _ _ _) ?_ ?_ (by (first | with_reducible exact ix0 | with_reducible exact ix1 | with_reducible exact ix2 | with_reducible exact ix3 | with_reducible exact ix4 | with_reducible exact ix5 | with_reducible exact ix6 | with_reducible exact ix7 | with_reducible exact ix8 | with_reducible exact ix9 | with_reducible exact ix10 | with_reducible exact ix11 | fail)) (by (decide +kernel)) (by ((intros; kernel_rfl))) (fun env h => by cases env; cases h; rfl) <;> ((try dsimp only [subSta, Option.toList, List.nil_append, List.cons_append])))
    · repeat' wtm_at "mine step"
    · repeat' wtm_at "mine step"
    · repeat' wtm_at "mine step"
  refine' ExsOK.cons ?_ ?_
  · (refine' ExOK.asgComp (onm := none) (ln := [Str.ofString "row", Str.ofString "field"]) (fn := [Str.ofString "walked"]) (mp := [4]) 100 (by (exact ⟨rfl, by decide +kernel, by decide +kernel, rfl, ⟨fun _ => rfl, fun _ _ => rfl⟩, (by intro x h; cases h <;> decide +kernel), by decide +kernel⟩)) ?_ (fun _ _ => rfl) (turn1 _ _ _ _ _ _) ?_ ?_ (by (first | with_reducible exact ix0 | with_reducible exact ix1 | with_reducible exact ix2 | with_reducible exact ix3 | with_reducible exact ix4 | with_reducible exact ix5 | with_reducible exact ix6 | with_reducible exact ix7 | with_reducible exact ix8 | with_reducible exact ix9 | with_reducible exact ix10 | with_reducible exact ix11 | fail)) (by (decide +kernel)) (by ((intros; kernel_rfl))) (fun env h => by cases env; cases h; rfl) <;> ((try dsimp only [subSta, Option.toList, List.nil_append, List.cons_append])))
    · repeat' wtm_at "mine step"
    · repeat' wtm_at "mine step"
    · repeat' wtm_at "mine step"
  repeat' wtm_at "mine step"
theorem taken_ok {g : Gl} (F : Fk g) : OpNOK g 4 (fun ws => call (.ref F.taken.a) ws) (fnCF 4 [none, none, none, none] [some 0, some 1, some 2, some 3, none] takenX.1) :=
  OpNOK.fnC (pn := [Str.ofString "size", Str.ofString "pairs", Str.ofString "hidden", Str.ofString "signs"]) F.lim F.taken.fn rfl rfl rfl (by ((intro doc pm an cdv ct ws h; rcases ws with _ | ⟨w1, _ | ⟨w2, _ | ⟨w3, _ | ⟨w4, _ | ⟨w5, ws⟩⟩⟩⟩⟩ <;> first | rfl | (simp at h)))) (by decide +kernel) (by decide +kernel) (fun _ => rfl) (by decide +kernel) (by decide +kernel) (by decide +kernel) (by decide +kernel) (by decide +kernel) (takenX.2 g F)
end Mine
end P40
section P41
open PySem PySem.W PyProof.Rows PySem.Calls PySem.Spec
namespace Mine
variable {g : Gl} {Γ : Sta} {lv : Nat}
/-! shifts, bits: on plain ints only -/
noncomputable def bin2 (F : Int → Int → Option Int) (a b : MV) (ss : SS) : Option (MV × SS) := match a with
  | .int (.c x) => match b with
    | .int (.c y) => match F x y with
      | .none => .none
      | some z => some (.int (.c z), ss)
    | _ => .none
  | _ => .none
theorem bin2_some {F : Int → Int → Option Int} {a b v : MV} {ss ss' : SS} (h : bin2 F a b ss = some (v, ss')) : ∃ x y z, a = .int (.c x) ∧ b = .int (.c y) ∧ F x y = some z ∧ v = .int (.c z) ∧ ss' = ss := by
  unfold bin2 at h
  split at h
  · split at h
    · split at h
      · cases h
      · rename_i z e
        cases h
        exact ⟨_, _, z, rfl, rfl, e, rfl, rfl⟩
    · cases h
  · cases h
theorem bin2_ok {op : Operator} {F : Int → Int → Option Int} (h : ∀ {A : Around} {s : Shared} {x y z : Int} {t u : Tok} {Q E : Value → Shared → Prop}, F x y = some z → Q (.int z s.toks) { s with toks := s.toks + 1 } → wpAny (model g.prog g.w) A (binaryOp op (.int x t) (.int y u)) Q E s) : Op2OK g lv (binaryOp op) (bin2 F) := by
  intro Γ c hl α ext G st a b wa wb v ss s Q E hf ha hb R hQ
  obtain ⟨x, y, z, rfl, rfl, e, rfl, rfl⟩ := bin2_some hf
  obtain ⟨t, rfl⟩ := ha.int_inv
  obtain ⟨u, rfl⟩ := hb.int_inv
  exact h e (hQ _ α _ (List.suffix_refl _) (R.tok (Nat.succ_pos _)) rfl rfl)
noncomputable def shrI (x y : Int) : Option Int := match y with
  | .ofNat n => some (x.fdiv (2 ^ n))
  | .negSucc _ => .none
noncomputable def shlI (x y : Int) : Option Int := match y with
  | .ofNat n => match decide ((Builtin.Int.intBits x : Int) + n ≤ 134217728) with
    | true => some (x * 2 ^ n)
    | false => .none
  | .negSucc _ => .none
noncomputable def shrM := bin2 shrI
noncomputable def shlM := bin2 shlI
noncomputable def xorM := bin2 fun x y => some (Builtin.bitXor x y)
theorem shr_ok : Op2OK g lv (binaryOp .RShift) shrM := bin2_ok fun {A s x y z t u Q E} e h => by
  unfold shrI at e
  split at e
  · rename_i n
    cases e
    exact rshift_int (n := (n : Int)) (by omega) h
  · cases e
theorem shl_ok : Op2OK g lv (binaryOp .LShift) shlM := bin2_ok fun {A s x y z t u Q E} e h => by
  unfold shlI at e
  split at e
  · rename_i n
    split at e
    · rename_i hd
      cases e
      have hd := of_decide_eq_true hd
      exact lshift_int (n := (n : Int)) (by omega) (by simpa using hd) h
    · cases e
  · cases e
theorem xor_ok : Op2OK g lv (binaryOp .BitXor) xorM := bin2_ok fun {A s x y z t u Q E} e h => by
  cases e
  exact xor_int h
noncomputable def invM (a : MV) (ss : SS) : Option (MV × SS) := match a with
  | .int (.c x) => some (.int (.c (Builtin.bitNot x)), ss)
  | _ => .none
theorem inv_ok : Op1OK g lv (unaryOp .Invert) invM := by
  intro Γ c hl α ext G st a wa v ss s Q E hf ha R hQ
  unfold invM at hf
  split at hf
  · cases hf
    obtain ⟨t, rfl⟩ := ha.int_inv
    exact invert_int (hQ _ α _ (List.suffix_refl _) (R.tok (Nat.succ_pos _)) rfl rfl)
  · cases hf
theorem gm_bits : GmOK g "bit_length" "int.bit_length" isIntM := by
  intro Γ c α ext G st s a wa pl Q E hrc ha R hQ
  obtain ⟨x, rfl⟩ := isIntM_some hrc
  obtain ⟨t, rfl⟩ := ha.int_inv
  exact getMethod_int_bit_length hQ
noncomputable def bitsM : List MV → SS → Option (MV × SS)
  | [.int (.c x)], ss => some (.int (.c (Builtin.Int.intBits x)), ss)
  | _, _ => .none
theorem bits_ok : OpNOK g lv (fun ws => call (.builtin "int.bit_length") ws) bitsM := by
  intro Γ c hl α ext G st vs ws v ss s Q E hf hv R hQ
  unfold bitsM at hf
  split at hf
  · cases hf
    cases hv with | cons h1 hv => cases hv with | nil =>
    obtain ⟨t, rfl⟩ := h1.int_inv
    exact call_int_bit_length (hQ _ α _ (List.suffix_refl _) (R.tok (Nat.succ_pos _)) rfl rfl)
  · cases hf
/-- divmod of plain ints -/
noncomputable def dmM : List MV → SS → Option (MV × SS)
  | [.int (.c x), .int (.c y)], ss => match decide (y = 0), Builtin.divisionGoesByPylong x y with
    | false, false => some (.ref ss.n, ⟨ss.n + 1, .tuple [.int (.c (x.fdiv y)), .int (.c (x.fmod y))] :: ss.sto⟩)
    | _, _ => .none
  | _, _ => .none
theorem dm_ok : OpNOK g lv (fun ws => call (.builtin "divmod") ws) dmM := by
  intro Γ c hl α ext G st vs ws v ss s Q E hf hv R hQ
  unfold dmM at hf
  split at hf
  · split at hf
    · rename_i h1 h2
      cases hf
      cases hv with | cons k1 hv => cases hv with | cons k2 hv => cases hv with | nil =>
      obtain ⟨t, rfl⟩ := k1.int_inv
      obtain ⟨u, rfl⟩ := k2.int_inv
      obtain ⟨m, led, bl, R⟩ := R
      refine divmod_N R.F R.N (of_decide_eq_false h1) (fun h' F' N' => ?_) (.inl h2)
      exact made_tuple (vs := [.int (.c _), .int (.c _)]) R F' N' (News.below R.N) (.cons rfl (.cons rfl .nil)) (Nat.succ_pos _) hQ
    · cases hf
  · cases hf
end Mine
end P41
section P42
open PySem PySem.W PyProof.Rows PySem.Calls PySem.Spec
set_option maxHeartbeats 4000000
namespace Mine
theorem EvOK.glbInt {g : Gl} {Γ : Sta} {lv : Nat} {x : Str} {i : Int} {t : Tok} {pos : Pos} (hg : ∀ h, g.B h → GlobV h x (.int i t)) (hk : Γ.scope.names.lookup x = some .globalImplicit) (hd : (x == ("__debug__" : Str)) = false) : EvOK g Γ lv (.Name x pos) (intF i) := by
  intro c hl α ext G st v st' s Q E hf R hQ
  cases hf
  exact glob_name R hg hk hd (hQ _ α _ (List.suffix_refl _) R rfl rfl)
end Mine
end P42
set_option hygiene false in
local macro_rules | `(tactic| wtm_at "mine call") => `(tactic| first
  | with_reducible exact shr_ok | with_reducible exact shl_ok | with_reducible exact xor_ok | with_reducible exact inv_ok
  | with_reducible refine' EvOK.glbInt F.divl (by ((intros; kernel_rfl))) (by ((intros; kernel_rfl)))
  | with_reducible refine' EvOK.meth ?_ gm_bits ?_ bits_ok (by ((intros; kernel_rfl))) (by (with_unfolding_all exact fun _ => ⟨_, rfl⟩))
  | with_reducible refine' EvOK.callBlt F.divmod (by ((intros; kernel_rfl))) (by ((intros; kernel_rfl))) dm_ok ?_ (by ((intros; kernel_rfl))) (by ((intros; kernel_rfl))))
section P42
open PySem PySem.W PyProof.Rows PySem.Calls PySem.Spec
set_option maxHeartbeats 4000000
namespace Mine
noncomputable def div2X : { f : PS → Option (FL × PS) // ∀ (g : Gl) (_ : Fk g), ExsOK g ⟨[Str.ofString "a", Str.ofString "b", Str.ofString "n"], [], sc_div2⟩ 0 bo_div2 f } := by
  apply Subtype.mk
  intro g F
  refine' ExsOK.cons ?_ ExsOK.fail
  repeat' wtm_at "mine step"
theorem div2_ok {g : Gl} (F : Fk g) : OpNOK g 1 (fun ws => call (.ref F.div2.a) ws) (fnF 3 0 div2X.1) :=
  OpNOK.fn (pn := [Str.ofString "a", Str.ofString "b", Str.ofString "n"]) (ls := []) F.lim F.div2.fn rfl rfl rfl (by decide +kernel) (by ((intro doc pm an cdv ct ws h; rcases ws with _ | ⟨w1, _ | ⟨w2, _ | ⟨w3, _ | ⟨w4, _ | ⟨w5, ws⟩⟩⟩⟩⟩ <;> first | rfl | (simp at h)))) (by decide +kernel) (by decide +kernel) (div2X.2 g F)
end Mine
end P42
section P43
open PySem PySem.W PyProof.Rows PySem.Calls PySem.Spec
set_option maxHeartbeats 4000000
namespace Mine
end Mine
end P43
set_option hygiene false in
local macro_rules | `(tactic| wtm_at "mine call") => `(tactic| first
  | with_reducible exact TgsOK.nil
  | with_reducible refine' TgsOK.loc ?_ (by (first | with_reducible exact ix0 | with_reducible exact ix1 | with_reducible exact ix2 | with_reducible exact ix3 | with_reducible exact ix4 | with_reducible exact ix5 | with_reducible exact ix6 | with_reducible exact ix7 | with_reducible exact ix8 | with_reducible exact ix9 | with_reducible exact ix10 | with_reducible exact ix11 | fail)) (by (decide +kernel)) (by ((intros; kernel_rfl)))
  | with_reducible refine' TgsOK.cel ?_ (by (first | with_reducible exact ix0 | with_reducible exact ix1 | with_reducible exact ix2 | with_reducible exact ix3 | with_reducible exact ix4 | with_reducible exact ix5 | with_reducible exact ix6 | with_reducible exact ix7 | with_reducible exact ix8 | with_reducible exact ix9 | with_reducible exact ix10 | with_reducible exact ix11 | fail)) (by ((intros; kernel_rfl)))
  | with_reducible refine' ExOK.asgT ?_ ?_ (by ((intros; kernel_rfl))) (by ((intros; kernel_rfl))))
section P43
open PySem PySem.W PyProof.Rows PySem.Calls PySem.Spec
set_option maxHeartbeats 4000000
namespace Mine
end Mine
end P43
section P44
open PySem PySem.W PyProof.Rows PySem.Calls PySem.Spec
namespace Mine
variable {g : Gl} {Γ : Sta} {lv : Nat}
/-! nested defs -/
/-- the block may make defs: its code object's table is the store's entry of number tk -/
inductive NestCx (qual : Str) (tk : Nat) (c : Cx g Γ) : Prop
  | mk (a cd P : Addr) (cl : List (Str × Addr)) (p : Program) (loose : List Str) (mean : ExcName → Option Value) (mg mb : Str → Option Value) (h1 : c.env = envX qual Γ.scope c.L a (.ref cd) cl) (h2 : CodeHd c.h₀ cd P) (h3 : fromEnd g.tabs.length g.tabs tk = some P) (h4 : Top p loose mean mg mb c.h₀)
noncomputable def ExOKp (P : Cx g Γ → Prop) (lv : Nat) (x : Stmt) (f : PS → Option (FL × PS)) : Prop :=
  ∀ (c : Cx g Γ), P c → lv ≤ c.lvl → ∀ α ext G st v st' s Q E, f st = some (v, st') → Rel c α ext G st s →
    (∀ w, After c α ext G s st' fun α' s' => FOK g.q α' v w → Q w s') →
    wpAny (model g.prog g.w) c.A (exec x c.env) Q E s
noncomputable def ExsOKp (P : Cx g Γ → Prop) (lv : Nat) (xs : List Stmt) (f : PS → Option (FL × PS)) : Prop :=
  ∀ (c : Cx g Γ), P c → lv ≤ c.lvl → ∀ α ext G st v st' s Q E, f st = some (v, st') → Rel c α ext G st s →
    (∀ w, After c α ext G s st' fun α' s' => FOK g.q α' v w → Q w s') →
    wpAny (model g.prog g.w) c.A (execs xs c.env) Q E s
theorem ExOK.p {P : Cx g Γ → Prop} {x : Stmt} {f : PS → Option (FL × PS)} (h : ExOK g Γ lv x f) : ExOKp P lv x f := fun c _ hl => h c hl
theorem ExsOK.p {P : Cx g Γ → Prop} {xs : List Stmt} {f : PS → Option (FL × PS)} (h : ExsOK g Γ lv xs f) : ExsOKp P lv xs f := fun c _ hl => h c hl
set_option smartUnfolding false in
theorem ExsOKp.cons {P : Cx g Γ → Prop} {x : Stmt} {xs : List Stmt} {f1 f2 : PS → Option (FL × PS)} (h1 : ExOKp P lv x f1) (h2 : ExsOKp P lv xs f2) : ExsOKp P lv (x :: xs) (seqF f1 f2) := by
  intro c hp hl α ext G st v st' s Q E hf hR hQ
  unfold seqF at hf
  refine eop hf fun r st1 e1 hf => ?_
  refine wpAny_execs_cons (h1 c hp hl α ext G st r st1 s _ E e1 hR fun w α1 s1 hs1 R1 ho1 va => ?_)
  cases r with
  | next =>
    cases w <;> first | exact False.elim va | skip
    exact h2 c hp hl α1 ext G st1 v st' s1 Q E hf R1 fun w α2 s2 hs2 R2 ho2 vv => hQ w α2 s2 (hs1.trans hs2) R2 (ho2.trans ho1) vv
  | brk => cases w <;> first | exact False.elim va | exact som2 (P := FetP c α ext G s Q) hf hQ .brk α1 s1 hs1 R1 ho1 va
  | cont => cases w <;> first | exact False.elim va | exact som2 (P := FetP c α ext G s Q) hf hQ .cont α1 s1 hs1 R1 ho1 va
  | ret v => cases w <;> first | exact False.elim va | exact som2 (P := FetP c α ext G s Q) hf hQ (.ret _) α1 s1 hs1 R1 ho1 va
theorem updF_of_nodup {a : Addr} {o : Obj} : ∀ {led rest : List (Addr × Obj)} {i : Nat}, ((led ++ rest).map (·.1)).Nodup → led[i]? = some (a, o) → UpdF a o (led ++ rest) (fun o' => led.set i (a, o') ++ rest)
  | [], _, _, _, h => by simp at h
  | p :: led, rest, 0, nd, h => by
    simp at h; subst h
    refine UpdF.head fun q hq e => ?_
    simp only [List.cons_append, List.map_cons, List.nodup_cons] at nd
    exact nd.1 (List.mem_map.mpr ⟨q, hq, e⟩)
  | p :: led, rest, i + 1, nd, h => by
    simp at h
    simp only [List.cons_append, List.map_cons, List.nodup_cons] at nd
    have hm : (a, o) ∈ led ++ rest := List.mem_append_left _ (List.mem_of_getElem? h)
    exact UpdF.tail (fun e => nd.1 (List.mem_map.mpr ⟨_, hm, e.symm⟩)) (updF_of_nodup nd.2 h)
noncomputable def cel3 (cel : List Nat) (j0 j1 j2 : Nat) : Option (List Nat) := match cel[j0]? with
  | .none => .none
  | some k0 => match cel[j1]? with
    | .none => .none
    | some k1 => match cel[j2]? with
      | .none => .none
      | some k2 => some [k0, k1, k2]
inductive Cel3At (cel cs : List Nat) (j0 j1 j2 : Nat) : Prop
  | mk (k0 k1 k2 : Nat) (h0 : cel[j0]? = some k0) (h1 : cel[j1]? = some k1) (h2 : cel[j2]? = some k2) (h : [k0, k1, k2] = cs)
set_option smartUnfolding false in
theorem cel3_some {cel cs : List Nat} {j0 j1 j2 : Nat} (h : cel3 cel j0 j1 j2 = some cs) : Cel3At cel cs j0 j1 j2 := by
  unfold cel3 at h
  refine eo h fun k0 e0 h => ?_
  refine eo h fun k1 e1 h => ?_
  refine eo h fun k2 e2 h => ?_
  exact ⟨k0, k1, k2, e0, e1, e2, Option.some.inj h⟩
noncomputable def ndefF (tk : Nat) (line col : Int) (kid j0 j1 j2 i : Nat) : PS → Option (FL × PS) := fun st => match cel3 st.cel j0 j1 j2 with
  | .none => .none
  | some cs => match fromEnd st.ss.n st.ss.sto tk with
    | some (.tab .none) => (match setCel { st with ss := ⟨st.ss.n + 2, .fn kid cs st.ss.n :: .code kid :: setE st.ss.n st.ss.sto tk (.tab (some (line, col, st.ss.n)))⟩ } i (.ref (st.ss.n + 1)) with
      | .none => .none
      | some st2 => some (.next, st2))
    | some (.tab (some (l, k, ci))) => (match l == line && k == col with
      | true => (match setCel { st with ss := ⟨st.ss.n + 1, .fn kid cs ci :: st.ss.sto⟩ } i (.ref st.ss.n) with
        | .none => .none
        | some st2 => some (.next, st2))
      | false => .none)
    | _ => .none
theorem nest_look {kid : Nat} {x0 x1 x2 : Str} {a0 a1 a2 : Addr} {k0 k1 k2 : Nat} {α : List Addr} (hcn : (fiOf kid).cn = [x0, x1, x2]) (hg : List.lookup x0 [(x2, a2), (x1, a1), (x0, a0)] = some a0 ∧ List.lookup x1 [(x2, a2), (x1, a1), (x0, a0)] = some a1 ∧ List.lookup x2 [(x2, a2), (x1, a1), (x0, a0)] = some a2)
    (f0 : fromEnd α.length α k0 = some a0) (f1 : fromEnd α.length α k1 = some a1) (f2 : fromEnd α.length α k2 = some a2) {α' : List Addr} (hs : α <:+ α') (i : Nat) (x : Str) (k : Nat) (hx : (fiOf kid).cn[i]? = some x) (hk : [k0, k1, k2][i]? = some k) :
    ∃ a, List.lookup x [(x2, a2), (x1, a1), (x0, a0)] = some a ∧ fromEnd α'.length α' k = some a := by
  rw [hcn] at hx
  cases i with
  | zero => exact Option.some.inj hx ▸ Option.some.inj hk ▸ ⟨a0, hg.1, fromEnd_mono hs f0⟩
  | succ i => cases i with
    | zero => exact Option.some.inj hx ▸ Option.some.inj hk ▸ ⟨a1, hg.2.1, fromEnd_mono hs f1⟩
    | succ i => cases i with
      | zero => exact Option.some.inj hx ▸ Option.some.inj hk ▸ ⟨a2, hg.2.2, fromEnd_mono hs f2⟩
      | succ i => exact nn hx
theorem nd_two {l : List (Addr × Obj)} {f c : Addr} (h1 : ∀ p ∈ l, p.1 < c) (h2 : c < f) (nd : (l.map (·.1)).Nodup) : (f :: c :: l.map (·.1)).Nodup := by
  have nin : ∀ b, c ≤ b → b ∉ l.map (·.1) := fun b hb hm => (List.mem_map.mp hm).elim fun q hq => absurd (h1 q hq.1) (Nat.not_lt.mpr (hq.2 ▸ hb))
  exact List.nodup_cons.mpr ⟨fun hm => (List.mem_cons.mp hm).elim (fun e => absurd h2 (e ▸ Nat.lt_irrefl _)) (nin _ (Nat.le_of_lt h2)), List.nodup_cons.mpr ⟨nin _ (Nat.le_refl _), nd⟩⟩
theorem ExOKp.nest {fq : Str} {tk kid j0 j1 j2 i : Nat} {pos : Pos} {x0 x1 x2 : Str} (hn : Γ.cnames[i]? = some (fiOf kid).name) (hk : Γ.scope.names.lookup (fiOf kid).name = some .cell)
    (hj0 : Γ.cnames[j0]? = some x0) (hj1 : Γ.cnames[j1]? = some x1) (hj2 : Γ.cnames[j2]? = some x2) (hcn : (fiOf kid).cn = [x0, x1, x2])
    (hd0 : (fiOf kid).params.defaults = []) (hk0 : (fiOf kid).params.kw_defaults = []) (ha : ∀ env, annTrees (fiOf kid).params none env = [])
    (hq : ∀ L a cd cl, qualnameIn (envX fq Γ.scope L a cd cl) (fiOf kid).name (fiOf kid).name = (fiOf kid).qual)
    (hcl : ∀ (env : Env) a0 a1 a2, env.cells.lookup x0 = some a0 → env.cells.lookup x1 = some a1 → env.cells.lookup x2 = some a2 → closureFor (fiOf kid).scope env = pure [(x2, a2), (x1, a1), (x0, a0)])
    (hlk : ∀ a0 a1 a2 : Addr, List.lookup x0 [(x2, a2), (x1, a1), (x0, a0)] = some a0 ∧ List.lookup x1 [(x2, a2), (x1, a1), (x0, a0)] = some a1 ∧ List.lookup x2 [(x2, a2), (x1, a1), (x0, a0)] = some a2) :
    ExOKp (g := g) (Γ := Γ) (NestCx fq tk) lv (.FunctionDef (fiOf kid).name (fiOf kid).params (fiOf kid).body [] none [] (fiOf kid).scope none (fiOf kid).name pos) (ndefF tk pos.line pos.col kid j0 j1 j2 i) := by
  intro c hN hl α ext G st v st' s Q E hf hR hQ
  cases hN with | mk a cd P cl p loose mean mg mb he C hP T =>
  cases hR with | mk m led bl R =>
  unfold ndefF at hf
  set_option smartUnfolding false in refine eo hf fun cs ecs hf => ?_
  cases cel3_some ecs with | mk k0 k1 k2 c0 c1 c2 ecs =>
  subst ecs
  refine (R.ce _ _ _ hj0 c0).elim fun a0 f0 => (R.ce _ _ _ hj1 c1).elim fun a1 f1 => (R.ce _ _ _ hj2 c2).elim fun a2 f2 => ?_
  have hP' := fromEnd_mono R.tb hP
  have hcl' := hcl _ _ _ _ f0.1 f1.1 f2.1
  have hal : α.length = st.ss.n := by rw [← R.la, List.length_map, R.lo.length, R.nn]
  have look := @nest_look kid x0 x1 x2 a0 a1 a2 k0 k1 k2 α hcn (hlk a0 a1 a2) f0.2 f1.2 f2.2
  refine nestDef_K hd0 hk0 (ha _) ?_
  cases et : fromEnd st.ss.n st.ss.sto tk with
  | none => rw [et] at hf; exact nn hf
  | some mo =>
  rw [et] at hf
  cases mo with
  | tab te => cases te with
    | none =>
      set_option smartUnfolding false in refine eo (o := setCel { st with ss := ⟨st.ss.n + 2, .fn kid [k0, k1, k2] st.ss.n :: .code kid :: setE st.ss.n st.ss.sto tk (.tab (some (pos.line, pos.col, st.ss.n)))⟩ } i (.ref (st.ss.n + 1))) hf fun st2 e2 hf => ?_
      replace hQ := som2 (P := FetP c α ext G s Q) hf hQ
      cases R.old et with | mk P' o ix hix hixe hled hα ho hget =>
      have eP : P = P' := Option.some.inj (hP'.symm.trans hα)
      subst eP
      have ho : o = tabObj #[] := ho
      subst ho
      refine pos_toks R.tk ?_
      have hq' := hq c.L a (.ref cd) cl
      rw [he] at hcl' ⊢
      rw [hq']
      refine nest_K R.F R.N T C rfl (updF_of_nodup R.nd hled) trivial rfl hcl' fun f c' oc vs t ctv doc h' tk' F' N' hd hv lt1 lt2 hpos => ?_
      have hsα : α <:+ f :: c' :: α := (List.suffix_cons c' α).trans (List.suffix_cons f _)
      have hc' : fromEnd (f :: c' :: α).length (f :: c' :: α) st.ss.n = some c' := by
        refine fromEnd_mono (List.suffix_cons f (c' :: α)) ?_
        rw [List.length_cons, hal]; exact fromEnd_new _ _ _
      have hf' : fromEnd (f :: c' :: α).length (f :: c' :: α) (st.ss.n + 1) = some f := by
        rw [List.length_cons, List.length_cons, hal]; exact fromEnd_new _ _ _
      have R1 : Rel c (f :: c' :: α) ext G { st with ss := ⟨st.ss.n + 2, .fn kid [k0, k1, k2] st.ss.n :: .code kid :: setE st.ss.n st.ss.sto tk (.tab (some (pos.line, pos.col, st.ss.n)))⟩ } { s with heap := h', toks := tk' } := by
        refine ⟨m, (f, _) :: (c', oc) :: led.set ix (P, tabObj (#[] ++ #[rawInt pos.line, rawInt pos.col, .ref c'])), bl, F', N', ?_, ?_, ?_, ?_, R.bk.mono hsα, R.ce.mono hsα, R.ge, R.ba, R.tb.trans hsα, hpos⟩
        · show (f :: c' :: ((led.set ix (P, tabObj (#[] ++ #[rawInt pos.line, rawInt pos.col, .ref c'])) ++ (bl ++ ext)).map (·.1))).Nodup
          rw [List.map_append, map_fst_set hled, ← List.map_append]
          exact nd_two lt1 lt2 R.nd
        · show f :: c' :: _ = _
          rw [map_fst_set hled, R.la]
        · refine .cons ⟨_, doc, _, none, ctv, c', rfl, hc', look hsα⟩ (.cons ⟨vs, t, hd, hv⟩ ?_)
          unfold setE
          rw [← hixe]
          refine (R.lo.mono hsα).set ⟨c', by rw [Array.empty_append], hc'⟩ fun q hq => ?_
          rw [hled] at hq; exact (congrArg Prod.fst (Option.some.inj hq)).symm
        · show _ = _ + 1 + 1
          rw [show (setE st.ss.n st.ss.sto tk (MO.tab (some (pos.line, pos.col, st.ss.n)))).length = st.ss.sto.length from List.length_set .., ← R.nn]
      rw [← he]
      exact R1.setCel hn hk e2 hf' fun s2 R2 ho2 => hQ .next _ s2 hsα R2 ho2 trivial
    | some te =>
      obtain ⟨ln, cl2, ci⟩ := te
      set_option smartUnfolding false in refine eb (b := ln == (pos.line : Int) && cl2 == (pos.col : Int)) hf fun hpos2 hf => ?_
      set_option smartUnfolding false in refine eo (o := setCel { st with ss := ⟨st.ss.n + 1, .fn kid [k0, k1, k2] ci :: st.ss.sto⟩ } i (.ref st.ss.n)) hf fun st2 e2 hf => ?_
      replace hQ := som2 (P := FetP c α ext G s Q) hf hQ
      have hpos2 := Bool.and_eq_true_iff.mp hpos2
      have h1 : ln = (pos.line : Int) := eq_of_beq hpos2.1
      have h2 : cl2 = (pos.col : Int) := eq_of_beq hpos2.2
      subst h1 h2
      cases R.old et with | mk P' o ix hix hixe hled hα ho hget =>
      have eP : P = P' := Option.some.inj (hP'.symm.trans hα)
      subst eP
      refine (show ∃ c', o = tabObj #[rawInt pos.line, rawInt pos.col, .ref c'] ∧ fromEnd α.length α ci = some c' from ho).elim fun c' ho => ?_
      have hoe := ho.1
      subst hoe
      refine pos_toks R.tk ?_
      have hq' := hq c.L a (.ref cd) cl
      rw [he] at hcl' ⊢
      rw [hq']
      refine nestHit_K (c' := c') R.F R.N T C rfl (List.mem_append_left _ (List.mem_of_getElem? hled)) (by simp [TriplesOk, rawInt]) (by simp [codeAmong, rawInt]) hcl' fun f ctv doc h' tk' F' N' lt1 hpos => ?_
      have hsα : α <:+ f :: α := List.suffix_cons f α
      have hf' : fromEnd (f :: α).length (f :: α) st.ss.n = some f := by
        rw [List.length_cons, hal]; exact fromEnd_new _ _ _
      have R1 : Rel c (f :: α) ext G { st with ss := ⟨st.ss.n + 1, .fn kid [k0, k1, k2] ci :: st.ss.sto⟩ } { s with heap := h', toks := tk' } :=
        Rel.alloc R F' N' lt1 ⟨_, doc, _, none, ctv, c', rfl, fromEnd_mono hsα ho.2, look hsα⟩ hpos
      rw [← he]
      exact R1.setCel hn hk e2 hf' fun s2 R2 ho2 => hQ .next _ s2 hsα R2 ho2 trivial
  | _ => exact nn hf
end Mine
end P44
section P45
open PySem PySem.W PyProof.Rows PySem.Calls PySem.Spec
namespace Mine
variable {g : Gl} {Γ : Sta} {lv : Nat}
/-! the call of a closure -/
noncomputable def OpCOK (g : Gl) (lv : Nat) (F : Nat → List MV → SS → Option (MV × SS)) : Prop :=
  ∀ (Γ : Sta) (c : Cx g Γ), lv ≤ c.lvl → ∀ α ext G st k a vs ws v ss s Q E, F k vs st.ss = some (v, ss) → fromEnd α.length α k = some a → VsOK g.q α vs ws → Rel c α ext G st s →
    (∀ w, After c α ext G s { st with ss := ss } fun α' s' => VOK g.q α' v w → Q w s') → wpAny (model g.prog g.w) c.A (call (.ref a) ws) Q E s
theorem OpCOK.mono {lv lv' : Nat} (h : lv ≤ lv') {F : Nat → List MV → SS → Option (MV × SS)} (o : OpCOK g lv F) : OpCOK g lv' F := fun Γ c hl => o Γ c (Nat.le_trans h hl)
noncomputable def isFn (ss : SS) (k : Nat) : Bool := match fromEnd ss.n ss.sto k with
  | some (.fn _ _ _) => true
  | _ => false
theorem isFn_at {c : Cx g Γ} {α : List Addr} {ext : List (Addr × Obj)} {G : List GenState} {st : PS} {s : Shared} (R : Rel c α ext G st s) {k : Nat} {a : Addr} (h : isFn st.ss k = true) (ha : fromEnd α.length α k = some a) : FnAt a s.heap := by
  cases R with | mk m led bl R =>
  unfold isFn at h
  cases e : fromEnd st.ss.n st.ss.sto k with
  | none => rw [e] at h; exact ff h
  | some mo =>
  rw [e] at h
  cases mo with
  | fn kid cs ci =>
    cases R.old e with | mk a' o ix _ _ _ hα ho hget =>
    have ea : a = a' := Option.some.inj (ha.symm.trans hα)
    subst ea
    cases (show FunOK _ _ _ _ _ from ho) with | mk cl doc pm an ct c' h1 _ _ =>
    obtain ⟨q1, q2, q3, q4⟩ := o
    have h1 : q3 = _ := h1
    subst h1
    exact ⟨_, _, _, _, hget⟩
  | _ => exact ff h
noncomputable def callCF (i : Nat) (f : PS → Option (List MV × PS)) (F : Nat → List MV → SS → Option (MV × SS)) : PS → Option (MV × PS) := fun st => match celF i st with
  | .none => .none
  | some (v, _) => match v with
    | .ref k => (match isFn st.ss k with
      | false => .none
      | true => match f st with
        | .none => .none
        | some (vs, st1) => match isFn st1.ss k with
          | false => .none
          | true => match F k vs st1.ss with
            | .none => .none
            | some (v, ss) => some (v, { st1 with ss := ss }))
    | _ => .none
set_option smartUnfolding false in
theorem EvOK.callC {x : Str} {i : Nat} {e : Expr} {es : List Expr} {p pos : Pos} {f : PS → Option (List MV × PS)} {F : Nat → List MV → SS → Option (MV × SS)} (hn : Γ.cnames[i]? = some x)
    (hk : Γ.scope.names.lookup x = some .cell ∨ Γ.scope.names.lookup x = some .free) (hd : (x == ("__debug__" : Str)) = false) (hd2 : (x == ("__classdict__" : Str)) = false) (ho : OpCOK g lv F) (hs : EvsOK g Γ lv (e :: es) f)
    (hu : unStarred e = true) (hus : es.all unStarred = true) : EvOK g Γ lv (.Call (.Name x p) (e :: es) [] pos) (callCF i f F) := by
  intro c hl α ext G st v st' s Q E hf hR hQ
  unfold callCF at hf
  refine eop hf fun v0 st0 e0 hf => ?_
  refine emv_ref hf fun k ek hf => ?_
  refine eb hf fun i1 hf => ?_
  refine eop hf fun vs st1 e1 hf => ?_
  refine eb hf fun i2 hf => ?_
  refine eop hf fun v1 ss e2 hf => ?_
  replace hQ := som2 (P := RetP c α ext G s Q) hf hQ
  subst ek
  refine Call_ (EvOK.cel (lv := lv) hn hk hd hd2 c hl α ext G st _ _ s _ E e0 hR fun w α1 s1 hs1 R1 ho1 va => ?_) rfl
  have hst : st = st0 := celF_el e0 fun _ _ _ e => e
  subst hst
  cases w <;> first | exact False.elim va | skip
  rename_i a
  refine callWith_F (isFn_at R1 i1 va) ?_ (starEach_un hu) (noStars _ _ _ hus)
  refine hs c hl α1 ext G st vs st1 s1 _ E _ e1 R1 fun ws α2 s2 hs2 R2 ho2 vv => ⟨isFn_at R2 i2 (fromEnd_mono hs2 va), ?_⟩
  exact ho Γ c hl α2 ext G st1 k a vs ws v1 ss s2 Q E e2 (fromEnd_mono hs2 va) vv R2 fun w3 α3 s3 hs3 R3 ho3 v3 => hQ w3 α3 s3 ((hs1.trans hs2).trans hs3) R3 (ho3.trans (ho2.trans ho1)) v3
noncomputable def cloF (kid np nl : Nat) (fb : PS → Option (FL × PS)) : Nat → List MV → SS → Option (MV × SS) := fun k vs ss => match fromEnd ss.n ss.sto k with
  | some (.fn kid' cs ci) => (match Nat.beq kid' kid with
    | false => .none
    | true => match fromEnd ss.n ss.sto ci with
      | some (.code k2) => (match Nat.beq k2 kid with
        | false => .none
        | true => match Nat.beq vs.length np with
          | false => .none
          | true => match fb ⟨vs.map some ++ List.replicate nl .none, cs, ss⟩ with
            | .none => .none
            | some (r, st) => match r with
              | .ret v => some (v, st.ss)
              | .next => some (.none, st.ss)
              | _ => .none)
      | _ => .none)
  | _ => .none
set_option smartUnfolding false in
theorem cloF_el {kid np nl : Nat} {fb : PS → Option (FL × PS)} {k : Nat} {vs : List MV} {ss ss' : SS} {v : MV} {P : Prop} (hf : cloF kid np nl fb k vs ss = some (v, ss'))
    (kk : ∀ cs ci r st1, fromEnd ss.n ss.sto k = some (.fn kid cs ci) → fromEnd ss.n ss.sto ci = some (.code kid) → vs.length = np → fb ⟨vs.map some ++ List.replicate nl .none, cs, ss⟩ = some (r, st1) →
      (match r with | .ret v => some (v, st1.ss) | .next => some (.none, st1.ss) | _ => none) = some (v, ss') → P) : P := by
  unfold cloF at hf
  cases e : fromEnd ss.n ss.sto k with
  | none => rw [e] at hf; exact nn hf
  | some mo =>
  rw [e] at hf
  cases mo with
  | fn kid' cs ci =>
    refine eb (b := Nat.beq kid' kid) hf fun hkid hf2 => ?_
    have hkid := Nat.eq_of_beq_eq_true hkid
    subst hkid
    cases e2 : fromEnd ss.n ss.sto ci with
    | none => rw [e2] at hf2; exact nn hf2
    | some mo =>
    rw [e2] at hf2
    cases mo with
    | code k2 =>
      refine eb (b := Nat.beq k2 kid') hf2 fun hk2 hf3 => ?_
      have hk2 := Nat.eq_of_beq_eq_true hk2
      subst hk2
      refine eb (b := Nat.beq vs.length np) hf3 fun hlen hf4 => ?_
      refine eop hf4 fun r st1 e1 hf5 => ?_
      exact kk cs ci r st1 e e2 (Nat.eq_of_beq_eq_true hlen) e1 hf5
    | _ => exact nn hf2
  | _ => exact nn hf
theorem OpCOK.clo {kid : Nat} {pn ls : List Str} {fb : PS → Option (FL × PS)} (hlim : ∀ h, g.B h → h.NoLimit)
    (hk : (fiOf kid).scope.kind = .function) (hco : (fiOf kid).scope.isCoroutine = false) (hgen : (fiOf kid).scope.isGenerator = false) (hcell : ∀ x ∈ (fiOf kid).scope.names, x.2 ≠ .cell)
    (hbind : ∀ (cl : List (Str × Addr)) (doc pm : Value) (an : Option Addr) (cdv ct : Value) (ws : List Value), ws.length = pn.length → bindArgs (fnX (fiOf kid).name (fiOf kid).qual (fiOf kid).params (fiOf kid).body (fiOf kid).scope cl .none .none doc pm an cdv ct) ⟨ws, []⟩ = pure (pn.zip ws))
    (hnd : (pn ++ ls).Nodup) (hloc : ∀ x ∈ pn, (fiOf kid).scope.names.lookup x = some .local)
    (hb : ExsOK g ⟨pn ++ ls, (fiOf kid).cn, (fiOf kid).scope⟩ lv (fiOf kid).body fb) : OpCOK g (lv + 1) (cloF kid pn.length ls.length fb) := by
  intro Γ c hl α ext G st k a vs ws v ss s Q E hf hka hvs R hQ
  refine cloF_el hf fun cs ci r st1 efn eco hlen e1 hf => ?_
  cases R with | mk m led bl R =>
  cases R.old efn with | mk a' o ix _ _ _ hα hfo ho =>
  have ea : a = a' := Option.some.inj (hka.symm.trans hα)
  subst ea
  cases (show FunOK _ _ _ _ _ from hfo) with | mk cl doc pm an ct c' hd hci hlk =>
  cases R.old eco with | mk c'' oc ix2 _ _ _ hα2 hco' hoc =>
  have ec : c' = c'' := Option.some.inj (hci.symm.trans hα2)
  subst ec
  refine (show ∃ (vs : Array Value) (t : Tok), oc.data = .fields vs ∧ vs[1]? = some (.str (fiOf kid).qual t) from hco').elim fun vc h => h.elim fun tc hvc => ?_
  have hndp : pn.Nodup := (List.nodup_append.mp hnd).1
  refine wpAny_call (callX_plain (cl := cl) c.below R.F R.N (hlim _ c.hB) c.hA c.hff c.hfk ho hd ⟨c', oc, vc, tc, rfl, hoc, hvc.1, hvc.2⟩ c.depth (BindsTo.of_eq (hbind cl doc pm an _ ct ws (hvs.length.trans hlen)))
    (fun y hy => hloc _ (List.of_mem_zip (show (y.1, y.2) ∈ pn.zip ws from hy)).1) (fun gh L' h₁ FG F' N' B' st' lt' => ?_) hcell hco hgen hk)
  refine hb (c.call (Γ' := ⟨pn ++ ls, (fiOf kid).cn, (fiOf kid).scope⟩) (a := a) (cdv := .ref c') (clo := cl) hk rfl hl B' (g.hB _ _ st' c.hB)) (lv_in hl) α (bl ++ ext) G _ r st1 _ _ _ e1
    ⟨_, led, [], F', N', R.nd, R.la, R.lo, R.nn, BlkOK.mk0 rfl (LocOK.args hvs hlen hndp), hlk, R.ge, R.ba, R.tb, Nat.lt_of_lt_of_le R.tk (Nat.le_add_right _ _)⟩ (fun w α' s' hs R1 ho1 va => ?_)
  cases R1 with | mk m' led' bl' R1 =>
  have hbl' : bl' = [] := R1.bk.1
  subst hbl'
  refine leaveK_ R1.F R1.N fun F₂ N₂ => ?_
  have key : Rel c α' ext G { st with ss := st1.ss } s' := ⟨m, led', bl, F₂, N₂, R1.nd, R1.la, R1.lo, R1.nn, R.bk.mono hs, R.ce.mono hs, R1.ge, R1.ba, R1.tb, R1.tk⟩
  refine (fn_ret (P := Ret c α ext G st s Q) hf hQ).elim (fun h => h.elim fun v' h => ?_) fun h => ?_
  · rw [h.1] at va
    cases w <;> first | exact False.elim va | exact h.2 _ α' s' hs key ho1 va
  · rw [h.1] at va
    cases w <;> first | exact False.elim va | exact h.2 _ α' s' hs key ho1 trivial
end Mine
end P45
section P46
open PySem PySem.W PyProof.Rows PySem.Calls PySem.Spec
namespace Mine
variable {g : Gl} {Γ : Sta} {lv : Nat}
/-- a def of the program that makes defs: its code object's table is the store's entry of number tk -/
inductive FnNest (g : Gl) (h : Heap) (a : Addr) (name qual : Str) (params : Arguments) (body : List Stmt) (scope : Scope) (tk : Nat) : Prop
  | mk (o : Obj) (doc pm : Value) (an : Option Addr) (ct : Value) (cd P : Addr) (p : Program) (loose : List Str) (mean : ExcName → Option Value) (mg mb : Str → Option Value) (h1 : h.get? a = some o) (h2 : o.data = .func (fnX name qual params body scope [] .none .none doc pm an (.ref cd) ct))
    (h3 : h.CodeRec (.ref cd) qual) (h4 : CodeHd h cd P) (h5 : fromEnd g.tabs.length g.tabs tk = some P) (h6 : Top p loose mean mg mb h)
theorem FnNest.is {h : Heap} {a : Addr} {name qual : Str} {params : Arguments} {body : List Stmt} {scope : Scope} {tk : Nat} (x : FnNest g h a name qual params body scope tk) : FnIs h a name qual params body scope [] := by
  cases x with | mk o doc pm an ct cd _ _ _ _ _ _ ho hd hcd _ _ _ => exact ⟨o, doc, pm, an, .ref cd, ct, ho, hd, hcd⟩
theorem OpNOK.fnCP {a : Addr} {tk : Nat} {name qual : Str} {params : Arguments} {body : List Stmt} {scope : Scope} {pn ln cn : List Str} {li ci : List (Option Nat)} {fb : PS → Option (FL × PS)} (hlim : ∀ h, g.B h → h.NoLimit) (hfd : ∀ h, g.B h → FnNest g h a name qual params body scope tk)
    (hk : scope.kind = .function) (hco : scope.isCoroutine = false) (hgen : scope.isGenerator = false)
    (hbind : ∀ (doc pm : Value) (an : Option Addr) (cdv ct : Value) (ws : List Value), ws.length = pn.length → bindArgs (fnX name qual params body scope [] .none .none doc pm an cdv ct) ⟨ws, []⟩ = pure (pn.zip ws))
    (hnp : pn.Nodup) (hkp : ∀ x ∈ pn, scope.names.lookup x = some .local ∨ (scope.names.lookup x = some .cell ∧ x ∈ cn)) (hcf : ∀ n, cellsFrom n scope.names [] = (cellUp cn n).reverse) (hcn : cn.Nodup)
    (hkc : ∀ x ∈ cn, scope.names.lookup x ≠ some .local) (hkl : ∀ x ∈ ln, scope.names.lookup x = some .local) (hli : ln.map (parAt pn) = li) (hci : cn.map (parAt pn) = ci)
    (hb : ExsOKp (g := g) (Γ := ⟨ln, cn, scope⟩) (NestCx qual tk) lv body fb) : OpNOK g (lv + 1) (fun ws => call (.ref a) ws) (fnCF pn.length li ci fb) := by
  exact OpNOK.fnCX (NC := NestCx qual tk) hlim (fun h hB => by
    cases hfd h hB with | mk o doc pm an ct cd P p' loose mean mg mb ho hd hcd hC hP hT =>
    exact ⟨o, doc, pm, an, .ref cd, ct, ho, hd, hcd, fun c' e k => ⟨a, cd, P, _, p', loose, mean, mg, mb, e, hC.keeps k, hP, hT.keeps k⟩⟩) hk hco hgen hbind hnp hkp hcf hcn hkc hkl hli hci hb
end Mine
end P46
section P47
open PySem PySem.W PyProof.Rows PySem.Calls PySem.Spec
namespace Mine
variable {g : Gl} {Γ : Sta} {lv : Nat}
/-! what a call leaves behind is dropped from the store -/
theorem fromEnd_three {α α1 α2 : List Addr} {k : Nat} {a b : Addr} (h1 : α <:+ α1) (h2 : α <:+ α2) (x : fromEnd α.length α k = some a) (y : fromEnd α1.length α1 k = some b) : fromEnd α2.length α2 k = some b :=
  (fromEnd_mono h2 x).trans ((fromEnd_mono h1 x).symm.trans y)
theorem VOK.three {q : Int} {α α1 α2 : List Addr} {v : MV} {w0 w : Value} (h1 : α <:+ α1) (h2 : α <:+ α2) (a : VOK q α v w0) (b : VOK q α1 v w) : VOK q α2 v w := by
  cases v with
  | ref k => exact a.ref_el (P := fun _ => VOK q α2 (.ref k) w) fun x hx => b.ref_el (P := VOK q α2 (.ref k)) fun y hy => fromEnd_three h1 h2 hx hy
  | none => exact b.none_el (P := VOK q α2 .none) trivial
  | bool x => exact b.bool_el (P := VOK q α2 (.bool x)) rfl
  | int e => exact b.int_el (P := VOK q α2 (.int e)) fun t => rfl
  | str x => exact b.str_el (P := VOK q α2 (.str x)) fun t => rfl
  | old x => exact b.old_el (P := VOK q α2 (.old x)) rfl
theorem VsOK.three {q : Int} {α α1 α2 : List Addr} (h1 : α <:+ α1) (h2 : α <:+ α2) {vs : List MV} {ws0 : List Value} (a : VsOK q α vs ws0) : ∀ {ws : List Value}, VsOK q α1 vs ws → VsOK q α2 vs ws := by
  induction a with
  | nil => intro ws b; cases b; exact .nil
  | cons a _ ih => intro ws b; cases b with | cons b r' => exact .cons (a.three h1 h2 b) (ih r')
theorem ObjOK.three {q : Int} {α α1 α2 : List Addr} (h1 : α <:+ α1) (h2 : α <:+ α2) {mo : MO} {o0 o : Obj} (x : ObjOK q α mo o0) (y : ObjOK q α1 mo o) : ObjOK q α2 mo o := by
  cases mo with
  | list vs => cases (show LstOK _ _ _ _ from x) with | mk _ _ _ a => cases (show LstOK _ _ _ _ from y) with | mk ws n e b => exact LstOK.mk ws n e (a.three h1 h2 b)
  | tuple vs => cases (show TupOK _ _ _ _ from x) with | mk _ _ _ a => cases (show TupOK _ _ _ _ from y) with | mk ws n e b => exact TupOK.mk ws n e (a.three h1 h2 b)
  | cell v => cases v with
    | none => exact y
    | some v => cases (show CllOK _ _ _ _ from x) with | mk _ _ a => cases (show CllOK _ _ _ _ from y) with | mk w e b => exact CllOK.mk w e (a.three h1 h2 b)
  | tab e => cases e with
    | none => exact y
    | some e => exact Exists.elim x fun c0 hx => Exists.elim y fun c' hy => ⟨c', hy.1, fromEnd_three h1 h2 hx.2 hy.2⟩
  | fn kid cs ci =>
    cases (show FunOK _ _ _ _ _ from x) with | mk _ _ _ _ _ c0 _ a l0 =>
    cases (show FunOK _ _ _ _ _ from y) with | mk cl doc pm an ct c' e b l =>
    exact FunOK.mk cl doc pm an ct c' e (fromEnd_three h1 h2 a b) fun i x k e1 e2 => (l0 i x k e1 e2).elim fun a0 f0 => (l i x k e1 e2).elim fun a1 f1 => ⟨a1, f1.1, fromEnd_three h1 h2 f0.2 f1.2⟩
  | _ => exact y
theorem LocOK.three {q : Int} {α α1 α2 : List Addr} (h1 : α <:+ α1) (h2 : α <:+ α2) {names : List Str} {m0 m : Str → Option Value} {loc : List (Option MV)} (a : LocOK q α names m0 loc) (b : LocOK q α1 names m loc) : LocOK q α2 names m loc := fun i x v e1 e2 =>
  (a i x v e1 e2).elim fun _ f => (b i x v e1 e2).elim fun w h => ⟨w, h.1, f.2.three h1 h2 h.2⟩
theorem BlkOK.three {c : Cx g Γ} {α α1 α2 : List Addr} (h1 : α <:+ α1) (h2 : α <:+ α2) {st : PS} {m0 m : Str → Option Value} {bl0 bl : List (Addr × Obj)} (a : BlkOK c α st.loc m0 bl0) (b : BlkOK c α1 st.loc m bl) : BlkOK c α2 st.loc m bl :=
  b.el (fun e eb hl => eb ▸ BlkOK.mk0 e (a.el (fun _ _ hl0 => hl0.three h1 h2 hl) fun _ _ _ _ _ e' => nn (e.symm.trans e')))
    fun x o es ep m' e hm eb e1 e2 e3 hl => eb ▸ BlkOK.mk1 e hm e1 e2 e3 (a.el (fun e' _ _ => nn (e'.symm.trans e)) fun _ _ _ _ _ _ _ _ _ _ _ hl0 => hl0.three h1 h2 hl)
theorem OsOK.of {q : Int} {α : List Addr} {mos : List MO} : ∀ {led : List (Addr × Obj)}, led.length = mos.length → (∀ (i : Nat) (mo : MO), mos[i]? = some mo → ∃ a o, led[i]? = some (a, o) ∧ ObjOK q α mo o) → OsOK q α mos led := by
  induction mos with
  | nil => intro led h _; rw [List.length_eq_zero_iff.mp h]; exact .nil
  | cons mo mos ih =>
    intro led h H
    cases led with
    | nil => exact absurd h.symm (Nat.succ_ne_zero _)
    | cons p led =>
      refine (H 0 mo rfl).elim fun a h1 => h1.elim fun o h1 => ?_
      have e : p = (a, o) := Option.some.inj h1.1
      subst e
      exact .cons h1.2 (ih (Nat.succ.inj h) fun i mo' e => H (i + 1) mo' e)
theorem nodup_inj {A : List Nat} (nd : A.Nodup) {i j : Nat} (hi : i < A.length) (hj : j < A.length) (e : A[i] = A[j]) : i = j :=
  (List.getElem?_inj hi nd).mp (by rw [List.getElem?_eq_getElem hi, List.getElem?_eq_getElem hj, e])
theorem nodup_pick {A : List Nat} (nd : A.Nodup) : ∀ {ks : List Nat}, ks.Nodup → (∀ k ∈ ks, k < A.length) → (ks.map (fun k => (A[k]?).getD 0)).Nodup
  | [], _, _ => List.nodup_nil
  | k :: ks, h, hl => by
    rw [List.nodup_cons] at h
    rw [List.map_cons, List.nodup_cons]
    refine ⟨fun hm => ?_, nodup_pick nd h.2 fun k' hk' => hl k' (List.mem_cons_of_mem _ hk')⟩
    obtain ⟨k', hk', e⟩ := List.mem_map.mp hm
    have h1 := hl k List.mem_cons_self
    have h2 := hl k' (List.mem_cons_of_mem _ hk')
    rw [List.getElem?_eq_getElem h1, List.getElem?_eq_getElem h2] at e
    simp only [Option.getD_some] at e
    have := nodup_inj nd h2 h1 e
    exact h.1 (this ▸ hk')
inductive KcAt (q : Int) (gs : List MO) (ks : List Nat) (j : Nat) (mo2 : MO) : Prop
  | mk (k : Nat) (mo1 : MO) (h1 : ks[j]? = some k) (h2 : gs[k]? = some mo1) (h3 : ∀ α α' o, ObjOK q α mo1 o → ObjOK q α' mo2 o)
noncomputable def KcOK (q : Int) (kept gs : List MO) (ks : List Nat) : Prop := ∀ (j : Nat) (mo2 : MO), kept[j]? = some mo2 → KcAt q gs ks j mo2
theorem KcOK.nil {q : Int} {gs : List MO} : KcOK q [] gs [] := fun _ _ h => nn h
theorem KcOK.cons {q : Int} {kept gs : List MO} {ks : List Nat} {k : Nat} {mo1 mo2 : MO} (h2 : gs[k]? = some mo1) (h3 : ∀ α α' o, ObjOK q α mo1 o → ObjOK q α' mo2 o) (h : KcOK q kept gs ks) : KcOK q (mo2 :: kept) gs (k :: ks) := fun j mo e => by
  cases j with
  | zero => exact .mk k mo1 rfl h2 fun α α' o x => Option.some.inj (show some mo2 = some mo from e) ▸ h3 α α' o x
  | succ j => exact (h j mo e).rec fun k mo1 h1 h2 h3 => .mk k mo1 h1 h2 h3
inductive OcAt (o1 o0 : Option MO) (ks : List Nat) (n1 n2 : Nat) (mo2 : MO) : Prop
  | old (h1 : o1 = some mo2) (h2 : o0 = some mo2)
  | tab (l k : Int) (c1 c2 jj kk : Nat) (h1 : o1 = some (.tab (some (l, k, c1)))) (h2 : mo2 = .tab (some (l, k, c2))) (h3 : ks[jj]? = some kk) (h4 : c1 + kk + 1 = n1) (h5 : c2 + jj + 1 = n2)
noncomputable def OcOK (sto old1 old2 : List MO) (ks : List Nat) (n1 n2 : Nat) : Prop := ∀ (j : Nat) (mo2 : MO), old2[j]? = some mo2 → OcAt old1[j]? sto[j]? ks n1 n2 mo2
theorem OcOK.same {sto : List MO} {ks : List Nat} {n1 n2 : Nat} : OcOK sto sto sto ks n1 n2 := fun _ _ h => .old h h
inductive VcOK (q : Int) (v1 v2 : MV) (ks : List Nat) (n1 n2 : Nat) : Prop
  | closed (h : ∀ α α' w, VOK q α v1 w → VOK q α' v2 w)
  | ref (c1 c2 jj kk : Nat) (e1 : v1 = .ref c1) (e2 : v2 = .ref c2) (h3 : ks[jj]? = some kk) (h4 : c1 + kk + 1 = n1) (h5 : c2 + jj + 1 = n2)
/-- the store of ss2 is a part of that of ss1 -/
structure Gc (q : Int) (ss ss1 ss2 : SS) (v1 v2 : MV) (gs kept old1 old2 : List MO) (ks : List Nat) : Prop where
  e1 : ss1.sto = gs ++ old1
  l1 : old1.length = ss.sto.length
  e2 : ss2.sto = kept ++ old2
  l2 : old2.length = ss.sto.length
  n2 : ss2.n = ss2.sto.length
  kn : ks.Nodup
  kl : ks.length = kept.length
  K : KcOK q kept gs ks
  O : OcOK ss.sto old1 old2 ks ss1.n ss2.n
  V : VcOK q v1 v2 ks ss1.n ss2.n
theorem Gc.kb {q : Int} {ss ss1 ss2 : SS} {v1 v2 : MV} {gs kept old1 old2 : List MO} {ks : List Nat} (x : Gc q ss ss1 ss2 v1 v2 gs kept old1 old2 ks) (k : Nat) (hk : k ∈ ks) : k < gs.length :=
  (List.mem_iff_getElem?.mp hk).elim fun j hj => (x.K j _ (List.getElem?_eq_getElem (x.kl ▸ (List.getElem?_eq_some_iff.mp hj).1))).rec
    fun k' _ h1 h2 _ => Option.some.inj (h1.symm.trans hj) ▸ (List.getElem?_eq_some_iff.mp h2).1
theorem Gc.of {q : Int} {ss ss1 : SS} {v1 v2 : MV} {gs kept old1 old2 : List MO} {ks : List Nat} (hn : ss.n = ss.sto.length) (e1 : ss1.sto = gs ++ old1) (l1 : old1.length = ss.sto.length) (l2 : old2.length = ss.sto.length) (kn : ks.Nodup) (kl : ks.length = kept.length)
    (K : KcOK q kept gs ks) (O : OcOK ss.sto old1 old2 ks ss1.n (ss.n + kept.length)) (V : VcOK q v1 v2 ks ss1.n (ss.n + kept.length)) : Gc q ss ss1 ⟨ss.n + kept.length, kept ++ old2⟩ v1 v2 gs kept old1 old2 ks :=
  ⟨e1, l1, rfl, l2, by show _ = (kept ++ old2).length; rw [List.length_append, l2, hn, Nat.add_comm], kn, kl, K, O, V⟩
theorem fromEnd_at {β : Type} {l : List β} {k j : Nat} {x : β} (h : fromEnd l.length l k = some x) (e : k + j + 1 = l.length) : l[j]? = some x := by
  unfold fromEnd at h
  split at h
  · rw [← h]; congr 1; omega
  · cases h
theorem fromEnd_of {β : Type} {l : List β} {k j : Nat} {x : β} (h : l[j]? = some x) (e : k + j + 1 = l.length) : fromEnd l.length l k = some x := by
  unfold fromEnd
  rw [if_pos (Z.blt_iff.mpr (by omega))]
  rw [← h]; congr 1; omega
theorem Rel.gc {c : Cx g Γ} {α α1 : List Addr} {ext : List (Addr × Obj)} {G : List GenState} {loc : List (Option MV)} {cel : List Nat} {ss ss1 ss2 : SS} {s s1 : Shared} {v1 v2 : MV} {w : Value} {gs kept old1 old2 : List MO} {ks : List Nat}
    (R : Rel c α ext G ⟨loc, cel, ss⟩ s) (hs : α <:+ α1) (R1 : Rel c α1 ext G ⟨loc, cel, ss1⟩ s1) (x : Gc g.q ss ss1 ss2 v1 v2 gs kept old1 old2 ks) (hv : VOK g.q α1 v1 w) :
    ∃ α2, α <:+ α2 ∧ Rel c α2 ext G ⟨loc, cel, ss2⟩ s1 ∧ VOK g.q α2 v2 w := by
  cases R with | mk m led bl R =>
  cases R1 with | mk m1 led1 bl1 R1 =>
  have hal : α.length = ss.sto.length := by rw [← R.la, List.length_map, R.lo.length]
  have hal1 : α1.length = ss1.sto.length := by rw [← R1.la, List.length_map, R1.lo.length]
  have hn1 : ss1.n = ss1.sto.length := R1.nn
  have hl1 : led1.length = ss1.sto.length := R1.lo.length
  have hg1 : ss1.sto.length = gs.length + ss.sto.length := by rw [x.e1, List.length_append, x.l1]
  obtain ⟨αg, rfl⟩ := hs
  have hag : αg.length = gs.length := by rw [List.length_append] at hal1; omega
  let p0 : Addr × Obj := (0, tabObj #[])
  let ledk := ks.map fun k => (led1[k]?).getD p0
  let led2 := ledk ++ led1.drop gs.length
  have hkl : ∀ k ∈ ks, k < led1.length := fun k hk => by have := x.kb k hk; omega
  have hA : (led1.drop gs.length).map (·.1) = α := by
    rw [List.map_drop, R1.la, ← hag, List.drop_left]
  have hmem : ∀ p ∈ led2, p ∈ led1 := fun p hp => by
    rcases List.mem_append.mp hp with hp | hp
    · obtain ⟨k, hk, rfl⟩ := List.mem_map.mp hp
      rw [List.getElem?_eq_getElem (hkl k hk)]
      exact List.getElem_mem _
    · exact List.mem_of_mem_drop hp
  have hk1 : ledk.map (·.1) = ks.map fun k => ((led1.map (·.1))[k]?).getD 0 := by
    show List.map _ (List.map _ _) = _
    rw [List.map_map]
    refine List.map_congr_left fun k hk => ?_
    simp only [Function.comp, List.getElem?_map]
    rw [List.getElem?_eq_getElem (hkl k hk)]
    rfl
  have nd1 := R1.nd
  rw [List.map_append, List.nodup_append] at nd1
  obtain ⟨ndA, ndR, ndD⟩ := nd1
  have hs2 : α <:+ led2.map (·.1) := by
    show α <:+ (ledk ++ led1.drop gs.length).map (·.1)
    rw [List.map_append, hA]; exact List.suffix_append _ _
  have hlk : ledk.length = kept.length := by show (List.map _ ks).length = _; rw [List.length_map, x.kl]
  have hl2 : led2.length = ss2.sto.length := by
    show (ledk ++ led1.drop gs.length).length = _
    rw [x.e2, List.length_append, List.length_append, List.length_drop, hlk, x.l2]
    omega
  have atk : ∀ {jj kk c1 c2 : Nat} {a : Addr}, ks[jj]? = some kk → c1 + kk + 1 = ss1.n → c2 + jj + 1 = ss2.n → fromEnd (αg ++ α).length (αg ++ α) c1 = some a → fromEnd (led2.map (·.1)).length (led2.map (·.1)) c2 = some a := by
    intro jj kk c1 c2 a h1 h2 h3 h4
    have h5 := fromEnd_at (j := kk) h4 (by omega)
    refine fromEnd_of (j := jj) ?_ (by rw [List.length_map, hl2, ← x.n2]; exact h3)
    have hjj : jj < ks.length := (List.getElem?_eq_some_iff.mp h1).1
    show ((ledk ++ led1.drop gs.length).map (·.1))[jj]? = _
    rw [List.map_append, List.getElem?_append_left (by rw [List.length_map, hlk, ← x.kl]; exact hjj), hk1, List.getElem?_map, h1]
    simp only [Option.map_some]
    rw [R1.la, h5]
    rfl
  refine ⟨led2.map (·.1), hs2, ⟨m1, led2, bl1, R1.F, fun p hp => R1.N p ?_, ?_, rfl, ?_, x.n2, R.bk.three (List.suffix_append _ _) hs2 R1.bk, R.ce.mono hs2, R1.ge, R1.ba, R.tb.trans hs2, R1.tk⟩, ?_⟩
  · rcases List.mem_append.mp hp with hp | hp
    · exact List.mem_append_left _ (hmem p hp)
    · exact List.mem_append_right _ hp
  · show ((ledk ++ led1.drop gs.length ++ (bl1 ++ ext)).map (·.1)).Nodup
    rw [List.map_append, List.nodup_append]
    refine ⟨?_, ndR, fun a ha b hb => ?_⟩
    · rw [List.map_append, List.nodup_append]
      refine ⟨?_, ?_, fun a ha b hb e => ?_⟩
      · rw [hk1]
        exact nodup_pick ndA x.kn fun k hk => by rw [List.length_map]; exact hkl k hk
      · rw [List.map_drop]
        exact ndA.sublist (List.drop_sublist _ _)
      · subst e
        rw [hk1] at ha
        obtain ⟨k, hk, rfl⟩ := List.mem_map.mp ha
        have hk' : k < (led1.map (·.1)).length := by rw [List.length_map]; exact hkl k hk
        rw [List.getElem?_eq_getElem hk', Option.getD_some, List.map_drop] at hb
        obtain ⟨j, hj, e⟩ := List.mem_iff_getElem.mp hb
        rw [List.getElem_drop] at e
        have := nodup_inj ndA _ hk' e
        have := x.kb k hk
        omega
    · obtain ⟨p, hp, rfl⟩ := List.mem_map.mp ha
      exact ndD _ (List.mem_map_of_mem (hmem p hp)) b hb
  · refine OsOK.of hl2 fun j mo2 hj => ?_
    have hj : ss2.sto[j]? = some mo2 := hj
    rw [x.e2] at hj
    by_cases hjk : j < kept.length
    · rw [List.getElem?_append_left hjk] at hj
      cases x.K j mo2 hj with | mk k mo1 h1 h2 h3 =>
      have h2' : ss1.sto[k]? = some mo1 := by rw [x.e1, List.getElem?_append_left (List.getElem?_eq_some_iff.mp h2).1]; exact h2
      obtain ⟨a, o, h4, h5⟩ := R1.lo.get h2'
      refine ⟨a, o, ?_, h3 _ _ _ h5⟩
      show (ledk ++ led1.drop gs.length)[j]? = _
      rw [List.getElem?_append_left (by omega)]
      show (List.map _ ks)[j]? = _
      rw [List.getElem?_map, h1]
      simp only [Option.map_some]
      rw [h4]
      rfl
    · rw [List.getElem?_append_right (by omega)] at hj
      have hidx : led2[j]? = led1[gs.length + (j - kept.length)]? := by
        show (ledk ++ led1.drop gs.length)[j]? = _
        rw [List.getElem?_append_right (by omega), List.getElem?_drop, hlk]
      have hst : ∀ mo, old1[j - kept.length]? = some mo → ss1.sto[gs.length + (j - kept.length)]? = some mo := fun mo h => by
        rw [x.e1, List.getElem?_append_right (by omega), Nat.add_sub_cancel_left]; exact h
      cases x.O _ _ hj with
      | old h1 h2 => cases R1.lo.get (hst _ h1) with | mk a o h4 h5 => cases R.lo.get h2 with | mk a0 o0 h6 h7 => exact ⟨a, o, hidx.trans h4, h7.three (List.suffix_append _ _) hs2 h5⟩
      | tab l k c1 c2 jj kk h1 h2 h3 h4 h5 =>
        subst h2
        cases R1.lo.get (hst _ h1) with | mk a o h6 h7 => exact ⟨a, o, hidx.trans h6, Exists.elim h7 fun c' hc => ⟨c', hc.1, atk h3 h4 h5 hc.2⟩⟩
  · cases x.V with
    | closed h => exact h _ _ _ hv
    | ref c1 c2 jj kk e1 e2 h3 h4 h5 =>
      rw [e1] at hv
      rw [e2]
      exact hv.ref_el (P := VOK g.q _ (.ref c2)) fun a ha => atk h3 h4 h5 ha
inductive GcAt (q : Int) (F : List MV → SS → Option (MV × SS)) (vs : List MV) (ss : SS) (v2 : MV) (ss2 : SS) : Prop
  | mk (vs' : List MV) (v1 : MV) (ss1 : SS) (gs kept old1 old2 : List MO) (ks : List Nat) (hv : ∀ α ws, VsOK q α vs ws → VsOK q α vs' ws) (e : F vs' ss = some (v1, ss1)) (x : Gc q ss ss1 ss2 v1 v2 gs kept old1 old2 ks)
theorem OpNOK.gc {t : List Value → Sem Value} {F M : List MV → SS → Option (MV × SS)} (hF : OpNOK g lv t F)
    (h : ∀ vs ss v2 ss2, M vs ss = some (v2, ss2) → ss.n = ss.sto.length → GcAt g.q F vs ss v2 ss2) : OpNOK g lv t M := by
  intro Γ c hl α ext G st vs ws v ss s Q E hf hv R hQ
  have hn : st.ss.n = st.ss.sto.length := by cases R with | mk _ _ _ R => exact R.nn
  cases h _ _ _ _ hf hn with | mk vs' v1 ss1 gs kept old1 old2 ks h1 h2 h3 =>
  refine hF Γ c hl α ext G st vs' ws v1 ss1 s Q E h2 (h1 _ _ hv) R fun w α1 s1 hs R1 ho va => ?_
  exact (Rel.gc (loc := st.loc) (cel := st.cel) R hs R1 h3 va).elim fun α2 h => hQ w α2 s1 h.1 h.2.1 ho h.2.2
end Mine
end P47
section P48
open PySem PySem.W PyProof.Rows PySem.Calls PySem.Spec
set_option maxHeartbeats 4000000
namespace Mine
noncomputable def retNF : PS → Option (FL × PS) := fun st => some (.ret .none, st)
theorem ExOK.retN {g : Gl} {Γ : Sta} {lv : Nat} {pos : Pos} : ExOK g Γ lv (.Return none pos) retNF := by
  intro c hl α ext G st v st' s Q E hf hR hQ
  cases hf
  exact wpAny_Return_none (hQ (.ret .none) α s (List.suffix_refl _) hR rfl trivial)
structure Fn (g : Gl) (F : Fk g) : Prop where
  i2d : ∀ h, g.B h → FnNest g h F.i2d.a (Str.ofString "_int2digits") (Str.ofString "_int2digits") pa_i2d bo_i2d sc_i2d 1
  d2i : ∀ h, g.B h → FnNest g h F.d2i.a (Str.ofString "_digits2int") (Str.ofString "_digits2int") pa_d2i bo_d2i sc_d2i 0
end Mine
end P48
set_option hygiene false in
local macro_rules | `(tactic| wtm_at "mine call") => `(tactic| first
  | with_reducible exact ExOK.retN
  | with_reducible refine' EvOK.callC (by (first | with_reducible exact ix0 | with_reducible exact ix1 | with_reducible exact ix2 | with_reducible exact ix3 | with_reducible exact ix4 | with_reducible exact ix5 | with_reducible exact ix6 | with_reducible exact ix7 | with_reducible exact ix8 | with_reducible exact ix9 | with_reducible exact ix10 | with_reducible exact ix11 | fail)) (by (decide +kernel)) (by ((intros; kernel_rfl))) (by ((intros; kernel_rfl))) hFc ?_ (by ((intros; kernel_rfl))) (by ((intros; kernel_rfl))))
section P48
open PySem PySem.W PyProof.Rows PySem.Calls PySem.Spec
set_option maxHeartbeats 4000000
namespace Mine
noncomputable def inn0X : { f : (Nat → List MV → SS → Option (MV × SS)) → PS → Option (FL × PS) // ∀ (g : Gl) (_ : Fk g) (lv : Nat) (Fc : Nat → List MV → SS → Option (MV × SS)) (_ : OpCOK g lv Fc), ExsOK g ⟨[Str.ofString "x", Str.ofString "L", Str.ofString "R", Str.ofString "mid", Str.ofString "shift", Str.ofString "upper", Str.ofString "lower"], [Str.ofString "a_digits", Str.ofString "inner", Str.ofString "n"], sc_inn0⟩ lv bo_inn0 (f Fc) } := by
  apply Subtype.mk
  intro g F lv Fc hFc
  refine' (?_ : ExsOK g _ lv bo_inn0 ((fun Fc => _) Fc))
  repeat' wtm_at "mine step"
noncomputable def inn1X : { f : (Nat → List MV → SS → Option (MV × SS)) → PS → Option (FL × PS) // ∀ (g : Gl) (_ : Fk g) (lv : Nat) (Fc : Nat → List MV → SS → Option (MV × SS)) (_ : OpCOK g lv Fc), ExsOK g ⟨[Str.ofString "L", Str.ofString "R", Str.ofString "mid", Str.ofString "shift"], [Str.ofString "digits", Str.ofString "inner", Str.ofString "n"], sc_inn1⟩ lv bo_inn1 (f Fc) } := by
  apply Subtype.mk
  intro g F lv Fc hFc
  repeat' wtm_at "mine step"
end Mine
end P48
section P49
open PySem PySem.W PyProof.Rows PySem.Calls PySem.Spec
set_option maxHeartbeats 4000000
namespace Mine
theorem i2d_nest {g : Gl} {lv : Nat} {pos : Pos} : ExOKp (g := g) (Γ := ⟨[Str.ofString "a"], [Str.ofString "n", Str.ofString "a_digits", Str.ofString "inner"], sc_i2d⟩) (NestCx (Str.ofString "_int2digits") 1) lv
    (.FunctionDef (fiOf 0).name (fiOf 0).params (fiOf 0).body [] none [] (fiOf 0).scope none (fiOf 0).name pos) (ndefF 1 pos.line pos.col 0 1 2 0 2) :=
  ExOKp.nest (x0 := Str.ofString "a_digits") (x1 := Str.ofString "inner") (x2 := Str.ofString "n") rfl (by (decide +kernel)) rfl rfl rfl rfl rfl rfl (fun _ => rfl) (fun _ _ _ _ => by kernel_rfl)
    (fun env a0 a1 a2 h0 h1 h2 => by
      show closureFor sc_inn0 env = _
      unfold closureFor
      simp [cellOf, h0, h1, h2]) (fun _ _ _ => ⟨rfl, rfl, rfl⟩)
theorem d2i_nest {g : Gl} {lv : Nat} {pos : Pos} : ExOKp (g := g) (Γ := ⟨[], [Str.ofString "digits", Str.ofString "n", Str.ofString "inner"], sc_d2i⟩) (NestCx (Str.ofString "_digits2int") 0) lv
    (.FunctionDef (fiOf 1).name (fiOf 1).params (fiOf 1).body [] none [] (fiOf 1).scope none (fiOf 1).name pos) (ndefF 0 pos.line pos.col 1 0 2 1 2) :=
  ExOKp.nest (x0 := Str.ofString "digits") (x1 := Str.ofString "inner") (x2 := Str.ofString "n") rfl (by (decide +kernel)) rfl rfl rfl rfl rfl rfl (fun _ => rfl) (fun _ _ _ _ => by kernel_rfl)
    (fun env a0 a1 a2 h0 h1 h2 => by
      show closureFor sc_inn1 env = _
      unfold closureFor
      simp [cellOf, h0, h1, h2]) (fun _ _ _ => ⟨rfl, rfl, rfl⟩)
noncomputable def i2dX : { f : (Nat → List MV → SS → Option (MV × SS)) → PS → Option (FL × PS) // ∀ (g : Gl) (_ : Fk g) (lv : Nat) (Fc : Nat → List MV → SS → Option (MV × SS)) (_ : OpCOK g lv Fc), ExsOKp (g := g) (Γ := ⟨[Str.ofString "a"], [Str.ofString "n", Str.ofString "a_digits", Str.ofString "inner"], sc_i2d⟩) (NestCx (Str.ofString "_int2digits") 1) lv bo_i2d (f Fc) } := by
  apply Subtype.mk
  intro g F lv Fc hFc
  refine' ExsOKp.cons (ExOK.p ?_) (ExsOKp.cons i2d_nest (ExsOK.p ?_))
  repeat' first
    | wtm_at "mine step"
    | (refine' ExOK.asgC ?_ (by (first | with_reducible exact ix0 | with_reducible exact ix1 | with_reducible exact ix2 | with_reducible exact ix3 | with_reducible exact ix4 | with_reducible exact ix5 | with_reducible exact ix6 | with_reducible exact ix7 | with_reducible exact ix8 | with_reducible exact ix9 | with_reducible exact ix10 | with_reducible exact ix11 | fail)) (by ((intros; kernel_rfl))) (fun env h => by simp only [swapsWith]))
noncomputable def d2iX : { f : (Nat → List MV → SS → Option (MV × SS)) → PS → Option (FL × PS) // ∀ (g : Gl) (_ : Fk g) (lv : Nat) (Fc : Nat → List MV → SS → Option (MV × SS)) (_ : OpCOK g lv Fc), ExsOKp (g := g) (Γ := ⟨[], [Str.ofString "digits", Str.ofString "n", Str.ofString "inner"], sc_d2i⟩) (NestCx (Str.ofString "_digits2int") 0) lv bo_d2i (f Fc) } := by
  apply Subtype.mk
  intro g F lv Fc hFc
  refine' ExsOKp.cons d2i_nest (ExsOK.p ?_)
  repeat' wtm_at "mine step"
noncomputable def inn0F (Fc : Nat → List MV → SS → Option (MV × SS)) : PS → Option (FL × PS) :=
  seqF (ifF (isF (binF (binF (locF 1) (intF 1) addM) (locF 2) eqM)) (seqF (setF (locF 0) (celF 0) (locF 1)) (seqF retNF passF)) passF)
    (seqF (asgF (binF (binF (locF 1) (locF 2) addM) (intF 1) shrM) 3)
      (seqF (asgF (binF (binF (locF 3) (locF 1) subM) (celF 2) mulM) 4)
        (seqF (asgF (binF (locF 0) (locF 4) shrM) 5)
          (seqF (asgF (binF (locF 0) (binF (locF 5) (locF 4) shlM) xorM) 6)
            (seqF (exprF (callCF 1 (consF (locF 6) (consF (locF 1) (consF (locF 3) nilF))) Fc))
              (seqF (exprF (callCF 1 (consF (locF 5) (consF (locF 3) (consF (locF 2) nilF))) Fc)) passF))))))
theorem inn0X_eq (Fc : Nat → List MV → SS → Option (MV × SS)) : inn0X.1 Fc = inn0F Fc := rfl
noncomputable def inn1F (Fc : Nat → List MV → SS → Option (MV × SS)) : PS → Option (FL × PS) :=
  seqF (ifF (isF (binF (binF (locF 0) (intF 1) addM) (locF 1) eqM)) (seqF (retF (binF (celF 0) (locF 0) idxM)) passF) passF)
    (seqF (asgF (binF (binF (locF 0) (locF 1) addM) (intF 1) shrM) 2)
      (seqF (asgF (binF (binF (locF 2) (locF 0) subM) (celF 2) mulM) 3)
        (seqF (retF (binF (binF (callCF 1 (consF (locF 2) (consF (locF 1) nilF)) Fc) (locF 3) shlM) (callCF 1 (consF (locF 0) (consF (locF 2) nilF)) Fc) addM)) passF)))
theorem inn1X_eq (Fc : Nat → List MV → SS → Option (MV × SS)) : inn1X.1 Fc = inn1F Fc := rfl
noncomputable def i2dF (Fc : Nat → List MV → SS → Option (MV × SS)) : PS → Option (FL × PS) :=
  seqF (asgCF (binF (listF (consF (intF 0) nilF)) (binF (binF (binF (methF isIntM (locF 0) nilF bitsM) (celF 0) addM) (intF 1) subM) (celF 0) divM) mulM) 1)
    (seqF (ndefF 1 32 4 0 1 2 0 2)
      (seqF (ifF (isF (locF 0)) (seqF (exprF (callCF 2 (consF (locF 0) (consF (intF 0) (consF (callF (consF (celF 1) nilF) lenM) nilF))) Fc)) passF) passF)
        (seqF (retF (celF 1)) passF)))
theorem i2dX_eq (Fc : Nat → List MV → SS → Option (MV × SS)) : i2dX.1 Fc = i2dF Fc := rfl
noncomputable def d2iF (Fc : Nat → List MV → SS → Option (MV × SS)) : PS → Option (FL × PS) :=
  seqF (ndefF 0 47 4 1 0 2 1 2) (seqF (retF (iteF (isF (celF 0)) (callCF 2 (consF (intF 0) (consF (callF (consF (celF 0) nilF) lenM) nilF)) Fc) (intF 0))) passF)
theorem d2iX_eq (Fc : Nat → List MV → SS → Option (MV × SS)) : d2iX.1 Fc = d2iF Fc := rfl
noncomputable def innF : Nat → PS → Option (FL × PS)
  | 0 => failF
  | n + 1 => inn0F (cloF 0 3 4 (innF n))
noncomputable def inmF : Nat → PS → Option (FL × PS)
  | 0 => failF
  | n + 1 => inn1F (cloF 1 2 2 (inmF n))
theorem inn_ok {g : Gl} (F : Fk g) : ∀ n, OpCOK g (n + 1) (cloF 0 3 4 (innF n))
  | 0 => OpCOK.clo (kid := 0) (pn := [Str.ofString "x", Str.ofString "L", Str.ofString "R"]) (ls := [Str.ofString "mid", Str.ofString "shift", Str.ofString "upper", Str.ofString "lower"]) F.lim rfl rfl rfl (by (decide +kernel)) (by ((intro cl doc pm an cdv ct ws h; rcases ws with _ | ⟨w1, _ | ⟨w2, _ | ⟨w3, _ | ⟨w4, _ | ⟨w5, ws⟩⟩⟩⟩⟩ <;> first | rfl | (simp at h)))) (by (decide +kernel)) (by (decide +kernel)) ExsOK.fail
  | n + 1 => OpCOK.clo (kid := 0) (pn := [Str.ofString "x", Str.ofString "L", Str.ofString "R"]) (ls := [Str.ofString "mid", Str.ofString "shift", Str.ofString "upper", Str.ofString "lower"]) F.lim rfl rfl rfl (by (decide +kernel)) (by ((intro cl doc pm an cdv ct ws h; rcases ws with _ | ⟨w1, _ | ⟨w2, _ | ⟨w3, _ | ⟨w4, _ | ⟨w5, ws⟩⟩⟩⟩⟩ <;> first | rfl | (simp at h)))) (by (decide +kernel)) (by (decide +kernel)) (inn0X.2 g F (n + 1) _ (inn_ok F n))
theorem inm_ok {g : Gl} (F : Fk g) : ∀ n, OpCOK g (n + 1) (cloF 1 2 2 (inmF n))
  | 0 => OpCOK.clo (kid := 1) (pn := [Str.ofString "L", Str.ofString "R"]) (ls := [Str.ofString "mid", Str.ofString "shift"]) F.lim rfl rfl rfl (by (decide +kernel)) (by ((intro cl doc pm an cdv ct ws h; rcases ws with _ | ⟨w1, _ | ⟨w2, _ | ⟨w3, _ | ⟨w4, _ | ⟨w5, ws⟩⟩⟩⟩⟩ <;> first | rfl | (simp at h)))) (by (decide +kernel)) (by (decide +kernel)) ExsOK.fail
  | n + 1 => OpCOK.clo (kid := 1) (pn := [Str.ofString "L", Str.ofString "R"]) (ls := [Str.ofString "mid", Str.ofString "shift"]) F.lim rfl rfl rfl (by (decide +kernel)) (by ((intro cl doc pm an cdv ct ws h; rcases ws with _ | ⟨w1, _ | ⟨w2, _ | ⟨w3, _ | ⟨w4, _ | ⟨w5, ws⟩⟩⟩⟩⟩ <;> first | rfl | (simp at h)))) (by (decide +kernel)) (by (decide +kernel)) (inn1X.2 g F (n + 1) _ (inm_ok F n))
theorem i2d_ok0 {g : Gl} (F : Fk g) (Fs : Fn g F) (n : Nat) : OpNOK g (n + 2) (fun ws => call (.ref F.i2d.a) ws) (fnCF 2 [some 0] [some 1, none, none] (i2dF (cloF 0 3 4 (innF n)))) :=
  OpNOK.fnCP (tk := 1) (pn := [Str.ofString "a", Str.ofString "n"]) F.lim Fs.i2d rfl rfl rfl (by ((intro doc pm an cdv ct ws h; rcases ws with _ | ⟨w1, _ | ⟨w2, _ | ⟨w3, _ | ⟨w4, _ | ⟨w5, ws⟩⟩⟩⟩⟩ <;> first | rfl | (simp at h)))) (by (decide +kernel)) (by (decide +kernel)) (fun _ => rfl) (by (decide +kernel)) (by (decide +kernel)) (by (decide +kernel)) (by (decide +kernel)) (by (decide +kernel)) (i2dX.2 g F (n + 1) _ (inn_ok F n))
theorem d2i_ok0 {g : Gl} (F : Fk g) (Fs : Fn g F) (n : Nat) : OpNOK g (n + 2) (fun ws => call (.ref F.d2i.a) ws) (fnCF 2 [] [some 0, some 1, none] (d2iF (cloF 1 2 2 (inmF n)))) :=
  OpNOK.fnCP (tk := 0) (pn := [Str.ofString "digits", Str.ofString "n"]) F.lim Fs.d2i rfl rfl rfl (by ((intro doc pm an cdv ct ws h; rcases ws with _ | ⟨w1, _ | ⟨w2, _ | ⟨w3, _ | ⟨w4, _ | ⟨w5, ws⟩⟩⟩⟩⟩ <;> first | rfl | (simp at h)))) (by (decide +kernel)) (by (decide +kernel)) (fun _ => rfl) (by (decide +kernel)) (by (decide +kernel)) (by (decide +kernel)) (by (decide +kernel)) (by (decide +kernel)) (d2iX.2 g F (n + 1) _ (inm_ok F n))
end Mine
end P49
section P50
open PySem PySem.W PyProof.Rows PySem.Calls PySem.Spec
namespace Mine
/-! runs of the pure functions, by steps -/
section
variable {st st1 st2 : PS} {f f1 f2 f3 : PS → Option (MV × PS)} {g1 g2 : PS → Option (FL × PS)}
theorem seqF_next (h : g1 st = some (.next, st1)) : seqF g1 g2 st = g2 st1 := by unfold seqF; rw [h]
theorem seqF_ret {v : MV} (h : g1 st = some (.ret v, st1)) : seqF g1 g2 st = some (.ret v, st1) := by unfold seqF; rw [h]
theorem ifF_t {t : PS → Option (Bool × PS)} (h : t st = some (true, st1)) : ifF t g1 g2 st = g1 st1 := by unfold ifF; rw [h]
theorem ifF_f {t : PS → Option (Bool × PS)} (h : t st = some (false, st1)) : ifF t g1 g2 st = g2 st1 := by unfold ifF; rw [h]
theorem iteF_t {t : PS → Option (Bool × PS)} (h : t st = some (true, st1)) : iteF t f1 f2 st = f1 st1 := by unfold iteF; rw [h]
theorem iteF_f {t : PS → Option (Bool × PS)} (h : t st = some (false, st1)) : iteF t f1 f2 st = f2 st1 := by unfold iteF; rw [h]
theorem asgF_run {v : MV} {i : Nat} (h : f st = some (v, st1)) : asgF f i st = some (.next, { st1 with loc := st1.loc.set i (some v) }) := by unfold asgF; rw [h]
theorem exprF_run {v : MV} (h : f st = some (v, st1)) : exprF f st = some (.next, st1) := by unfold exprF; rw [h]
theorem retF_run {v : MV} (h : f st = some (v, st1)) : retF f st = some (.ret v, st1) := by unfold retF; rw [h]
theorem binF_run {a b v : MV} {ss : SS} {F : MV → MV → SS → Option (MV × SS)} (h1 : f1 st = some (a, st1)) (h2 : f2 st1 = some (b, st2)) (h3 : F a b st2.ss = some (v, ss)) : binF f1 f2 F st = some (v, { st2 with ss := ss }) := by unfold binF; rw [h1]; dsimp only; rw [h2]; dsimp only; rw [h3]
theorem setF_run {v : MV} {k j : Nat} {vs : List MV} (h1 : f1 st = some (v, st)) (h2 : f2 st = some (.ref k, st)) (h3 : f3 st = some (.int (.c (Int.ofNat j)), st)) (h4 : listAt st.ss k = some vs) (h5 : small vs.length = true) (h6 : Nat.blt j vs.length = true) :
    setF f1 f2 f3 st = some (.next, { st with ss := ⟨st.ss.n, setE st.ss.n st.ss.sto k (.list (vs.set j v))⟩ }) := by
  unfold setF
  rw [h1]; dsimp only; rw [h2]; dsimp only; rw [h3]; dsimp only; rw [h4]; dsimp only; rw [h5, h6]
theorem callCF_run {i k : Nat} {fs : PS → Option (List MV × PS)} {F : Nat → List MV → SS → Option (MV × SS)} {vs : List MV} {v : MV} {ss : SS} (h1 : celF i st = some (.ref k, st2)) (h2 : isFn st.ss k = true) (h3 : fs st = some (vs, st1)) (h4 : isFn st1.ss k = true) (h5 : F k vs st1.ss = some (v, ss)) :
    callCF i fs F st = some (v, { st1 with ss := ss }) := by
  unfold callCF
  rw [h1]; dsimp only; rw [h2]; dsimp only; rw [h3]; dsimp only; rw [h4]; dsimp only; rw [h5]
theorem callF_run {fs : PS → Option (List MV × PS)} {F : List MV → SS → Option (MV × SS)} {vs : List MV} {v : MV} {ss : SS} (h3 : fs st = some (vs, st1)) (h5 : F vs st1.ss = some (v, ss)) : callF fs F st = some (v, { st1 with ss := ss }) := by
  unfold callF
  rw [h3]; dsimp only; rw [h5]
theorem celF_run {i k : Nat} {v : MV} (h1 : st.cel[i]? = some k) (h2 : fromEnd st.ss.n st.ss.sto k = some (.cell (some v))) : celF i st = some (v, st) := by
  unfold celF
  rw [h1]; dsimp only; rw [h2]
theorem isF_run {v : MV} {b : Bool} (h1 : f st = some (v, st1)) (h2 : truthB v st1.ss = some b) : isF f st = some (b, st1) := by
  unfold isF
  rw [h1]; dsimp only; rw [h2]
end
theorem cloF_run {kid np nl k ci : Nat} {cs : List Nat} {fb : PS → Option (FL × PS)} {vs : List MV} {ss : SS} {r : FL} {st : PS} (h1 : fromEnd ss.n ss.sto k = some (.fn kid cs ci)) (h2 : fromEnd ss.n ss.sto ci = some (.code kid)) (h3 : vs.length = np)
    (h4 : fb ⟨vs.map some ++ List.replicate nl .none, cs, ss⟩ = some (r, st)) : cloF kid np nl fb k vs ss = (match (generalizing := false) r with | .ret v => some (v, st.ss) | .next => some (.none, st.ss) | _ => .none) := by
  unfold cloF
  rw [h1]; dsimp only
  rw [show Nat.beq kid kid = true from Nat.beq_refl kid]; dsimp only
  rw [h2]; dsimp only
  rw [show Nat.beq kid kid = true from Nat.beq_refl kid]; dsimp only
  rw [h3, show Nat.beq np np = true from Nat.beq_refl np]; dsimp only
  rw [h4]
  try (cases r <;> rfl)
theorem isFn_run {kid k ci : Nat} {cs : List Nat} {ss : SS} (h1 : fromEnd ss.n ss.sto k = some (.fn kid cs ci)) : isFn ss k = true := by unfold isFn; rw [h1]
theorem listAt_run {k : Nat} {vs : List MV} {ss : SS} (h1 : fromEnd ss.n ss.sto k = some (.list vs)) : listAt ss k = some vs := by unfold listAt; rw [h1]
/-! the store -/
theorem fromEnd_lt {β : Type} {n : Nat} {l : List β} {k : Nat} {x : β} (h : fromEnd n l k = some x) : k < n := by
  unfold fromEnd at h
  split at h
  · rename_i hk; exact Z.blt_iff.mp hk
  · cases h
theorem fromEnd_push {β : Type} {n : Nat} {l : List β} {k : Nat} {x y : β} (h : fromEnd n l k = some x) : fromEnd (n + 1) (y :: l) k = some x := by
  have hk := fromEnd_lt h
  unfold fromEnd at *
  rw [if_pos (Z.blt_iff.mpr hk)] at h
  rw [if_pos (Z.blt_iff.mpr (Nat.lt_succ_of_lt hk))]
  rw [show n + 1 - 1 - k = (n - 1 - k) + 1 by omega, List.getElem?_cons_succ]
  exact h
theorem fromEnd_self {β : Type} {n : Nat} {l : List β} {k : Nat} {x y : β} (h : fromEnd n l k = some x) : fromEnd n (setE n l k y) k = some y := by
  have hk := fromEnd_lt h
  unfold fromEnd setE at *
  rw [if_pos (Z.blt_iff.mpr hk)] at *
  rw [List.getElem?_set_self (List.getElem?_eq_some_iff.mp h).1]
theorem fromEnd_other {β : Type} {n : Nat} {l : List β} {k j : Nat} {x y z : β} (h : fromEnd n l k = some x) (hj : fromEnd n l j = some z) (hne : k ≠ j) : fromEnd n (setE n l k y) j = some z := by
  have hk := fromEnd_lt h
  have hk' := fromEnd_lt hj
  unfold fromEnd setE at *
  rw [if_pos (Z.blt_iff.mpr hk')] at *
  rw [List.getElem?_set_ne (by omega)]
  exact hj
theorem setE_setE {β : Type} {n : Nat} {l : List β} {k : Nat} {x y : β} : setE n (setE n l k x) k y = setE n l k y := by unfold setE; rw [List.set_set]
/-! ints -/
theorem mulX_c {a b : Int} (ha : a.natAbs < 2 ^ 64) (hb : b.natAbs < 2 ^ 64) : mulX (.c a) (.c b) = some (.c (a * b)) := by
  have h : ∀ x : Int, x.natAbs < 2 ^ 64 → okX (.c x) = true := fun x hx => Z.blt_iff.mpr (Nat.lt_of_lt_of_le hx (by decide +kernel))
  unfold mulX
  rw [h a ha, h b hb]
theorem bitXor_low (X k : Nat) : Builtin.bitXor (Int.ofNat X) (Int.ofNat (X / 2 ^ k * 2 ^ k)) = Int.ofNat (X % 2 ^ k) := by
  rw [bitXor_and, bitAnd_pp (x := Int.ofNat X) (y := Int.ofNat (X / 2 ^ k * 2 ^ k)) (Int.natCast_nonneg _) (Int.natCast_nonneg _)]
  have e : (Int.ofNat X).toNat &&& (Int.ofNat (X / 2 ^ k * 2 ^ k)).toNat = X / 2 ^ k * 2 ^ k := by
    show X &&& (X / 2 ^ k * 2 ^ k) = _
    apply Nat.eq_of_testBit_eq
    intro i
    rw [Nat.testBit_and, Nat.mul_comm, Nat.testBit_two_pow_mul, Nat.testBit_div_two_pow]
    by_cases h : i ≥ k
    · rw [show i - k + k = i by omega]; simp [h]
    · simp [h]
  rw [e]
  have h1 := Nat.div_add_mod X (2 ^ k)
  rw [Nat.mul_comm] at h1
  generalize X / 2 ^ k * 2 ^ k = y at *
  show Int.ofNat X + Int.ofNat y - 2 * (y : Int) = Int.ofNat (X % 2 ^ k)
  have e1 : Int.ofNat X = (X : Int) := rfl
  have e2 : Int.ofNat y = (y : Int) := rfl
  have e3 : Int.ofNat (X % 2 ^ k) = ((X % 2 ^ k : Nat) : Int) := rfl
  rw [e1, e2, e3]
  omega
theorem shrI_n (X k : Nat) : shrI (Int.ofNat X) (Int.ofNat k) = some (Int.ofNat (X / 2 ^ k)) := by
  unfold shrI
  dsimp only
  congr 1
  have : ((2 : Int) ^ k) = ((2 ^ k : Nat) : Int) := by simp
  rw [this]
  exact Int.fdiv_eq_ediv_of_nonneg _ (Int.natCast_nonneg _)
theorem shlI_n {X k : Nat} (h : Builtin.Int.intBits (Int.ofNat X) + k ≤ 134217728) : shlI (Int.ofNat X) (Int.ofNat k) = some (Int.ofNat (X * 2 ^ k)) := by
  unfold shlI
  dsimp only
  rw [decide_eq_true (by omega)]
  dsimp only
  have : ((2 : Int) ^ k) = ((2 ^ k : Nat) : Int) := by simp
  rw [this]
  rfl
theorem bits_n {X m : Nat} (h : X < 2 ^ m) : Builtin.Int.intBits (Int.ofNat X) ≤ m := intBits_le h
end Mine
end P50
section P51
open PySem PySem.W PyProof.Rows PySem.Calls PySem.Spec
namespace Mine
abbrev iN (n : Nat) : MV := .int (.c (Int.ofNat n))
section
variable (ss : SS)
theorem shrM_n (X k : Nat) : shrM (iN X) (iN k) ss = some (iN (X / 2 ^ k), ss) := by unfold shrM bin2; dsimp only; rw [shrI_n]
theorem shlM_n {X k : Nat} (h : Builtin.Int.intBits (Int.ofNat X) + k ≤ 134217728) : shlM (iN X) (iN k) ss = some (iN (X * 2 ^ k), ss) := by unfold shlM bin2; dsimp only; rw [shlI_n h]
theorem xorM_low (X k : Nat) : xorM (iN X) (iN (X / 2 ^ k * 2 ^ k)) ss = some (iN (X % 2 ^ k), ss) := by unfold xorM bin2; dsimp only; rw [bitXor_low]
theorem mulM_n {a b : Nat} (ha : a < 2 ^ 64) (hb : b < 2 ^ 64) : mulM (iN a) (iN b) ss = some (iN (a * b), ss) := by
  unfold mulM; dsimp only; unfold liftI; rw [mulX_c (a := Int.ofNat a) (b := Int.ofNat b) ha hb]; rfl
theorem subM_n {a b : Nat} (h : b ≤ a) : subM (iN a) (iN b) ss = some (iN (a - b), ss) := by
  show some (MV.int (.c (Int.ofNat a + -Int.ofNat b)), ss) = _
  rw [show Int.ofNat a + -Int.ofNat b = Int.ofNat (a - b) by
    have e1 : Int.ofNat a = (a : Int) := rfl
    have e2 : Int.ofNat b = (b : Int) := rfl
    have e3 : Int.ofNat (a - b) = ((a - b : Nat) : Int) := rfl
    rw [e1, e2, e3]; omega]
theorem addM_n (a b : Nat) : addM (iN a) (iN b) ss = some (iN (a + b), ss) := rfl
end
theorem binF_p {f1 f2 : PS → Option (MV × PS)} {st st1 st2 : PS} {a b v : MV} {F : MV → MV → SS → Option (MV × SS)} (h1 : f1 st = some (a, st1)) (h2 : f2 st1 = some (b, st2)) (h3 : F a b st2.ss = some (v, st2.ss)) : binF f1 f2 F st = some (v, st2) := binF_run h1 h2 h3
/-- what a call of inner finds -/
structure I0 (ss : SS) (kid k ci ka ki kn kl m : Nat) (vs : List MV) : Prop where
  f : fromEnd ss.n ss.sto k = some (.fn kid [ka, ki, kn] ci)
  co : fromEnd ss.n ss.sto ci = some (.code kid)
  a : fromEnd ss.n ss.sto ka = some (.cell (some (.ref kl)))
  i : fromEnd ss.n ss.sto ki = some (.cell (some (.ref k)))
  n : fromEnd ss.n ss.sto kn = some (.cell (some (iN m)))
  l : fromEnd ss.n ss.sto kl = some (.list vs)
theorem I0.set {ss : SS} {kid k ci ka ki kn kl m : Nat} {vs : List MV} (h : I0 ss kid k ci ka ki kn kl m vs) (vs' : List MV) : I0 ⟨ss.n, setE ss.n ss.sto kl (.list vs')⟩ kid k ci ka ki kn kl m vs' := by
  have ne : ∀ {j : Nat} {mo : MO}, fromEnd ss.n ss.sto j = some mo → (∀ us, mo ≠ .list us) → kl ≠ j := fun h1 h2 e => by
    subst e
    rw [h.l] at h1
    exact h2 _ (Option.some.inj h1).symm
  exact ⟨fromEnd_other h.l h.f (ne h.f nofun), fromEnd_other h.l h.co (ne h.co nofun), fromEnd_other h.l h.a (ne h.a nofun), fromEnd_other h.l h.i (ne h.i nofun), fromEnd_other h.l h.n (ne h.n nofun), fromEnd_self h.l⟩
noncomputable def Filled (vs : List MV) (L R X m : Nat) (vs' : List MV) : Prop :=
  vs'.length = vs.length ∧ ∀ i, vs'[i]? = if L ≤ i ∧ i < R then some (iN (X / 2 ^ (m * (i - L)) % 2 ^ m)) else vs[i]?
theorem Filled.two {vs vs1 vs2 : List MV} {L M R X m : Nat} (h1 : L < M) (h2 : M < R) (a : Filled vs L M (X % 2 ^ (m * (M - L))) m vs1) (b : Filled vs1 M R (X / 2 ^ (m * (M - L))) m vs2) : Filled vs L R X m vs2 := by
  refine ⟨b.1.trans a.1, fun i => ?_⟩
  rw [b.2, a.2]
  by_cases c1 : L ≤ i ∧ i < M
  · rw [if_neg (by omega), if_pos c1, if_pos (by omega)]
    refine congrArg (fun z => some (iN z)) ?_
    obtain ⟨j, rfl⟩ := Nat.exists_eq_add_of_le c1.1
    obtain ⟨d, e⟩ : ∃ d, M - L = j + 1 + d := ⟨M - L - j - 1, by omega⟩
    rw [e, Nat.add_sub_cancel_left, show m * (j + 1 + d) = m * j + (m + m * d) by rw [Nat.mul_add, Nat.mul_add, Nat.mul_one, Nat.add_assoc], Nat.pow_add, Nat.mod_mul_right_div_self, Nat.pow_add, Nat.mod_mul_right_mod]
  · by_cases c2 : M ≤ i ∧ i < R
    · rw [if_pos c2, if_pos (by omega)]
      refine congrArg (fun z => some (iN z)) ?_
      rw [Nat.div_div_eq_div_mul, ← Nat.pow_add, ← Nat.mul_add, show M - L + (i - M) = i - L by omega]
    · rw [if_neg c2, if_neg c1, if_neg (by omega)]
theorem inn0_run {k ci ka ki kn kl m : Nat} (hm : m ≤ 4000) : ∀ (fuel L R X : Nat) (ss : SS) (vs : List MV), I0 ss 0 k ci ka ki kn kl m vs → L < R → R ≤ L + fuel + 1 → R ≤ vs.length → vs.length ≤ 100 → X < 2 ^ (m * (R - L)) →
    ∃ vs', Filled vs L R X m vs' ∧ cloF 0 3 4 (innF (fuel + 1)) k [iN X, iN L, iN R] ss = some (.none, ⟨ss.n, setE ss.n ss.sto kl (.list vs')⟩) := by
  intro fuel
  induction fuel with
  | zero =>
    intro L R X ss vs h hLR hf hR hl hX
    obtain rfl : R = L + 1 := by omega
    exact inn0_leaf L X ss vs h hR hl (by rwa [Nat.add_sub_cancel_left, Nat.mul_one] at hX)
  | succ fuel ih =>
    intro L R X ss vs h hLR hf hR hl hX
    by_cases hc : R = L + 1
    · subst hc
      exact inn0_leaf L X ss vs h hR hl (by rwa [Nat.add_sub_cancel_left, Nat.mul_one] at hX)
    generalize hM : (L + R) / 2 = M
    have h1 : L < M := by omega
    have h2 : M < R := by omega
    have hs : (M - L) * m < 2 ^ 64 := by
      have : (M - L) * m ≤ 100 * 4000 := Nat.mul_le_mul (by omega) hm
      omega
    have hmc : m * (M - L) = (M - L) * m := Nat.mul_comm _ _
    obtain ⟨vs1, f1, e1⟩ := ih L M (X % 2 ^ ((M - L) * m)) ss vs h h1 (by omega) (by omega) hl (by rw [hmc]; exact Nat.mod_lt _ (Nat.pow_pos (by decide)))
    have hU : X / 2 ^ ((M - L) * m) < 2 ^ (m * (R - M)) := by
      rw [Nat.div_lt_iff_lt_mul (Nat.pow_pos (by decide)), ← hmc, ← Nat.pow_add, ← Nat.mul_add, show R - M + (M - L) = R - L by omega]
      exact hX
    obtain ⟨vs2, f2, e2⟩ := ih M R (X / 2 ^ ((M - L) * m)) ⟨ss.n, setE ss.n ss.sto kl (.list vs1)⟩ vs1 (h.set vs1) h2 (by omega) (by rw [f1.1]; exact hR) (by rw [f1.1]; exact hl) hU
    rw [setE_setE] at e2
    refine ⟨vs2, Filled.two h1 h2 (by rw [hmc]; exact f1) (by rw [hmc]; exact f2), ?_⟩
    have hbU : Builtin.Int.intBits (Int.ofNat (X / 2 ^ ((M - L) * m))) + (M - L) * m ≤ 134217728 := by
      have := bits_n hU
      have h3 : m * (R - M) ≤ 4000 * 100 := Nat.mul_le_mul hm (by omega)
      have h4 : (M - L) * m ≤ 100 * 4000 := Nat.mul_le_mul (by omega) hm
      omega
    refine cloF_run (r := .next) (st := ⟨[some (iN X), some (iN L), some (iN R), some (iN M), some (iN ((M - L) * m)), some (iN (X / 2 ^ ((M - L) * m))), some (iN (X % 2 ^ ((M - L) * m)))], [ka, ki, kn], ⟨ss.n, setE ss.n ss.sto kl (.list vs2)⟩⟩) h.f h.co rfl ?_
    show inn0F (cloF 0 3 4 (innF (fuel + 1))) ⟨[some (iN X), some (iN L), some (iN R), .none, .none, .none, .none], [ka, ki, kn], ss⟩ = _
    unfold inn0F
    have t1 : isF (binF (binF (locF 1) (intF 1) addM) (locF 2) eqM) ⟨[some (iN X), some (iN L), some (iN R), .none, .none, .none, .none], [ka, ki, kn], ss⟩ = some (false, ⟨[some (iN X), some (iN L), some (iN R), .none, .none, .none, .none], [ka, ki, kn], ss⟩) := by
      have : Z.eqB (Int.ofNat (L + 1)) (Int.ofNat R) = false := by
        cases e : Z.eqB (Int.ofNat (L + 1)) (Int.ofNat R) with
        | false => rfl
        | true => exact absurd (Int.ofNat.inj ((Z.eqB_iff _ _).mp e)).symm hc
      rw [← this]
      rfl
    rw [seqF_next (ifF_f t1)]
    have a2 : binF (binF (locF 1) (locF 2) addM) (intF 1) shrM ⟨[some (iN X), some (iN L), some (iN R), .none, .none, .none, .none], [ka, ki, kn], ss⟩ = some (iN M, ⟨[some (iN X), some (iN L), some (iN R), .none, .none, .none, .none], [ka, ki, kn], ss⟩) :=
      binF_p (a := iN (L + R)) (b := iN 1) rfl rfl ((shrM_n ss (L + R) 1).trans (by rw [Nat.pow_one, hM]))
    rw [seqF_next (asgF_run a2)]
    have a3 : binF (binF (locF 3) (locF 1) subM) (celF 2) mulM ⟨[some (iN X), some (iN L), some (iN R), some (iN M), .none, .none, .none], [ka, ki, kn], ss⟩ = some (iN ((M - L) * m), ⟨[some (iN X), some (iN L), some (iN R), some (iN M), .none, .none, .none], [ka, ki, kn], ss⟩) :=
      binF_p (binF_p rfl rfl (subM_n ss (Nat.le_of_lt h1))) (celF_run rfl h.n) (mulM_n ss (by omega) (by omega))
    refine (seqF_next (asgF_run a3)).trans ?_
    have a4 : binF (locF 0) (locF 4) shrM ⟨[some (iN X), some (iN L), some (iN R), some (iN M), some (iN ((M - L) * m)), .none, .none], [ka, ki, kn], ss⟩ = some (iN (X / 2 ^ ((M - L) * m)), ⟨[some (iN X), some (iN L), some (iN R), some (iN M), some (iN ((M - L) * m)), .none, .none], [ka, ki, kn], ss⟩) :=
      binF_p rfl rfl (shrM_n ss X _)
    refine (seqF_next (asgF_run a4)).trans ?_
    have a5 : binF (locF 0) (binF (locF 5) (locF 4) shlM) xorM ⟨[some (iN X), some (iN L), some (iN R), some (iN M), some (iN ((M - L) * m)), some (iN (X / 2 ^ ((M - L) * m))), .none], [ka, ki, kn], ss⟩ = some (iN (X % 2 ^ ((M - L) * m)), ⟨[some (iN X), some (iN L), some (iN R), some (iN M), some (iN ((M - L) * m)), some (iN (X / 2 ^ ((M - L) * m))), .none], [ka, ki, kn], ss⟩) :=
      binF_p rfl (binF_p rfl rfl (shlM_n ss hbU)) (xorM_low ss X _)
    refine (seqF_next (asgF_run a5)).trans ?_
    have c6 := callCF_run (i := 1) (k := k) (fs := consF (locF 6) (consF (locF 1) (consF (locF 3) nilF))) (F := cloF 0 3 4 (innF (fuel + 1)))
      (st := ⟨[some (iN X), some (iN L), some (iN R), some (iN M), some (iN ((M - L) * m)), some (iN (X / 2 ^ ((M - L) * m))), some (iN (X % 2 ^ ((M - L) * m)))], [ka, ki, kn], ss⟩) (celF_run rfl h.i) (isFn_run h.f) rfl (isFn_run h.f) e1
    refine (seqF_next (exprF_run c6)).trans ?_
    have h' := h.set vs1
    have c7 := callCF_run (i := 1) (k := k) (fs := consF (locF 5) (consF (locF 3) (consF (locF 2) nilF))) (F := cloF 0 3 4 (innF (fuel + 1)))
      (st := ⟨[some (iN X), some (iN L), some (iN R), some (iN M), some (iN ((M - L) * m)), some (iN (X / 2 ^ ((M - L) * m))), some (iN (X % 2 ^ ((M - L) * m)))], [ka, ki, kn], ⟨ss.n, setE ss.n ss.sto kl (.list vs1)⟩⟩) (celF_run rfl h'.i) (isFn_run h'.f) rfl (isFn_run h'.f) e2
    exact (seqF_next (exprF_run c7)).trans rfl
where
  inn0_leaf {k ci ka ki kn kl m fuel : Nat} (L X : Nat) (ss : SS) (vs : List MV) (h : I0 ss 0 k ci ka ki kn kl m vs) (hR : L + 1 ≤ vs.length) (hl : vs.length ≤ 100) (hX : X < 2 ^ m) :
    ∃ vs', Filled vs L (L + 1) X m vs' ∧ cloF 0 3 4 (innF (fuel + 1)) k [iN X, iN L, iN (L + 1)] ss = some (.none, ⟨ss.n, setE ss.n ss.sto kl (.list vs')⟩) := by
    refine ⟨vs.set L (iN X), ⟨List.length_set .., fun i => ?_⟩, ?_⟩
    · rw [List.getElem?_set]
      by_cases e : L = i
      · subst e
        rw [if_pos rfl, if_pos (by omega), if_pos (by omega), Nat.sub_self, Nat.mul_zero, Nat.pow_zero, Nat.div_one, Nat.mod_eq_of_lt hX]
      · rw [if_neg e, if_neg (by omega)]
    · refine cloF_run (r := .ret .none) (st := ⟨[some (iN X), some (iN L), some (iN (L + 1)), .none, .none, .none, .none], [ka, ki, kn], ⟨ss.n, setE ss.n ss.sto kl (.list (vs.set L (iN X)))⟩⟩) h.f h.co rfl ?_
      show inn0F (cloF 0 3 4 (innF fuel)) ⟨[some (iN X), some (iN L), some (iN (L + 1)), .none, .none, .none, .none], [ka, ki, kn], ss⟩ = _
      unfold inn0F
      have t1 : isF (binF (binF (locF 1) (intF 1) addM) (locF 2) eqM) ⟨[some (iN X), some (iN L), some (iN (L + 1)), .none, .none, .none, .none], [ka, ki, kn], ss⟩ = some (true, ⟨[some (iN X), some (iN L), some (iN (L + 1)), .none, .none, .none, .none], [ka, ki, kn], ss⟩) := by
        have : Z.eqB (Int.ofNat (L + 1)) (Int.ofNat (L + 1)) = true := (Z.eqB_iff _ _).mpr rfl
        rw [← this]
        rfl
      have s1 := setF_run (st := ⟨[some (iN X), some (iN L), some (iN (L + 1)), .none, .none, .none, .none], [ka, ki, kn], ss⟩) (f1 := locF 0) (f2 := celF 0) (f3 := locF 1) rfl (celF_run rfl h.a) rfl (listAt_run h.l) (Z.blt_iff.mpr (by omega)) (Z.blt_iff.mpr (by omega))
      refine seqF_ret ((ifF_t t1).trans ((seqF_next s1).trans ?_))
      rfl
end Mine
end P51
section P52
open PySem PySem.W PyProof.Rows PySem.Calls PySem.Spec
namespace Mine
noncomputable def evalD (m : Nat) : List Nat → Nat
  | [] => 0
  | d :: r => d + 2 ^ m * evalD m r
theorem evalD_append (m : Nat) : ∀ a b : List Nat, evalD m (a ++ b) = evalD m a + 2 ^ (m * a.length) * evalD m b
  | [], b => by simp [evalD]
  | d :: a, b => by
    rw [List.cons_append, evalD, evalD, evalD_append m a b, List.length_cons, Nat.mul_add (2 ^ m), Nat.mul_succ, Nat.pow_add, Nat.add_assoc, Nat.mul_comm (2 ^ (m * a.length)) (2 ^ m), Nat.mul_assoc]
theorem evalD_lt (m : Nat) : ∀ a : List Nat, (∀ d ∈ a, d < 2 ^ m) → evalD m a < 2 ^ (m * a.length)
  | [], _ => by simp [evalD]
  | d :: a, h => by
    have h1 := h d List.mem_cons_self
    have h2 := evalD_lt m a fun x hx => h x (List.mem_cons_of_mem _ hx)
    rw [evalD, List.length_cons, Nat.mul_add, Nat.mul_one, Nat.pow_add, Nat.mul_comm (2 ^ (m * a.length))]
    have h3 : 2 ^ m * (evalD m a + 1) ≤ 2 ^ m * 2 ^ (m * a.length) := Nat.mul_le_mul_left _ h2
    rw [Nat.mul_add, Nat.mul_one] at h3
    omega
noncomputable def part (ds : List Nat) (L R : Nat) : List Nat := (ds.drop L).take (R - L)
theorem part_two {ds : List Nat} {L M R : Nat} (h1 : L ≤ M) (h2 : M ≤ R) : part ds L R = part ds L M ++ part ds M R := by
  unfold part
  rw [show R - L = (M - L) + (R - M) by omega, List.take_add, List.drop_drop, show L + (M - L) = M by omega]
theorem part_len {ds : List Nat} {L R : Nat} (h : R ≤ ds.length) : (part ds L R).length = R - L := by
  unfold part
  rw [List.length_take, List.length_drop]; omega
theorem part_mem {ds : List Nat} {L R d : Nat} (h : d ∈ part ds L R) : d ∈ ds := List.mem_of_mem_drop (List.mem_of_mem_take h)
theorem inn1_run {k ci ka ki kn kl m : Nat} (hm : m ≤ 4000) {ds : List Nat} (hl : ds.length ≤ 100) (hd : ∀ d ∈ ds, d < 2 ^ m) (ss : SS) (h : I0 ss 1 k ci ka ki kn kl m (ds.map fun d => iN d)) : ∀ (fuel L R : Nat), L < R → R ≤ L + fuel + 1 → R ≤ ds.length →
    cloF 1 2 2 (inmF (fuel + 1)) k [iN L, iN R] ss = some (iN (evalD m (part ds L R)), ss) := by
  have leaf : ∀ fuel L, L + 1 ≤ ds.length → cloF 1 2 2 (inmF (fuel + 1)) k [iN L, iN (L + 1)] ss = some (iN (evalD m (part ds L (L + 1))), ss) := by
    intro fuel L hR
    have hp : part ds L (L + 1) = [ds[L]] := by
      unfold part
      rw [Nat.add_sub_cancel_left, List.drop_eq_getElem_cons hR]
      rfl
    have he : evalD m (part ds L (L + 1)) = ds[L] := by rw [hp]; simp [evalD]
    rw [he]
    refine cloF_run (r := .ret (iN ds[L])) (st := ⟨[some (iN L), some (iN (L + 1)), .none, .none], [ka, ki, kn], ss⟩) h.f h.co rfl ?_
    show inn1F (cloF 1 2 2 (inmF fuel)) ⟨[some (iN L), some (iN (L + 1)), .none, .none], [ka, ki, kn], ss⟩ = _
    unfold inn1F
    have t1 : isF (binF (binF (locF 0) (intF 1) addM) (locF 1) eqM) ⟨[some (iN L), some (iN (L + 1)), .none, .none], [ka, ki, kn], ss⟩ = some (true, ⟨[some (iN L), some (iN (L + 1)), .none, .none], [ka, ki, kn], ss⟩) := by
      have : Z.eqB (Int.ofNat (L + 1)) (Int.ofNat (L + 1)) = true := (Z.eqB_iff _ _).mpr rfl
      rw [← this]
      rfl
    have hx : idxM (.ref kl) (iN L) ss = some (iN ds[L], ss) := by
      unfold idxM
      dsimp only
      rw [h.l]
      dsimp only
      have hz : placeOf (Int.ofNat L) (ds.map fun d => iN d).length = some L := by
        unfold placeOf
        dsimp only
        rw [show Nat.blt L (ds.map fun d => iN d).length = true from Z.blt_iff.mpr (by rw [List.length_map]; omega)]
      have hs : small (ds.map fun d => iN d).length = true := Z.blt_iff.mpr (by rw [List.length_map]; omega)
      rw [hz, hs]
      dsimp only
      rw [List.getElem?_map, List.getElem?_eq_getElem hR]
      rfl
    exact seqF_ret ((ifF_t t1).trans (seqF_ret (retF_run (binF_p (celF_run rfl h.a) rfl hx))))
  intro fuel
  induction fuel with
  | zero =>
    intro L R hLR hf hR
    obtain rfl : R = L + 1 := by omega
    exact leaf 0 L hR
  | succ fuel ih =>
    intro L R hLR hf hR
    by_cases hc : R = L + 1
    · subst hc
      exact leaf _ L hR
    generalize hM : (L + R) / 2 = M
    have h1 : L < M := by omega
    have h2 : M < R := by omega
    have e1 := ih L M h1 (by omega) (by omega)
    have e2 := ih M R h2 (by omega) hR
    have hs : (M - L) * m ≤ 100 * 4000 := Nat.mul_le_mul (by omega) hm
    have hU : evalD m (part ds M R) < 2 ^ (m * (R - M)) := by
      have := evalD_lt m (part ds M R) fun d hd' => hd d (part_mem hd')
      rwa [part_len hR] at this
    have hbU : Builtin.Int.intBits (Int.ofNat (evalD m (part ds M R))) + (M - L) * m ≤ 134217728 := by
      have := bits_n hU
      have h3 : m * (R - M) ≤ 4000 * 100 := Nat.mul_le_mul hm (by omega)
      omega
    have hval : evalD m (part ds L R) = evalD m (part ds M R) * 2 ^ ((M - L) * m) + evalD m (part ds L M) := by
      rw [part_two (Nat.le_of_lt h1) (Nat.le_of_lt h2), evalD_append, part_len (by omega), Nat.mul_comm (M - L) m, Nat.mul_comm (2 ^ _), Nat.add_comm]
    rw [hval]
    refine cloF_run (r := .ret _) (st := ⟨[some (iN L), some (iN R), some (iN M), some (iN ((M - L) * m))], [ka, ki, kn], ss⟩) h.f h.co rfl ?_
    show inn1F (cloF 1 2 2 (inmF (fuel + 1))) ⟨[some (iN L), some (iN R), .none, .none], [ka, ki, kn], ss⟩ = _
    unfold inn1F
    have t1 : isF (binF (binF (locF 0) (intF 1) addM) (locF 1) eqM) ⟨[some (iN L), some (iN R), .none, .none], [ka, ki, kn], ss⟩ = some (false, ⟨[some (iN L), some (iN R), .none, .none], [ka, ki, kn], ss⟩) := by
      have : Z.eqB (Int.ofNat (L + 1)) (Int.ofNat R) = false := by
        cases e : Z.eqB (Int.ofNat (L + 1)) (Int.ofNat R) with
        | false => rfl
        | true => exact absurd (Int.ofNat.inj ((Z.eqB_iff _ _).mp e)).symm hc
      rw [← this]
      rfl
    rw [seqF_next (ifF_f t1)]
    have a2 : binF (binF (locF 0) (locF 1) addM) (intF 1) shrM ⟨[some (iN L), some (iN R), .none, .none], [ka, ki, kn], ss⟩ = some (iN M, ⟨[some (iN L), some (iN R), .none, .none], [ka, ki, kn], ss⟩) :=
      binF_p (a := iN (L + R)) (b := iN 1) rfl rfl ((shrM_n ss (L + R) 1).trans (by rw [Nat.pow_one, hM]))
    rw [seqF_next (asgF_run a2)]
    have a3 : binF (binF (locF 2) (locF 0) subM) (celF 2) mulM ⟨[some (iN L), some (iN R), some (iN M), .none], [ka, ki, kn], ss⟩ = some (iN ((M - L) * m), ⟨[some (iN L), some (iN R), some (iN M), .none], [ka, ki, kn], ss⟩) :=
      binF_p (binF_p rfl rfl (subM_n ss (Nat.le_of_lt h1))) (celF_run rfl h.n) (mulM_n ss (by omega) (by omega))
    refine (seqF_next (asgF_run a3)).trans ?_
    have c1 := callCF_run (i := 1) (k := k) (fs := consF (locF 2) (consF (locF 1) nilF)) (F := cloF 1 2 2 (inmF (fuel + 1)))
      (st := ⟨[some (iN L), some (iN R), some (iN M), some (iN ((M - L) * m))], [ka, ki, kn], ss⟩) (celF_run rfl h.i) (isFn_run h.f) rfl (isFn_run h.f) e2
    have c2 := callCF_run (i := 1) (k := k) (fs := consF (locF 0) (consF (locF 2) nilF)) (F := cloF 1 2 2 (inmF (fuel + 1)))
      (st := ⟨[some (iN L), some (iN R), some (iN M), some (iN ((M - L) * m))], [ka, ki, kn], ss⟩) (celF_run rfl h.i) (isFn_run h.f) rfl (isFn_run h.f) e1
    exact seqF_ret (retF_run (binF_p (binF_p c1 rfl (shlM_n ss hbU)) c2 (addM_n ss _ _)))
end Mine
end P52
section P53
open PySem PySem.W PyProof.Rows PySem.Calls PySem.Spec
namespace Mine
theorem fe {β : Type} {n k : Nat} {l : List β} (j : Nat) (h : k + j + 1 = n) : fromEnd n l k = l[j]? := by
  unfold fromEnd
  rw [if_pos (Z.blt_iff.mpr (by omega))]
  congr 1; omega
theorem se {β : Type} {n k : Nat} {l : List β} {x : β} (j : Nat) (h : k + j + 1 = n) : setE n l k x = l.set j x := by
  unfold setE
  congr 1; omega
theorem se_push {β : Type} {n k : Nat} {l : List β} {x y : β} (h : k < n) : setE (n + 1) (y :: l) k x = y :: setE n l k x := by
  unfold setE
  rw [show n + 1 - 1 - k = (n - 1 - k) + 1 by omega]
  rfl
theorem consF_run {f1 : PS → Option (MV × PS)} {f2 : PS → Option (List MV × PS)} {st st1 st2 : PS} {a : MV} {vs : List MV} (h1 : f1 st = some (a, st1)) (h2 : f2 st1 = some (vs, st2)) : consF f1 f2 st = some (a :: vs, st2) := by
  unfold consF
  rw [h1]; dsimp only; rw [h2]
theorem asgCF_run {st st1 : PS} {f : PS → Option (MV × PS)} {v : MV} {i k : Nat} {v0 : Option MV} (h : f st = some (v, st1)) (h1 : st1.cel[i]? = some k) (h2 : fromEnd st1.ss.n st1.ss.sto k = some (.cell v0)) :
    asgCF f i st = some (.next, { st1 with ss := ⟨st1.ss.n, setE st1.ss.n st1.ss.sto k (.cell (some v))⟩ }) := by
  unfold asgCF
  rw [h]; dsimp only
  unfold setCel
  rw [h1]; dsimp only
  rw [h2]
noncomputable def nDig (A m : Nat) : Nat := (Builtin.Int.intBits (Int.ofNat A) + m - 1) / m
noncomputable def digsL (A m : Nat) : List Nat := (List.range (nDig A m)).map fun i => A / 2 ^ (m * i) % 2 ^ m
theorem lt_bits (A : Nat) : A < 2 ^ Builtin.Int.intBits (Int.ofNat A) := (intBits_le_iff (x := Int.ofNat A)).mp (Nat.le_refl _)
theorem lt_nDig {A m : Nat} (hm : 1 ≤ m) : A < 2 ^ (m * nDig A m) := by
  refine Nat.lt_of_lt_of_le (lt_bits A) (Nat.pow_le_pow_right (by decide) ?_)
  unfold nDig
  generalize Builtin.Int.intBits (Int.ofNat A) = b
  have h1 := Nat.div_add_mod (b + m - 1) m
  have h2 := Nat.mod_lt (b + m - 1) (show 0 < m by omega)
  generalize m * ((b + m - 1) / m) = y at *
  omega
theorem repL_one {β : Type} (x : β) : ∀ n, repL [x] n = List.replicate n x
  | 0 => rfl
  | n + 1 => by rw [repL, repL_one x n]; rfl
theorem filled_digs {A m : Nat} {vs' : List MV} (h : Filled (List.replicate (nDig A m) (iN 0)) 0 (nDig A m) A m vs') : vs' = (digsL A m).map fun d => iN d := by
  apply List.ext_getElem?
  intro i
  rw [h.2]
  unfold digsL
  rw [List.getElem?_map, List.getElem?_map]
  by_cases hi : i < nDig A m
  · rw [if_pos ⟨Nat.zero_le _, hi⟩, List.getElem?_range hi]
    rfl
  · rw [if_neg (by omega), List.getElem?_eq_none (by simp; omega), List.getElem?_eq_none (by simp; omega)]
    rfl
theorem nDig_zero {m : Nat} (hm : 1 ≤ m) : nDig 0 m = 0 := by
  unfold nDig
  rw [show Builtin.Int.intBits (Int.ofNat 0) = 0 from rfl, Nat.zero_add]
  exact Nat.div_eq_of_lt (by omega)
/-- the number of digits, as the program finds it -/
theorem nDig_run {A m k : Nat} {st : PS} (hm1 : 1 ≤ m) (hm : m ≤ 4000) (hA : Builtin.Int.intBits (Int.ofNat A) ≤ 1000000) (h0 : st.loc[0]? = some (some (iN A))) (h1 : st.cel[0]? = some k) (h2 : fromEnd st.ss.n st.ss.sto k = some (.cell (some (iN m)))) :
    binF (binF (binF (methF isIntM (locF 0) nilF bitsM) (celF 0) addM) (intF 1) subM) (celF 0) divM st = some (iN (nDig A m), st) := by
  have hc : celF 0 st = some (iN m, st) := celF_run h1 h2
  have hl : locF 0 st = some (iN A, st) := by unfold locF; rw [h0]
  have hb : methF isIntM (locF 0) nilF bitsM st = some (iN (Builtin.Int.intBits (Int.ofNat A)), st) := by
    unfold methF
    rw [hl]
    rfl
  refine binF_p (binF_p (binF_p hb hc (addM_n st.ss _ _)) rfl (v := iN (Builtin.Int.intBits (Int.ofNat A) + m - 1)) ?_) hc ?_
  · exact subM_n st.ss (a := Builtin.Int.intBits (Int.ofNat A) + m) (b := 1) (by omega)
  · show liftI divX (.c (Int.ofNat _)) (.c (Int.ofNat _)) _ = _
    unfold liftI divX
    dsimp only
    have hz : isZ (Int.ofNat m) = false := by
      cases e : isZ (Int.ofNat m) with
      | false => rfl
      | true => exact absurd (isZ_iff.mp e) (by have : Int.ofNat m = (m : Int) := rfl; rw [this]; omega)
    rw [hz, show Nat.blt (Int.ofNat m).natAbs 1073741824 = true from Z.blt_iff.mpr (by show m < _; omega)]
    dsimp only
    have : (Int.ofNat (Builtin.Int.intBits (Int.ofNat A) + m - 1)).fdiv (Int.ofNat m) = Int.ofNat (nDig A m) := by
      exact (Int.fdiv_eq_ediv_of_nonneg (b := Int.ofNat m) _ (Int.natCast_nonneg m)).trans rfl
    rw [this]
theorem truth_n {A : Nat} {ss : SS} (h : A ≠ 0) : truthB (iN A) ss = some true := by
  show some (!Z.eqB (Int.ofNat A) 0) = _
  have : Z.eqB (Int.ofNat A) 0 = false := by
    cases e : Z.eqB (Int.ofNat A) 0 with
    | false => rfl
    | true => exact absurd (Int.ofNat.inj ((Z.eqB_iff _ _).mp e)) h
  rw [this]; rfl
/-- the end of _int2digits's body: the digits are written -/
theorem i2d_tail {A m n kl k ci : Nat} {sto : List MO} (hm1 : 1 ≤ m) (hm : m ≤ 4000) (hk : nDig A m ≤ 10) {N : Nat} (h : I0 ⟨N, sto⟩ 0 k ci (n + 1) (n + 1 + 1) n kl m (List.replicate (nDig A m) (iN 0))) :
    seqF (ifF (isF (locF 0)) (seqF (exprF (callCF 2 (consF (locF 0) (consF (intF 0) (consF (callF (consF (celF 1) nilF) lenM) nilF))) (cloF 0 3 4 (innF 11)))) passF) passF) (seqF (retF (celF 1)) passF) ⟨[some (iN A)], [n, n + 1, n + 1 + 1], ⟨N, sto⟩⟩
      = some (.ret (.ref kl), ⟨[some (iN A)], [n, n + 1, n + 1 + 1], ⟨N, setE N sto kl (.list ((digsL A m).map fun d => iN d))⟩⟩) := by
  by_cases hA : A = 0
  · subst hA
    have hz := nDig_zero hm1
    have hs : setE N sto kl (.list ((digsL 0 m).map fun d => iN d)) = sto := by
      have h1 := h.l
      have h2 : (digsL 0 m).map (fun d => iN d) = List.replicate (nDig 0 m) (iN 0) := by unfold digsL; rw [hz]; rfl
      rw [h2]
      unfold setE
      unfold fromEnd at h1
      split at h1
      · exact List.ext_getElem? fun i => by
          rw [List.getElem?_set]
          split
          · rename_i e
            subst e
            rw [if_pos (List.getElem?_eq_some_iff.mp h1).1]
            exact h1.symm
          · rfl
      · cases h1
    rw [hs]
    have t1 : isF (locF 0) ⟨[some (iN 0)], [n, n + 1, n + 1 + 1], ⟨N, sto⟩⟩ = some (false, ⟨[some (iN 0)], [n, n + 1, n + 1 + 1], ⟨N, sto⟩⟩) := rfl
    rw [seqF_next (ifF_f t1)]
    exact seqF_ret (retF_run (celF_run rfl h.a))
  · have hpos : 0 < nDig A m := by
      rcases Nat.eq_zero_or_pos (nDig A m) with e | e
      · have := lt_nDig (A := A) hm1
        rw [e, Nat.mul_zero, Nat.pow_zero] at this
        omega
      · exact e
    obtain ⟨vs', f1, e1⟩ := inn0_run hm 10 0 (nDig A m) A _ _ h hpos (by omega) (by rw [List.length_replicate]; exact Nat.le_refl _) (by rw [List.length_replicate]; omega) (by rw [Nat.sub_zero]; exact lt_nDig hm1)
    obtain rfl := filled_digs f1
    have t1 : isF (locF 0) ⟨[some (iN A)], [n, n + 1, n + 1 + 1], ⟨N, sto⟩⟩ = some (true, ⟨[some (iN A)], [n, n + 1, n + 1 + 1], ⟨N, sto⟩⟩) := isF_run rfl (truth_n hA)
    have hln : lenM [.ref kl] ⟨N, sto⟩ = some (iN (nDig A m), ⟨N, sto⟩) := by
      unfold lenM
      dsimp only
      rw [listAt_run (ss := ⟨N, sto⟩) h.l]
      dsimp only
      rw [List.length_replicate, show small (nDig A m) = true from Z.blt_iff.mpr (by omega)]
      rfl
    have c1 : consF (celF 1) nilF ⟨[some (iN A)], [n, n + 1, n + 1 + 1], ⟨N, sto⟩⟩ = some ([.ref kl], ⟨[some (iN A)], [n, n + 1, n + 1 + 1], ⟨N, sto⟩⟩) := consF_run (celF_run (k := n + 1) rfl h.a) rfl
    have c2 : consF (locF 0) (consF (intF 0) (consF (callF (consF (celF 1) nilF) lenM) nilF)) ⟨[some (iN A)], [n, n + 1, n + 1 + 1], ⟨N, sto⟩⟩ = some ([iN A, iN 0, iN (nDig A m)], ⟨[some (iN A)], [n, n + 1, n + 1 + 1], ⟨N, sto⟩⟩) :=
      consF_run rfl (consF_run rfl (consF_run (callF_run c1 hln) rfl))
    have c3 := callCF_run (i := 2) (k := k) (F := cloF 0 3 4 (innF 11)) (celF_run (st := ⟨[some (iN A)], [n, n + 1, n + 1 + 1], ⟨N, sto⟩⟩) rfl h.i) (isFn_run h.f) c2 (isFn_run h.f) e1
    refine (seqF_next ((ifF_t t1).trans ((seqF_next (exprF_run c3)).trans rfl))).trans ?_
    exact seqF_ret (retF_run (celF_run rfl (h.set _).a))
end Mine
end P53
section P54
open PySem PySem.W PyProof.Rows PySem.Calls PySem.Spec
namespace Mine
section
variable {st : PS} {cs : List Nat} {j0 j1 j2 i kc tk kid : Nat} {line col : Int} {v0 : Option MV}
theorem ndefF_none (h1 : cel3 st.cel j0 j1 j2 = some cs) (h2 : fromEnd st.ss.n st.ss.sto tk = some (.tab .none)) (h3 : st.cel[i]? = some kc) (h4 : fromEnd st.ss.n st.ss.sto kc = some (.cell v0)) :
    ndefF tk line col kid j0 j1 j2 i st = some (.next, { st with ss := ⟨st.ss.n + 2, setE (st.ss.n + 2) (.fn kid cs st.ss.n :: .code kid :: setE st.ss.n st.ss.sto tk (.tab (some (line, col, st.ss.n)))) kc (.cell (some (.ref (st.ss.n + 1))))⟩ }) := by
  have hne : tk ≠ kc := fun e => by subst e; rw [h2] at h4; cases h4
  have h5 : fromEnd (st.ss.n + 2) (.fn kid cs st.ss.n :: .code kid :: setE st.ss.n st.ss.sto tk (.tab (some (line, col, st.ss.n)))) kc = some (.cell v0) :=
    fromEnd_push (fromEnd_push (fromEnd_other h2 h4 hne))
  unfold ndefF
  rw [h1]; dsimp only
  rw [h2]; dsimp only
  unfold setCel
  dsimp only
  rw [h3]; dsimp only
  rw [h5]
theorem ndefF_hit {ci : Nat} (h1 : cel3 st.cel j0 j1 j2 = some cs) (h2 : fromEnd st.ss.n st.ss.sto tk = some (.tab (some (line, col, ci)))) (h3 : st.cel[i]? = some kc) (h4 : fromEnd st.ss.n st.ss.sto kc = some (.cell v0)) :
    ndefF tk line col kid j0 j1 j2 i st = some (.next, { st with ss := ⟨st.ss.n + 1, setE (st.ss.n + 1) (.fn kid cs ci :: st.ss.sto) kc (.cell (some (.ref st.ss.n)))⟩ }) := by
  have h5 : fromEnd (st.ss.n + 1) (.fn kid cs ci :: st.ss.sto) kc = some (.cell v0) := fromEnd_push h4
  unfold ndefF
  rw [h1]; dsimp only
  rw [h2]; dsimp only
  rw [show (line == line && col == col) = true by simp]; dsimp only
  unfold setCel
  dsimp only
  rw [h3]; dsimp only
  rw [h5]
end
noncomputable def outO : Option (FL × PS) → Option (MV × SS)
  | none => none
  | some (r, st) => match r with
    | .ret v => some (v, st.ss)
    | .next => some (.none, st.ss)
    | _ => none
theorem fnCF_out {np : Nat} {li ci : List (Option Nat)} {fb : PS → Option (FL × PS)} {vs : List MV} {ss : SS} (h : vs.length = np) :
    fnCF np li ci fb vs ss = outO (fb ⟨li.map (parV vs), upN ss.n ci.length, ⟨ss.n + ci.length, (ci.map fun o => MO.cell (parV vs o)).reverse ++ ss.sto⟩⟩) := by
  unfold fnCF
  rw [h, Nat.beq_refl]
  dsimp only
  unfold outO
  cases fb _ with
  | none => rfl
  | some x => obtain ⟨r, st⟩ := x; cases r <;> rfl
theorem se_push5 {β : Type} {n k : Nat} {l : List β} {a b c d e x : β} (h : k < n) : setE (n + 5) (a :: b :: c :: d :: e :: l) k x = a :: b :: c :: d :: e :: setE n l k x := by
  rw [se_push (n := n + 4) (by omega), se_push (n := n + 3) (by omega), se_push (n := n + 2) (by omega), se_push (n := n + 1) (by omega), se_push h]
theorem mulM_rep {ss : SS} {k K : Nat} {x : MV} (h : listAt ss k = some [x]) (hK : K < 1000000) : mulM (.ref k) (iN K) ss = some (.ref ss.n, ⟨ss.n + 1, .list (List.replicate K x) :: ss.sto⟩) := by
  unfold mulM
  dsimp only
  rw [h]
  dsimp only
  rw [show small (Int.ofNat K).natAbs = true from Z.blt_iff.mpr hK, show small (List.length [x] * (Int.ofNat K).toNat) = true from Z.blt_iff.mpr (by show 1 * K < _; omega)]
  show newL (repL [x] K) ss = _
  rw [repL_one]
  unfold newL
  rw [List.length_replicate, show small K = true from Z.blt_iff.mpr hK]
section
variable {A m : Nat} {ss : SS}
/-- the first statement of _int2digits -/
theorem i2d_head (hm1 : 1 ≤ m) (hm : m ≤ 4000) (hA : Builtin.Int.intBits (Int.ofNat A) ≤ 1000000) (hk : nDig A m ≤ 10) {f : PS → Option (FL × PS)} :
    fnCF 2 [some 0] [some 1, none, none] (seqF (asgCF (binF (listF (consF (intF 0) nilF)) (binF (binF (binF (methF isIntM (locF 0) nilF bitsM) (celF 0) addM) (intF 1) subM) (celF 0) divM) mulM) 1) f) [iN A, iN m] ss
      = outO (f ⟨[some (iN A)], [ss.n, ss.n + 1, ss.n + 1 + 1], ⟨ss.n + 5, .list (List.replicate (nDig A m) (iN 0)) :: .list [iN 0] :: .cell none :: .cell (some (.ref (ss.n + 4))) :: .cell (some (iN m)) :: ss.sto⟩⟩) := by
  rw [fnCF_out (np := 2) rfl]
  show outO (seqF _ f ⟨[some (iN A)], [ss.n, ss.n + 1, ss.n + 1 + 1], ⟨ss.n + 3, .cell none :: .cell none :: .cell (some (iN m)) :: ss.sto⟩⟩) = _
  have e1 : listF (consF (intF 0) nilF) ⟨[some (iN A)], [ss.n, ss.n + 1, ss.n + 1 + 1], ⟨ss.n + 3, .cell none :: .cell none :: .cell (some (iN m)) :: ss.sto⟩⟩
      = some (.ref (ss.n + 3), ⟨[some (iN A)], [ss.n, ss.n + 1, ss.n + 1 + 1], ⟨ss.n + 4, .list [iN 0] :: .cell none :: .cell none :: .cell (some (iN m)) :: ss.sto⟩⟩) := rfl
  have e2 := nDig_run (A := A) (m := m) (k := ss.n) (st := ⟨[some (iN A)], [ss.n, ss.n + 1, ss.n + 1 + 1], ⟨ss.n + 4, .list [iN 0] :: .cell none :: .cell none :: .cell (some (iN m)) :: ss.sto⟩⟩) hm1 hm hA rfl rfl ((fe 3 rfl).trans rfl)
  have e3 := mulM_rep (ss := ⟨ss.n + 4, .list [iN 0] :: .cell none :: .cell none :: .cell (some (iN m)) :: ss.sto⟩) (k := ss.n + 3) (K := nDig A m) (x := iN 0) (listAt_run ((fe 0 rfl).trans rfl)) (by omega)
  have e4 := asgCF_run (i := 1) (k := ss.n + 1) (v0 := none) (binF_run e1 e2 e3) rfl ((fe 3 (by show _ = ss.n + 4 + 1; omega)).trans rfl)
  rw [seqF_next e4]
  dsimp only
  rw [se 3 (by omega)]
  rfl
theorem i2d_none (hm1 : 1 ≤ m) (hm : m ≤ 4000) (hA : Builtin.Int.intBits (Int.ofNat A) ≤ 1000000) (hk : nDig A m ≤ 10) (ht : fromEnd ss.n ss.sto 1 = some (.tab .none)) :
    fnCF 2 [some 0] [some 1, none, none] (i2dF (cloF 0 3 4 (innF 11))) [iN A, iN m] ss = some (.ref (ss.n + 4), ⟨ss.n + 7, .fn 0 [ss.n + 1, ss.n + 1 + 1, ss.n] (ss.n + 5) :: .code 0 :: .list ((digsL A m).map fun d => iN d) :: .list [iN 0] :: .cell (some (.ref (ss.n + 6))) :: .cell (some (.ref (ss.n + 4))) :: .cell (some (iN m)) ::
      setE ss.n ss.sto 1 (.tab (some (32, 4, ss.n + 5)))⟩) := by
  unfold i2dF
  rw [i2d_head hm1 hm hA hk]
  have hn := fromEnd_lt ht
  have e1 := ndefF_none (tk := 1) (kid := 0) (line := 32) (col := 4) (j0 := 1) (j1 := 2) (j2 := 0) (i := 2) (kc := ss.n + 1 + 1) (v0 := none)
    (st := ⟨[some (iN A)], [ss.n, ss.n + 1, ss.n + 1 + 1], ⟨ss.n + 5, .list (List.replicate (nDig A m) (iN 0)) :: .list [iN 0] :: .cell none :: .cell (some (.ref (ss.n + 4))) :: .cell (some (iN m)) :: ss.sto⟩⟩) rfl
    (fromEnd_push (fromEnd_push (fromEnd_push (fromEnd_push (fromEnd_push ht))))) rfl ((fe 2 rfl).trans rfl)
  dsimp only at e1
  rw [se_push5 hn, se 4 (by omega)] at e1
  rw [seqF_next e1]
  have h : I0 ⟨ss.n + 5 + 2, (MO.fn 0 [ss.n + 1, ss.n + 1 + 1, ss.n] (ss.n + 5) :: .code 0 :: .list (List.replicate (nDig A m) (iN 0)) :: .list [iN 0] :: .cell none :: .cell (some (.ref (ss.n + 4))) :: .cell (some (iN m)) :: setE ss.n ss.sto 1 (.tab (some (32, 4, ss.n + 5)))).set 4 (.cell (some (.ref (ss.n + 5 + 1))))⟩
      0 (ss.n + 5 + 1) (ss.n + 5) (ss.n + 1) (ss.n + 1 + 1) ss.n (ss.n + 4) m (List.replicate (nDig A m) (iN 0)) :=
    ⟨(fe 0 rfl).trans rfl, (fe 1 rfl).trans rfl, (fe 5 rfl).trans rfl, (fe 4 rfl).trans rfl, (fe 6 rfl).trans rfl, (fe 2 rfl).trans rfl⟩
  have e2 := i2d_tail hm1 hm hk h
  rw [e2, se 2 (by omega)]
  rfl
theorem i2d_hit {ci : Nat} (hm1 : 1 ≤ m) (hm : m ≤ 4000) (hA : Builtin.Int.intBits (Int.ofNat A) ≤ 1000000) (hk : nDig A m ≤ 10) (ht : fromEnd ss.n ss.sto 1 = some (.tab (some (32, 4, ci)))) (hc : fromEnd ss.n ss.sto ci = some (.code 0)) :
    fnCF 2 [some 0] [some 1, none, none] (i2dF (cloF 0 3 4 (innF 11))) [iN A, iN m] ss = some (.ref (ss.n + 4), ⟨ss.n + 6, .fn 0 [ss.n + 1, ss.n + 1 + 1, ss.n] ci :: .list ((digsL A m).map fun d => iN d) :: .list [iN 0] :: .cell (some (.ref (ss.n + 5))) :: .cell (some (.ref (ss.n + 4))) :: .cell (some (iN m)) :: ss.sto⟩) := by
  unfold i2dF
  rw [i2d_head hm1 hm hA hk]
  have hn := fromEnd_lt ht
  have e1 := ndefF_hit (tk := 1) (kid := 0) (line := 32) (col := 4) (j0 := 1) (j1 := 2) (j2 := 0) (i := 2) (kc := ss.n + 1 + 1) (v0 := none) (ci := ci)
    (st := ⟨[some (iN A)], [ss.n, ss.n + 1, ss.n + 1 + 1], ⟨ss.n + 5, .list (List.replicate (nDig A m) (iN 0)) :: .list [iN 0] :: .cell none :: .cell (some (.ref (ss.n + 4))) :: .cell (some (iN m)) :: ss.sto⟩⟩) rfl
    (fromEnd_push (fromEnd_push (fromEnd_push (fromEnd_push (fromEnd_push ht))))) rfl ((fe 2 rfl).trans rfl)
  dsimp only at e1
  rw [se 3 (by omega)] at e1
  rw [seqF_next e1]
  have h : I0 ⟨ss.n + 5 + 1, (MO.fn 0 [ss.n + 1, ss.n + 1 + 1, ss.n] ci :: .list (List.replicate (nDig A m) (iN 0)) :: .list [iN 0] :: .cell none :: .cell (some (.ref (ss.n + 4))) :: .cell (some (iN m)) :: ss.sto).set 3 (.cell (some (.ref (ss.n + 5))))⟩
      0 (ss.n + 5) ci (ss.n + 1) (ss.n + 1 + 1) ss.n (ss.n + 4) m (List.replicate (nDig A m) (iN 0)) :=
    ⟨(fe 0 rfl).trans rfl, fromEnd_push (fromEnd_push (fromEnd_push (fromEnd_push (fromEnd_push (fromEnd_push hc))))), (fe 4 rfl).trans rfl, (fe 3 rfl).trans rfl, (fe 5 rfl).trans rfl, (fe 1 rfl).trans rfl⟩
  have e2 := i2d_tail hm1 hm hk h
  rw [e2, se 1 (by omega)]
  rfl
end
end Mine
end P54
section P55
open PySem PySem.W PyProof.Rows PySem.Calls PySem.Spec
namespace Mine
section
variable {m : Nat} {ss : SS} {ds : List Nat}
theorem lenM_list {k : Nat} {vs : List MV} (h : listAt ss k = some vs) (hl : vs.length < 1000000) : lenM [.ref k] ss = some (iN vs.length, ss) := by
  unfold lenM
  dsimp only
  rw [h]
  dsimp only
  rw [show small vs.length = true from Z.blt_iff.mpr hl]
  rfl
theorem d2i_tail {n k ci kd N : Nat} {sto : List MO} (hm : m ≤ 4000) (hl : ds.length ≤ 11) (hd : ∀ d ∈ ds, d < 2 ^ m) (h : I0 ⟨N, sto⟩ 1 k ci n (n + 1 + 1) (n + 1) kd m (ds.map fun d => iN d)) :
    seqF (retF (iteF (isF (celF 0)) (callCF 2 (consF (intF 0) (consF (callF (consF (celF 0) nilF) lenM) nilF)) (cloF 1 2 2 (inmF 11))) (intF 0))) passF ⟨[], [n, n + 1, n + 1 + 1], ⟨N, sto⟩⟩ = some (.ret (iN (evalD m ds)), ⟨[], [n, n + 1, n + 1 + 1], ⟨N, sto⟩⟩) := by
  have hla := listAt_run (ss := ⟨N, sto⟩) h.l
  have t0 : celF 0 ⟨[], [n, n + 1, n + 1 + 1], ⟨N, sto⟩⟩ = some (.ref kd, ⟨[], [n, n + 1, n + 1 + 1], ⟨N, sto⟩⟩) := celF_run rfl h.a
  have ht : truthB (.ref kd) ⟨N, sto⟩ = some (nonempty (ds.map fun d => iN d)) := by
    unfold truthB
    dsimp only
    rw [hla]
    dsimp only
    rw [show Nat.blt (ds.map fun d => iN d).length 1000000 = true from Z.blt_iff.mpr (by rw [List.length_map]; omega)]
  cases ds with
  | nil =>
    exact seqF_ret (retF_run ((iteF_f (isF_run t0 ht)).trans rfl))
  | cons d r =>
    have hle := lenM_list (ss := ⟨N, sto⟩) hla (by rw [List.length_map]; omega)
    rw [List.length_map] at hle
    have e1 := inn1_run hm (by omega) hd _ h 10 0 (d :: r).length (by simp) (by omega) (Nat.le_refl _)
    rw [show part (d :: r) 0 (d :: r).length = d :: r by unfold part; simp] at e1
    have c1 : consF (celF 0) nilF ⟨[], [n, n + 1, n + 1 + 1], ⟨N, sto⟩⟩ = some ([.ref kd], ⟨[], [n, n + 1, n + 1 + 1], ⟨N, sto⟩⟩) := consF_run t0 rfl
    have c2 : consF (intF 0) (consF (callF (consF (celF 0) nilF) lenM) nilF) ⟨[], [n, n + 1, n + 1 + 1], ⟨N, sto⟩⟩ = some ([iN 0, iN (d :: r).length], ⟨[], [n, n + 1, n + 1 + 1], ⟨N, sto⟩⟩) := consF_run rfl (consF_run (callF_run c1 hle) rfl)
    have c3 := callCF_run (i := 2) (k := k) (F := cloF 1 2 2 (inmF 11)) (celF_run (st := ⟨[], [n, n + 1, n + 1 + 1], ⟨N, sto⟩⟩) rfl h.i) (isFn_run h.f) c2 (isFn_run h.f) e1
    exact seqF_ret (retF_run ((iteF_t (isF_run t0 ht)).trans c3))
theorem d2i_none {kd : Nat} (hm : m ≤ 4000) (hl : ds.length ≤ 11) (hd : ∀ d ∈ ds, d < 2 ^ m) (hk : fromEnd ss.n ss.sto kd = some (.list (ds.map fun d => iN d))) (ht : fromEnd ss.n ss.sto 0 = some (.tab .none)) :
    fnCF 2 [] [some 0, some 1, none] (d2iF (cloF 1 2 2 (inmF 11))) [.ref kd, iN m] ss = some (iN (evalD m ds), ⟨ss.n + 5, .fn 1 [ss.n, ss.n + 1 + 1, ss.n + 1] (ss.n + 3) :: .code 1 :: .cell (some (.ref (ss.n + 4))) :: .cell (some (iN m)) :: .cell (some (.ref kd)) ::
      setE ss.n ss.sto 0 (.tab (some (47, 4, ss.n + 3)))⟩) := by
  rw [fnCF_out (np := 2) rfl]
  show outO (d2iF _ ⟨[], [ss.n, ss.n + 1, ss.n + 1 + 1], ⟨ss.n + 3, .cell none :: .cell (some (iN m)) :: .cell (some (.ref kd)) :: ss.sto⟩⟩) = _
  unfold d2iF
  have hn := fromEnd_lt ht
  have e1 := ndefF_none (tk := 0) (kid := 1) (line := 47) (col := 4) (j0 := 0) (j1 := 2) (j2 := 1) (i := 2) (kc := ss.n + 1 + 1) (v0 := none)
    (st := ⟨[], [ss.n, ss.n + 1, ss.n + 1 + 1], ⟨ss.n + 3, .cell none :: .cell (some (iN m)) :: .cell (some (.ref kd)) :: ss.sto⟩⟩) rfl
    (fromEnd_push (fromEnd_push (fromEnd_push ht))) rfl ((fe 0 rfl).trans rfl)
  dsimp only at e1
  rw [se_push (n := ss.n + 2) (by omega), se_push (n := ss.n + 1) (by omega), se_push hn, se 2 (by omega)] at e1
  rw [seqF_next e1]
  have hne : (0 : Nat) ≠ kd := fun e => by rw [← e, ht] at hk; cases hk
  have h : I0 ⟨ss.n + 3 + 2, (MO.fn 1 [ss.n, ss.n + 1 + 1, ss.n + 1] (ss.n + 3) :: .code 1 :: .cell none :: .cell (some (iN m)) :: .cell (some (.ref kd)) :: setE ss.n ss.sto 0 (.tab (some (47, 4, ss.n + 3)))).set 2 (.cell (some (.ref (ss.n + 3 + 1))))⟩
      1 (ss.n + 3 + 1) (ss.n + 3) ss.n (ss.n + 1 + 1) (ss.n + 1) kd m (ds.map fun d => iN d) :=
    ⟨(fe 0 rfl).trans rfl, (fe 1 rfl).trans rfl, (fe 4 rfl).trans rfl, (fe 2 rfl).trans rfl, (fe 3 rfl).trans rfl, fromEnd_push (fromEnd_push (fromEnd_push (fromEnd_push (fromEnd_push (fromEnd_other ht hk hne)))))⟩
  rw [d2i_tail hm hl hd h]
  rfl
theorem d2i_hit {kd ci : Nat} (hm : m ≤ 4000) (hl : ds.length ≤ 11) (hd : ∀ d ∈ ds, d < 2 ^ m) (hk : fromEnd ss.n ss.sto kd = some (.list (ds.map fun d => iN d))) (ht : fromEnd ss.n ss.sto 0 = some (.tab (some (47, 4, ci)))) (hc : fromEnd ss.n ss.sto ci = some (.code 1)) :
    fnCF 2 [] [some 0, some 1, none] (d2iF (cloF 1 2 2 (inmF 11))) [.ref kd, iN m] ss = some (iN (evalD m ds), ⟨ss.n + 4, .fn 1 [ss.n, ss.n + 1 + 1, ss.n + 1] ci :: .cell (some (.ref (ss.n + 3))) :: .cell (some (iN m)) :: .cell (some (.ref kd)) :: ss.sto⟩) := by
  rw [fnCF_out (np := 2) rfl]
  show outO (d2iF _ ⟨[], [ss.n, ss.n + 1, ss.n + 1 + 1], ⟨ss.n + 3, .cell none :: .cell (some (iN m)) :: .cell (some (.ref kd)) :: ss.sto⟩⟩) = _
  unfold d2iF
  have e1 := ndefF_hit (tk := 0) (kid := 1) (line := 47) (col := 4) (j0 := 0) (j1 := 2) (j2 := 1) (i := 2) (kc := ss.n + 1 + 1) (v0 := none) (ci := ci)
    (st := ⟨[], [ss.n, ss.n + 1, ss.n + 1 + 1], ⟨ss.n + 3, .cell none :: .cell (some (iN m)) :: .cell (some (.ref kd)) :: ss.sto⟩⟩) rfl
    (fromEnd_push (fromEnd_push (fromEnd_push ht))) rfl ((fe 0 rfl).trans rfl)
  dsimp only at e1
  rw [se 1 (by omega)] at e1
  rw [seqF_next e1]
  have h : I0 ⟨ss.n + 3 + 1, (MO.fn 1 [ss.n, ss.n + 1 + 1, ss.n + 1] ci :: .cell none :: .cell (some (iN m)) :: .cell (some (.ref kd)) :: ss.sto).set 1 (.cell (some (.ref (ss.n + 3))))⟩
      1 (ss.n + 3) ci ss.n (ss.n + 1 + 1) (ss.n + 1) kd m (ds.map fun d => iN d) :=
    ⟨(fe 0 rfl).trans rfl, fromEnd_push (fromEnd_push (fromEnd_push (fromEnd_push hc))), (fe 3 rfl).trans rfl, (fe 1 rfl).trans rfl, (fe 2 rfl).trans rfl, fromEnd_push (fromEnd_push (fromEnd_push (fromEnd_push hk)))⟩
  rw [d2i_tail hm hl hd h]
  rfl
end
end Mine
end P55
section P56
open PySem PySem.W PyProof.Rows PySem.Calls PySem.Spec
namespace Mine
theorem closedN {q : Int} {α α' : List Addr} : ∀ {ds : List Nat} {ws : List Value}, VsOK q α (ds.map fun d => iN d) ws → VsOK q α' (ds.map fun d => iN d) ws
  | [], _, .nil => .nil
  | d :: ds, _, .cons h r => .cons (by rename_i w _; cases w <;> exact h) (closedN r)
theorem closed_list {q : Int} {ds : List Nat} (α α' : List Addr) (o : Obj) (h : ObjOK q α (.list (ds.map fun d => iN d)) o) : ObjOK q α' (.list (ds.map fun d => iN d)) o := by
  cases (show LstOK _ _ _ _ from h) with | mk ws n e h => exact LstOK.mk ws n e (closedN h)
theorem setE_cases {n k : Nat} {l : List MO} {x mo : MO} {j : Nat} (hk : k < n) (hn : n = l.length) (h : (setE n l k x)[j]? = some mo) : (j + k + 1 = n ∧ mo = x) ∨ (j + k + 1 ≠ n ∧ l[j]? = some mo) := by
  unfold setE at h
  rw [List.getElem?_set] at h
  split at h
  · rename_i e
    split at h
    · cases h; exact .inl ⟨by omega, rfl⟩
    · cases h
  · exact .inr ⟨by omega, h⟩
theorem setE_at {n k : Nat} {l : List MO} {x : MO} {j : Nat} (hk : k < n) (hn : n = l.length) (h : j + k + 1 = n) : (setE n l k x)[j]? = some x := by
  unfold setE
  rw [List.getElem?_set, if_pos (by omega), if_pos (by omega)]
theorem setE_ne {n k : Nat} {l : List MO} {x mo : MO} {j : Nat} (hk : k < n) (h : j + k + 1 ≠ n) (e : l[j]? = some mo) : (setE n l k x)[j]? = some mo := by
  unfold setE
  rw [List.getElem?_set_ne (by omega)]
  exact e
theorem OcOK.set {sto old1 old2 : List MO} {ks : List Nat} {n n1 n2 p : Nat} {l k : Int} {c1 c2 jj kk : Nat} (h : OcOK sto old1 old2 ks n1 n2) (hp : p < n) (l1 : n = old1.length) (l2 : n = old2.length) (h3 : ks[jj]? = some kk) (h4 : c1 + kk + 1 = n1) (h5 : c2 + jj + 1 = n2) :
    OcOK sto (setE n old1 p (.tab (some (l, k, c1)))) (setE n old2 p (.tab (some (l, k, c2)))) ks n1 n2 := fun j mo2 hj => by
  refine (setE_cases hp l2 hj).elim (fun e => .tab l k c1 c2 jj kk (setE_at hp l1 e.1) e.2 h3 h4 h5) fun e => ?_
  cases h j mo2 e.2 with
  | old h1 h2 => exact .old (setE_ne hp e.1 h1) h2
  | tab l k c1 c2 jj kk h1 h2 h3 h4 h5 => exact .tab l k c1 c2 jj kk (setE_ne hp e.1 h1) h2 h3 h4 h5
section
variable {γ : Type} {P : Prop}
theorem evs_nn {vs : List MV} {f : Nat → Nat → Option γ} {r : γ} (h : (match vs with | [.int (.c (.ofNat A)), .int (.c (.ofNat m))] => f A m | _ => none) = some r) (k : ∀ A m, vs = [iN A, iN m] → f A m = some r → P) : P := by
  cases vs with
  | nil => exact nn h
  | cons v vs => cases vs with
    | nil => cases v with
      | int e => cases e with
        | c x => cases x <;> exact nn h
        | _ => exact nn h
      | _ => exact nn h
    | cons v2 vs => cases v with
      | int e => cases e with
        | c x => cases x with
          | negSucc _ => exact nn h
          | ofNat A => cases v2 with
            | int e => cases e with
              | c x => cases x with
                | negSucc _ => exact nn h
                | ofNat m => cases vs with
                  | nil => exact k A m rfl h
                  | cons _ _ => exact nn h
              | _ => exact nn h
            | _ => exact nn h
        | _ => exact nn h
      | _ => exact nn h
theorem evs_rn {vs : List MV} {f : Nat → Nat → Option γ} {r : γ} (h : (match vs with | [.ref A, .int (.c (.ofNat m))] => f A m | _ => none) = some r) (k : ∀ A m, vs = [.ref A, iN m] → f A m = some r → P) : P := by
  cases vs with
  | nil => exact nn h
  | cons v vs => cases v with
    | ref A => cases vs with
      | nil => exact nn h
      | cons v2 vs => cases v2 with
        | int e => cases e with
          | c x => cases x with
            | negSucc _ => exact nn h
            | ofNat m => cases vs with
              | nil => exact k A m rfl h
              | cons _ _ => exact nn h
          | _ => exact nn h
        | _ => exact nn h
    | _ => exact nn h
theorem emo_tab {o : Option MO} {a : Option γ} {f : Int × Int × Nat → Option γ} {r : γ} (h : (match o with | some (.tab .none) => a | some (.tab (some x)) => f x | _ => none) = some r)
    (k0 : o = some (.tab .none) → a = some r → P) (k1 : ∀ l k ci, o = some (.tab (some (l, k, ci))) → f (l, k, ci) = some r → P) : P := by
  cases o with
  | none => exact nn h
  | some o => cases o with
    | tab x => cases x with
      | none => exact k0 rfl h
      | some x => exact k1 x.1 x.2.1 x.2.2 rfl h
    | _ => exact nn h
theorem emo_code0 {o : Option MO} {a : Option γ} {r : γ} (h : (match o with | some (.code 0) => a | _ => none) = some r) (k : o = some (.code 0) → a = some r → P) : P := by
  cases o with
  | none => exact nn h
  | some o => cases o with
    | code i => cases i with
      | zero => exact k rfl h
      | succ _ => exact nn h
    | _ => exact nn h
theorem emo_code1 {o : Option MO} {a : Option γ} {r : γ} (h : (match o with | some (.code 1) => a | _ => none) = some r) (k : o = some (.code 1) → a = some r → P) : P := by
  cases o with
  | none => exact nn h
  | some o => cases o with
    | code i => cases i with
      | zero => exact nn h
      | succ i => cases i with
        | zero => exact k rfl h
        | succ _ => exact nn h
    | _ => exact nn h
end
theorem len_set {n k : Nat} {l : List MO} {x : MO} : (setE n l k x).length = l.length := List.length_set ..
theorem closed_eq {q : Int} {mo : MO} (h : mo = .code 0 ∨ mo = .code 1) (α α' : List Addr) (o : Obj) (x : ObjOK q α mo o) : ObjOK q α' mo o := by
  rcases h with e | e <;> (subst e; exact x)
noncomputable def i2dM : List MV → SS → Option (MV × SS)
  | [.int (.c (.ofNat A)), .int (.c (.ofNat m))], ss => match decide (1 ≤ m ∧ m ≤ 4000 ∧ Builtin.Int.intBits (Int.ofNat A) ≤ 1000000 ∧ nDig A m ≤ 10) with
    | false => none
    | true => match fromEnd ss.n ss.sto 1 with
      | some (.tab .none) => some (.ref (ss.n + 1), ⟨ss.n + 2, .list ((digsL A m).map fun d => iN d) :: .code 0 :: setE ss.n ss.sto 1 (.tab (some (32, 4, ss.n)))⟩)
      | some (.tab (some (l, k, ci))) => (match decide (l = 32 ∧ k = 4) with
        | false => none
        | true => match fromEnd ss.n ss.sto ci with
          | some (.code 0) => some (.ref ss.n, ⟨ss.n + 1, .list ((digsL A m).map fun d => iN d) :: ss.sto⟩)
          | _ => none)
      | _ => none
  | _, _ => none
set_option smartUnfolding false in
theorem i2d_ok {g : Gl} (F : Fk g) (Fs : Fn g F) : OpNOK g 13 (fun ws => call (.ref F.i2d.a) ws) i2dM := by
  refine OpNOK.gc (i2d_ok0 F Fs 11) fun vs ss v2 ss2 h hn => ?_
  unfold i2dM at h
  refine evs_nn h fun A m ev h => ?_
  subst ev
  refine eb h fun hd h => ?_
  have hd := of_decide_eq_true hd
  refine emo_tab h (fun ht h => ?_) fun l k ci ht h => ?_
  · refine som2 (P := GcAt g.q _ _ _) h.symm ?_
    have h1 := fromEnd_lt ht
    exact .mk _ _ _ [.fn 0 [ss.n + 1, ss.n + 1 + 1, ss.n] (ss.n + 5), .code 0, .list ((digsL A m).map fun d => iN d), .list [iN 0], .cell (some (.ref (ss.n + 6))), .cell (some (.ref (ss.n + 4))), .cell (some (iN m))]
      [.list ((digsL A m).map fun d => iN d), .code 0] (setE ss.n ss.sto 1 (.tab (some (32, 4, ss.n + 5)))) _ [2, 1] (fun _ _ h => h) (i2d_none hd.1 hd.2.1 hd.2.2.1 hd.2.2.2 ht)
      (Gc.of hn rfl len_set len_set (by decide) rfl (.cons rfl closed_list (.cons rfl (closed_eq (.inl rfl)) .nil)) (OcOK.same.set (jj := 1) h1 hn hn rfl rfl rfl) (.ref (ss.n + 4) (ss.n + 1) 0 2 rfl rfl rfl rfl rfl))
  · refine eb h fun hlk h => ?_
    have hlk : l = 32 ∧ k = 4 := of_decide_eq_true hlk
    rw [hlk.1, hlk.2] at ht
    refine emo_code0 h fun hc h => ?_
    refine som2 (P := GcAt g.q _ _ _) h.symm ?_
    exact .mk _ _ _ [.fn 0 [ss.n + 1, ss.n + 1 + 1, ss.n] ci, .list ((digsL A m).map fun d => iN d), .list [iN 0], .cell (some (.ref (ss.n + 5))), .cell (some (.ref (ss.n + 4))), .cell (some (iN m))]
      [.list ((digsL A m).map fun d => iN d)] ss.sto ss.sto [1] (fun _ _ h => h) (i2d_hit hd.1 hd.2.1 hd.2.2.1 hd.2.2.2 ht hc)
      (Gc.of hn rfl rfl rfl (by decide) rfl (.cons rfl closed_list .nil) OcOK.same (.ref (ss.n + 4) ss.n 0 1 rfl rfl rfl rfl rfl))
noncomputable def natsOf : List MV → Option (List Nat)
  | [] => some []
  | .int (.c (.ofNat a)) :: vs => match natsOf vs with
    | none => none
    | some r => some (a :: r)
  | _ => none
theorem natsOf_map : ∀ ds : List Nat, natsOf (ds.map fun d => iN d) = some ds
  | [] => rfl
  | d :: ds => by rw [List.map_cons]; unfold natsOf; rw [natsOf_map ds]
theorem natsOf_some : ∀ {vs : List MV} {ds : List Nat}, natsOf vs = some ds → vs = ds.map fun d => iN d
  | [], ds, h => by cases h; rfl
  | v :: vs, ds, h => by
    unfold natsOf at h
    split at h
    · rename_i e; cases e
    · rename_i a r e
      cases e
      split at h
      · cases h
      · rename_i r' h'
        cases h
        rw [natsOf_some h']; rfl
    · cases h
noncomputable def d2iM : List MV → SS → Option (MV × SS)
  | [.ref kd, .int (.c (.ofNat m))], ss => match fromEnd ss.n ss.sto kd with
    | some (.list vs) => (match natsOf vs with
      | none => none
      | some ds => match decide (m ≤ 4000 ∧ ds.length ≤ 11 ∧ ∀ d ∈ ds, d < 2 ^ m) with
        | false => none
        | true => match fromEnd ss.n ss.sto 0 with
          | some (.tab .none) => some (iN (evalD m ds), ⟨ss.n + 1, .code 1 :: setE ss.n ss.sto 0 (.tab (some (47, 4, ss.n)))⟩)
          | some (.tab (some (l, k, ci))) => (match decide (l = 47 ∧ k = 4) with
            | false => none
            | true => match fromEnd ss.n ss.sto ci with
              | some (.code 1) => some (iN (evalD m ds), ss)
              | _ => none)
          | _ => none)
    | _ => none
  | _, _ => none
theorem closedI {q : Int} (n : Nat) (α α' : List Addr) (w : Value) (h : VOK q α (iN n) w) : VOK q α' (iN n) w := h.int_el (P := VOK q α' (iN n)) fun _ => rfl
set_option smartUnfolding false in
theorem d2i_ok {g : Gl} (F : Fk g) (Fs : Fn g F) : OpNOK g 13 (fun ws => call (.ref F.d2i.a) ws) d2iM := by
  refine OpNOK.gc (d2i_ok0 F Fs 11) fun vs ss v2 ss2 h hn => ?_
  unfold d2iM at h
  refine evs_rn h fun kd m ev h => ?_
  subst ev
  refine emo_list h fun us hus h => ?_
  refine eo h fun ds hds h => ?_
  have e := natsOf_some hds
  rw [e] at hus
  refine eb h fun hd h => ?_
  have hd := of_decide_eq_true hd
  refine emo_tab h (fun ht h => ?_) fun l k ci ht h => ?_
  · refine som2 (P := GcAt g.q _ _ _) h.symm ?_
    have h1 := fromEnd_lt ht
    exact .mk _ _ _ [.fn 1 [ss.n, ss.n + 1 + 1, ss.n + 1] (ss.n + 3), .code 1, .cell (some (.ref (ss.n + 4))), .cell (some (iN m)), .cell (some (.ref kd))]
      [.code 1] (setE ss.n ss.sto 0 (.tab (some (47, 4, ss.n + 3)))) _ [1] (fun _ _ h => h) (d2i_none hd.1 hd.2.1 hd.2.2 hus ht)
      (Gc.of hn rfl len_set len_set (by decide) rfl (.cons rfl (closed_eq (.inr rfl)) .nil) (OcOK.same.set (jj := 0) h1 hn hn rfl rfl rfl) (.closed (closedI _)))
  · refine eb h fun hlk h => ?_
    have hlk : l = 47 ∧ k = 4 := of_decide_eq_true hlk
    rw [hlk.1, hlk.2] at ht
    refine emo_code1 h fun hc h => ?_
    refine som2 (P := GcAt g.q _ _ _) h.symm ?_
    exact .mk _ _ _ [.fn 1 [ss.n, ss.n + 1 + 1, ss.n + 1] ci, .cell (some (.ref (ss.n + 3))), .cell (some (iN m)), .cell (some (.ref kd))]
      [] ss.sto ss.sto [] (fun _ _ h => h) (d2i_hit hd.1 hd.2.1 hd.2.2 hus ht hc)
      (Gc.of hn rfl rfl rfl List.nodup_nil rfl .nil OcOK.same (.closed (closedI _)))
end Mine
end P56
section P57
open PySem PySem.W PyProof.Rows PySem.Calls PySem.Spec
set_option maxHeartbeats 4000000
namespace Mine
end Mine
end P57
set_option hygiene false in
local macro_rules | `(tactic| wtm_at "mine call") => `(tactic| first
  | with_reducible refine' EvOK.fnV F.i2d (i2d_ok F Fs) (by (decide +kernel)) (by ((intros; kernel_rfl))) (by ((intros; kernel_rfl))) ?_ (by ((intros; kernel_rfl)))
  | with_reducible refine' EvOK.fnV F.d2i (d2i_ok F Fs) (by (decide +kernel)) (by ((intros; kernel_rfl))) (by ((intros; kernel_rfl))) ?_ (by ((intros; kernel_rfl)))
  | with_reducible refine' EvOK.fnV F.div2 (div2_ok F) (by (decide +kernel)) (by ((intros; kernel_rfl))) (by ((intros; kernel_rfl))) ?_ (by ((intros; kernel_rfl))))
section P57
open PySem PySem.W PyProof.Rows PySem.Calls PySem.Spec
set_option maxHeartbeats 4000000
namespace Mine
noncomputable def dposX : { f : PS → Option (FL × PS) // ∀ (g : Gl) (F : Fk g) (Fs : Fn g F), ExsOK g ⟨[Str.ofString "a", Str.ofString "b", Str.ofString "n", Str.ofString "a_digits", Str.ofString "r", Str.ofString "q_digits", Str.ofString "a_digit", Str.ofString "q_digit", Str.ofString "q"], [], sc_dpos⟩ 13 bo_dpos f } := by
  apply Subtype.mk
  intro g F Fs
  repeat' wtm_at "mine step"
theorem dpos_ok0 {g : Gl} (F : Fk g) (Fs : Fn g F) : OpNOK g 14 (fun ws => call (.ref F.dpos.a) ws) (fnF 2 7 dposX.1) :=
  OpNOK.fn (pn := [Str.ofString "a", Str.ofString "b"]) (ls := [Str.ofString "n", Str.ofString "a_digits", Str.ofString "r", Str.ofString "q_digits", Str.ofString "a_digit", Str.ofString "q_digit", Str.ofString "q"]) F.lim F.dpos.fn rfl rfl rfl (by decide +kernel) (by ((intro doc pm an cdv ct ws h; rcases ws with _ | ⟨w1, _ | ⟨w2, _ | ⟨w3, _ | ⟨w4, _ | ⟨w5, ws⟩⟩⟩⟩⟩ <;> first | rfl | (simp at h)))) (by decide +kernel) (by decide +kernel) (dposX.2 g F Fs)
noncomputable def bodyD (D : List MV → SS → Option (MV × SS)) : PS → Option (FL × PS) :=
  seqF (asgTF (callF (consF (binF (binF (locF 4) (locF 2) shlM) (locF 6) addM) (consF (locF 1) (consF (locF 2) nilF))) D) (tlocF 7 (tlocF 4 tnilF)))
    (seqF (exprF (methF isListM (locF 5) (consF (locF 7) nilF) appendM)) passF)
noncomputable def dposF (D : List MV → SS → Option (MV × SS)) : PS → Option (FL × PS) :=
  seqF (asgF (methF isIntM (locF 1) nilF bitsM) 2)
    (seqF (asgF (callF (consF (locF 0) (consF (locF 2) nilF)) i2dM) 3)
      (seqF (asgF (intF 0) 4)
        (seqF (asgF (listF nilF) 5)
          (seqF (forF 70 (iterNF (consF (locF 3) nilF) revI) (t1F 6) (bodyD D) passF)
            (seqF (exprF (methF isListM (locF 5) nilF reverseM))
              (seqF (asgF (callF (consF (locF 5) (consF (locF 2) nilF)) d2iM) 8)
                (seqF (retF (tupleF (consF (locF 8) (consF (locF 4) nilF)))) passF)))))))
theorem dposX_eq : dposX.1 = dposF (fnF 3 0 div2X.1) := rfl
noncomputable def div2F : PS → Option (FL × PS) :=
  seqF (ifF (isF (binF (binF (methF isIntM (locF 0) nilF bitsM) (locF 2) subM) (intF 4000) (ordM leX))) (seqF (retF (callF (consF (locF 0) (consF (locF 1) nilF)) dmM)) passF) passF) failF
theorem div2X_eq : div2X.1 = div2F := rfl
end Mine
end P57
section P58
open PySem PySem.W PyProof.Rows PySem.Calls PySem.Spec
namespace Mine
theorem fnF_out {np nl : Nat} {fb : PS → Option (FL × PS)} {vs : List MV} {ss : SS} (h : vs.length = np) :
    fnF np nl fb vs ss = outO (fb ⟨vs.map some ++ List.replicate nl none, [], ss⟩) := by
  unfold fnF
  rw [h, Nat.beq_refl]
  dsimp only
  unfold outO
  cases fb _ with
  | none => rfl
  | some x => obtain ⟨r, st⟩ := x; cases r <;> rfl
theorem methF_run {rc : MV → SS → Bool} {f1 : PS → Option (MV × PS)} {fa : PS → Option (List MV × PS)} {F : List MV → SS → Option (MV × SS)} {st st1 st2 : PS} {a v : MV} {vs : List MV} {ss : SS}
    (h1 : f1 st = some (a, st1)) (h2 : rc a st1.ss = true) (h3 : fa st1 = some (vs, st2)) (h4 : F (a :: vs) st2.ss = some (v, ss)) : methF rc f1 fa F st = some (v, { st2 with ss := ss }) := by
  unfold methF
  rw [h1]; dsimp only
  rw [h2]; dsimp only
  rw [h3]; dsimp only
  rw [h4]
set_option exponentiation.threshold 5000 in
theorem noPylong {x : Int} {B : Nat} (h : Builtin.Int.intBits (Int.ofNat B) ≤ 4000) : Builtin.divisionGoesByPylong x (Int.ofNat B) = false := by
  have hB : B < 2 ^ 4000 := (intBits_le_iff (x := Int.ofNat B)).mp h
  unfold Builtin.divisionGoesByPylong
  dsimp only
  rw [Bool.and_eq_false_iff]
  left
  rw [decide_eq_false_iff_not]
  split
  · omega
  · rename_i hz
    have hB0 : B ≠ 0 := fun e => hz (by rw [e]; rfl)
    have : (Int.ofNat B).natAbs.log2 < 4000 := (Nat.log2_lt hB0).mpr hB
    omega
theorem fdiv_n (X B : Nat) : (Int.ofNat X).fdiv (Int.ofNat B) = Int.ofNat (X / B) := (Int.fdiv_eq_ediv_of_nonneg (b := Int.ofNat B) _ (Int.natCast_nonneg B)).trans rfl
theorem fmod_n (X B : Nat) : (Int.ofNat X).fmod (Int.ofNat B) = Int.ofNat (X % B) := (Int.fmod_eq_emod_of_nonneg (b := Int.ofNat B) _ (Int.natCast_nonneg B)).trans rfl
theorem div2_run {X B m : Nat} {ss : SS} (hB : 1 ≤ B) (hb : Builtin.Int.intBits (Int.ofNat B) ≤ 4000) (hX : Builtin.Int.intBits (Int.ofNat X) ≤ m + 4000) :
    fnF 3 0 div2F [iN X, iN B, iN m] ss = some (.ref ss.n, ⟨ss.n + 1, .tuple [iN (X / B), iN (X % B)] :: ss.sto⟩) := by
  rw [fnF_out (np := 3) rfl]
  show outO (div2F ⟨[some (iN X), some (iN B), some (iN m)], [], ss⟩) = _
  unfold div2F
  have t1 : isF (binF (binF (methF isIntM (locF 0) nilF bitsM) (locF 2) subM) (intF 4000) (ordM leX)) ⟨[some (iN X), some (iN B), some (iN m)], [], ss⟩ = some (true, ⟨[some (iN X), some (iN B), some (iN m)], [], ss⟩) := by
    have : Z.leB (Int.ofNat (Builtin.Int.intBits (Int.ofNat X)) + -Int.ofNat m) 4000 = true := by
      rw [Z.leB_iff]
      have e1 : Int.ofNat (Builtin.Int.intBits (Int.ofNat X)) = ((Builtin.Int.intBits (Int.ofNat X) : Nat) : Int) := rfl
      have e2 : Int.ofNat m = (m : Int) := rfl
      rw [e1, e2]; omega
    rw [← this]
    rfl
  have hd : dmM [iN X, iN B] ss = some (.ref ss.n, ⟨ss.n + 1, .tuple [iN (X / B), iN (X % B)] :: ss.sto⟩) := by
    unfold dmM
    dsimp only
    rw [decide_eq_false (show ¬ Int.ofNat B = 0 from fun e => by have : (B : Int) = 0 := e; omega), noPylong hb]
    dsimp only
    rw [fdiv_n, fmod_n]
  have c1 : callF (consF (locF 0) (consF (locF 1) nilF)) dmM ⟨[some (iN X), some (iN B), some (iN m)], [], ss⟩ = some (.ref ss.n, ⟨[some (iN X), some (iN B), some (iN m)], [], ⟨ss.n + 1, .tuple [iN (X / B), iN (X % B)] :: ss.sto⟩⟩) :=
    callF_run (st1 := ⟨[some (iN X), some (iN B), some (iN m)], [], ss⟩) rfl hd
  rw [seqF_ret ((ifF_t t1).trans (seqF_ret (retF_run c1)))]
  rfl
/-! the store through the loop -/
theorem fe_mid {β : Type} {n k : Nat} {ts l : List β} {y : β} (h : k + ts.length + 1 = n) : fromEnd n (ts ++ y :: l) k = some y := by
  rw [fe ts.length h, List.getElem?_append_right (Nat.le_refl _), Nat.sub_self]; rfl
theorem fe_mid2 {β : Type} {n k : Nat} {ts l : List β} {x y : β} (h : k + ts.length + 2 = n) : fromEnd n (ts ++ x :: y :: l) k = some y := by
  rw [fe (ts.length + 1) (by omega), List.getElem?_append_right (by omega), Nat.add_sub_cancel_left]; rfl
theorem se_mid {β : Type} {n k : Nat} {ts l : List β} {x y : β} (h : k + ts.length + 1 = n) : setE n (ts ++ y :: l) k x = ts ++ x :: l := by
  rw [se ts.length h, List.set_append_right _ _ (Nat.le_refl _), Nat.sub_self]; rfl
theorem fe_front {β : Type} {n k : Nat} {l : List β} {y : β} : ∀ ts : List β, fromEnd n l k = some y → fromEnd (n + ts.length) (ts ++ l) k = some y
  | [], h => h
  | t :: ts, h => fromEnd_push (fe_front ts h)
theorem se_front {β : Type} {n k : Nat} {l : List β} {x : β} (h : k < n) : ∀ ts : List β, setE (n + ts.length) (ts ++ l) k x = ts ++ setE n l k x
  | [] => rfl
  | t :: ts => by
    rw [List.length_cons, List.cons_append, ← Nat.add_assoc, se_push (by omega), se_front h ts]; rfl
/-- the division of the digits, from the highest on -/
noncomputable def runD (m B : Nat) (ds : List Nat) : Nat → Nat → List Nat → Nat × List Nat
  | 0, r, qs => (r, qs)
  | i + 1, r, qs => runD m B ds i ((r * 2 ^ m + ds.getD i 0) % B) (qs ++ [(r * 2 ^ m + ds.getD i 0) / B])
theorem loop_run {A B m kd N : Nat} {ds : List Nat} {tl : List MO} {f2 : Option MV} (hB : 1 ≤ B) (hBm : B < 2 ^ m) (hm : m ≤ 4000) (hds : ∀ d ∈ ds, d < 2 ^ m) (hkd : kd + 1 = N) (hdl : ds.length ≤ 11) :
    ∀ (i r : Nat) (qs : List Nat) (ts : List MO) (x y : Option MV) (fuel : Nat), i ≤ ds.length → i < fuel → r < B → qs.length ≤ 100 - i →
    ∃ ts' x' y', loopF (t1F 6) (bodyD (fnF 3 0 div2F)) passF fuel (.rev kd i) ⟨[some (iN A), some (iN B), some (iN m), f2, some (iN r), some (.ref N), x, y, none], [], ⟨N + 1 + ts.length, ts ++ .list (qs.map fun d => iN d) :: .list (ds.map fun d => iN d) :: tl⟩⟩
      = some (.next, ⟨[some (iN A), some (iN B), some (iN m), f2, some (iN (runD m B ds i r qs).1), some (.ref N), x', y', none], [], ⟨N + 1 + ts'.length, ts' ++ .list ((runD m B ds i r qs).2.map fun d => iN d) :: .list (ds.map fun d => iN d) :: tl⟩⟩) := by
  intro i
  induction i with
  | zero =>
    intro r qs ts x y fuel hi hf hr hq
    cases fuel with
    | zero => omega
    | succ fuel => exact ⟨ts, x, y, rfl⟩
  | succ i ih =>
    intro r qs ts x y fuel hi hf hr hq
    cases fuel with
    | zero => omega
    | succ fuel =>
    have hdi : ds[i]? = some ds[i] := List.getElem?_eq_getElem (by omega)
    have hd : ds.getD i 0 = ds[i] := by rw [List.getD_eq_getElem?_getD, hdi]; rfl
    have hdlt : ds[i] < 2 ^ m := hds _ (List.getElem_mem _)
    generalize hX : r * 2 ^ m + ds.getD i 0 = X
    have hXlt : X < B * 2 ^ m := by
      rw [← hX, hd]
      have : (r + 1) * 2 ^ m ≤ B * 2 ^ m := Nat.mul_le_mul_right _ hr
      rw [Nat.succ_mul] at this
      omega
    have hbB : Builtin.Int.intBits (Int.ofNat B) ≤ m := bits_n hBm
    have hbX : Builtin.Int.intBits (Int.ofNat X) ≤ m + 4000 := by
      have : X < 2 ^ (m + m) := by
        rw [Nat.pow_add]
        exact Nat.lt_of_lt_of_le hXlt (Nat.mul_le_mul_right _ (Nat.le_of_lt hBm))
      have := bits_n this
      omega
    have hbr : Builtin.Int.intBits (Int.ofNat r) + m ≤ 134217728 := by
      have := bits_n (Nat.lt_trans hr hBm)
      omega
    generalize hss : (⟨N + 1 + ts.length, ts ++ .list (qs.map fun d => iN d) :: .list (ds.map fun d => iN d) :: tl⟩ : SS) = ss
    have hn : ss.n = N + 1 + ts.length := by rw [← hss]
    have hs : ss.sto = ts ++ .list (qs.map fun d => iN d) :: .list (ds.map fun d => iN d) :: tl := by rw [← hss]
    have hla : listAt ss kd = some (ds.map fun d => iN d) := listAt_run (by rw [hn, hs]; exact fe_mid2 (by omega))
    obtain ⟨ts', x', y', e⟩ := ih (X % B) (qs ++ [X / B]) (.tuple [iN (X / B), iN (X % B)] :: ts) (some (iN ds[i])) (some (iN (X / B))) fuel (by omega) (by omega) (Nat.mod_lt _ hB) (by rw [List.length_append]; simp; omega)
    have hrun : runD m B ds (i + 1) r qs = runD m B ds i (X % B) (qs ++ [X / B]) := by rw [runD, hX]
    refine ⟨ts', x', y', ?_⟩
    rw [hrun, ← e]
    have hnx : nextI (.rev kd (i + 1)) ss = some (some (.one (iN ds[i]), .rev kd i)) := by
      unfold nextI
      dsimp only
      rw [hla]
      dsimp only
      rw [List.getElem?_map, hdi]
      rfl
    have e1 : binF (binF (locF 4) (locF 2) shlM) (locF 6) addM ⟨[some (iN A), some (iN B), some (iN m), f2, some (iN r), some (.ref N), some (iN ds[i]), y, none], [], ss⟩ = some (iN X, ⟨[some (iN A), some (iN B), some (iN m), f2, some (iN r), some (.ref N), some (iN ds[i]), y, none], [], ss⟩) :=
      binF_p (binF_p rfl rfl (shlM_n ss hbr)) rfl (by rw [← hX, hd]; exact addM_n ss _ _)
    have c0 : consF (binF (binF (locF 4) (locF 2) shlM) (locF 6) addM) (consF (locF 1) (consF (locF 2) nilF)) ⟨[some (iN A), some (iN B), some (iN m), f2, some (iN r), some (.ref N), some (iN ds[i]), y, none], [], ss⟩ = some ([iN X, iN B, iN m], ⟨[some (iN A), some (iN B), some (iN m), f2, some (iN r), some (.ref N), some (iN ds[i]), y, none], [], ss⟩) := consF_run e1 rfl
    have e2 : callF (consF (binF (binF (locF 4) (locF 2) shlM) (locF 6) addM) (consF (locF 1) (consF (locF 2) nilF))) (fnF 3 0 div2F) ⟨[some (iN A), some (iN B), some (iN m), f2, some (iN r), some (.ref N), some (iN ds[i]), y, none], [], ss⟩
        = some (.ref ss.n, ⟨[some (iN A), some (iN B), some (iN m), f2, some (iN r), some (.ref N), some (iN ds[i]), y, none], [], ⟨ss.n + 1, .tuple [iN (X / B), iN (X % B)] :: ss.sto⟩⟩) :=
      callF_run c0 (div2_run hB (by omega) hbX)
    have e3 : asgTF (callF (consF (binF (binF (locF 4) (locF 2) shlM) (locF 6) addM) (consF (locF 1) (consF (locF 2) nilF))) (fnF 3 0 div2F)) (tlocF 7 (tlocF 4 tnilF)) ⟨[some (iN A), some (iN B), some (iN m), f2, some (iN r), some (.ref N), some (iN ds[i]), y, none], [], ss⟩
        = some (.next, ⟨[some (iN A), some (iN B), some (iN m), f2, some (iN (X % B)), some (.ref N), some (iN ds[i]), some (iN (X / B)), none], [], ⟨ss.n + 1, .tuple [iN (X / B), iN (X % B)] :: ss.sto⟩⟩) := by
      unfold asgTF
      rw [e2]
      dsimp only
      rw [show tupOf ⟨ss.n + 1, .tuple [iN (X / B), iN (X % B)] :: ss.sto⟩ (.ref ss.n) = some [iN (X / B), iN (X % B)] by unfold tupOf; dsimp only; rw [fromEnd_new]]
      rfl
    have hlq : listAt ⟨ss.n + 1, .tuple [iN (X / B), iN (X % B)] :: ss.sto⟩ N = some (qs.map fun d => iN d) := listAt_run (fromEnd_push (by rw [hn, hs]; exact fe_mid (by omega)))
    have hset : setE (ss.n + 1) (.tuple [iN (X / B), iN (X % B)] :: ss.sto) N (.list ((qs.map fun d => iN d) ++ [iN (X / B)])) = (.tuple [iN (X / B), iN (X % B)] :: ts) ++ .list ((qs ++ [X / B]).map fun d => iN d) :: .list (ds.map fun d => iN d) :: tl := by
      rw [hs, List.map_append]
      have hlen : N + (MO.tuple [iN (X / B), iN (X % B)] :: ts).length + 1 = ss.n + 1 := by rw [hn, List.length_cons]; omega
      exact se_mid (ts := .tuple [iN (X / B), iN (X % B)] :: ts) hlen
    have e4 : methF isListM (locF 5) (consF (locF 7) nilF) appendM ⟨[some (iN A), some (iN B), some (iN m), f2, some (iN (X % B)), some (.ref N), some (iN ds[i]), some (iN (X / B)), none], [], ⟨ss.n + 1, .tuple [iN (X / B), iN (X % B)] :: ss.sto⟩⟩
        = some (.none, ⟨[some (iN A), some (iN B), some (iN m), f2, some (iN (X % B)), some (.ref N), some (iN ds[i]), some (iN (X / B)), none], [], ⟨ss.n + 1, (.tuple [iN (X / B), iN (X % B)] :: ts) ++ .list ((qs ++ [X / B]).map fun d => iN d) :: .list (ds.map fun d => iN d) :: tl⟩⟩) := by
      rw [← hset]
      refine methF_run (st1 := ⟨[some (iN A), some (iN B), some (iN m), f2, some (iN (X % B)), some (.ref N), some (iN ds[i]), some (iN (X / B)), none], [], ⟨ss.n + 1, .tuple [iN (X / B), iN (X % B)] :: ss.sto⟩⟩) (st2 := ⟨[some (iN A), some (iN B), some (iN m), f2, some (iN (X % B)), some (.ref N), some (iN ds[i]), some (iN (X / B)), none], [], ⟨ss.n + 1, .tuple [iN (X / B), iN (X % B)] :: ss.sto⟩⟩) (a := .ref N) (vs := [iN (X / B)]) rfl ?_ rfl ?_
      · unfold isListM
        dsimp only
        rw [hlq]
      · unfold appendM
        dsimp only
        rw [hlq]
        dsimp only
        rw [List.length_map, show small qs.length = true from Z.blt_iff.mpr (by omega)]
    rw [loopF]
    dsimp only
    rw [hnx]
    dsimp only
    have eb : bodyD (fnF 3 0 div2F) ⟨[some (iN A), some (iN B), some (iN m), f2, some (iN r), some (.ref N), some (iN ds[i]), y, none], [], ss⟩
        = some (.next, ⟨[some (iN A), some (iN B), some (iN m), f2, some (iN (X % B)), some (.ref N), some (iN ds[i]), some (iN (X / B)), none], [], ⟨ss.n + 1, (.tuple [iN (X / B), iN (X % B)] :: ts) ++ .list ((qs ++ [X / B]).map fun d => iN d) :: .list (ds.map fun d => iN d) :: tl⟩⟩) := by
      unfold bodyD
      rw [seqF_next e3, seqF_next (exprF_run e4)]
      rfl
    show (match t1F 6 (.one (iN ds[i])) ⟨[some (iN A), some (iN B), some (iN m), f2, some (iN r), some (.ref N), x, y, none], [], ss⟩ with | none => none | some st1 => _) = _
    show (match bodyD (fnF 3 0 div2F) ⟨[some (iN A), some (iN B), some (iN m), f2, some (iN r), some (.ref N), some (iN ds[i]), y, none], [], ss⟩ with | none => none | some (r, st2) => _) = _
    rw [eb]
    dsimp only
    rw [hn]
    rfl
end Mine
end P58
section P59
open PySem PySem.W PyProof.Rows PySem.Calls PySem.Spec
namespace Mine
theorem runD_ok {m B : Nat} {ds : List Nat} (hB : 1 ≤ B) (hds : ∀ d ∈ ds, d < 2 ^ m) : ∀ (i r : Nat) (qs : List Nat), i ≤ ds.length → r < B →
    ∃ new r', runD m B ds i r qs = (r', qs ++ new) ∧ new.length = i ∧ r' < B ∧ r * 2 ^ (m * i) + evalD m (ds.take i) = B * evalD m new.reverse + r' ∧ ∀ d ∈ new, d < 2 ^ m
  | 0, r, qs, _, hr => ⟨[], r, by simp [runD], rfl, hr, by simp [evalD], by simp⟩
  | i + 1, r, qs, hi, hr => by
    have hdi : ds[i]? = some ds[i] := List.getElem?_eq_getElem (by omega)
    have hd : ds.getD i 0 = ds[i] := by rw [List.getD_eq_getElem?_getD, hdi]; rfl
    have hdlt : ds[i] < 2 ^ m := hds _ (List.getElem_mem _)
    generalize hX : r * 2 ^ m + ds.getD i 0 = X
    obtain ⟨new, r', h1, h2, h3, h4, h5⟩ := runD_ok hB hds i (X % B) (qs ++ [X / B]) (by omega) (Nat.mod_lt _ hB)
    have hXlt : X < B * 2 ^ m := by
      rw [← hX, hd]
      have : (r + 1) * 2 ^ m ≤ B * 2 ^ m := Nat.mul_le_mul_right _ hr
      rw [Nat.succ_mul] at this
      omega
    refine ⟨X / B :: new, r', by rw [runD, hX, h1]; simp, by simp [h2], h3, ?_, fun d hd' => ?_⟩
    · rw [List.reverse_cons, evalD_append, List.length_reverse, h2, show evalD m [X / B] = X / B by simp [evalD], List.take_add_one, hdi, evalD_append, List.length_take, Nat.min_eq_left (by omega), show evalD m (some ds[i]).toList = ds[i] by simp [evalD]]
      have e1 : r * 2 ^ (m * (i + 1)) + 2 ^ (m * i) * ds[i] = X * 2 ^ (m * i) := by
        rw [← hX, hd, Nat.add_mul, Nat.mul_succ, Nat.pow_add, Nat.mul_comm (2 ^ (m * i)) ds[i], Nat.mul_assoc, Nat.mul_comm (2 ^ (m * i)) (2 ^ m)]
      have e2 : X * 2 ^ (m * i) = X % B * 2 ^ (m * i) + B * (2 ^ (m * i) * (X / B)) := by
        conv => lhs; rw [← Nat.mod_add_div X B]
        rw [Nat.add_mul, Nat.mul_assoc, Nat.mul_comm (X / B)]
      rw [Nat.mul_add B]
      omega
    · rcases List.mem_cons.mp hd' with rfl | hd'
      · exact (Nat.div_lt_iff_lt_mul hB).mpr (by rwa [Nat.mul_comm] at hXlt)
      · exact h5 d hd'
theorem evalD_range (A m : Nat) : ∀ k, evalD m ((List.range k).map fun i => A / 2 ^ (m * i) % 2 ^ m) = A % 2 ^ (m * k)
  | 0 => by simp [evalD, Nat.mod_one]
  | k + 1 => by
    rw [List.range_succ, List.map_append, evalD_append, evalD_range A m k, List.length_map, List.length_range, Nat.mul_succ, Nat.pow_add, Nat.mod_mul]
    simp [evalD]
theorem evalD_digs {A m : Nat} (hm : 1 ≤ m) : evalD m (digsL A m) = A := by
  unfold digsL
  rw [evalD_range, Nat.mod_eq_of_lt (lt_nDig hm)]
theorem digs_lt {A m : Nat} : ∀ d ∈ digsL A m, d < 2 ^ m := fun d hd => by
  obtain ⟨i, _, rfl⟩ := List.mem_map.mp hd
  exact Nat.mod_lt _ (Nat.pow_pos (by decide))
theorem digs_len {A m : Nat} : (digsL A m).length = nDig A m := by unfold digsL; rw [List.length_map, List.length_range]
noncomputable def quoD (A B m : Nat) : List Nat := (runD m B (digsL A m) (digsL A m).length 0 []).2
theorem quoD_ok {A B m : Nat} (hB : 1 ≤ B) (hm : 1 ≤ m) : evalD m (quoD A B m).reverse = A / B ∧ (runD m B (digsL A m) (digsL A m).length 0 []).1 = A % B ∧ (quoD A B m).length = nDig A m ∧ ∀ d ∈ quoD A B m, d < 2 ^ m := by
  obtain ⟨new, r', h1, h2, h3, h4, h5⟩ := runD_ok (ds := digsL A m) hB digs_lt (digsL A m).length 0 [] (Nat.le_refl _) hB
  unfold quoD
  rw [h1]
  simp only [List.nil_append]
  rw [List.take_length, evalD_digs hm, Nat.zero_mul, Nat.zero_add] at h4
  refine ⟨?_, ?_, h2.trans digs_len, h5⟩
  · rw [h4, Nat.mul_add_div hB, Nat.div_eq_of_lt h3]; rfl
  · rw [h4, Nat.mul_add_mod, Nat.mod_eq_of_lt h3]
theorem dpos_core {A B m kd : Nat} {tl : List MO} {ss : SS} {ssD : List MO → SS} (hB : 1 ≤ B) (hm : Builtin.Int.intBits (Int.ofNat B) = m) (hmm : m ≤ 4000) (hk : nDig A m ≤ 10)
    (h1 : i2dM [iN A, iN m] ss = some (.ref kd, ⟨kd + 1, .list ((digsL A m).map fun d => iN d) :: tl⟩))
    (h2 : ∀ ts', d2iM [.ref (kd + 1), iN m] ⟨kd + 2 + ts'.length, ts' ++ .list ((quoD A B m).reverse.map fun d => iN d) :: .list ((digsL A m).map fun d => iN d) :: tl⟩ = some (iN (A / B), ssD ts')) :
    ∃ ts', fnF 2 7 (dposF (fnF 3 0 div2F)) [iN A, iN B] ss = some (.ref (ssD ts').n, ⟨(ssD ts').n + 1, .tuple [iN (A / B), iN (A % B)] :: (ssD ts').sto⟩) := by
  have hBm : B < 2 ^ m := by rw [← hm]; exact lt_bits B
  have hm1 : 1 ≤ m := by
    rcases Nat.eq_zero_or_pos m with e | e
    · rw [e] at hBm; omega
    · exact e
  obtain ⟨q1, q2, q3, q4⟩ := quoD_ok (A := A) hB hm1
  obtain ⟨ts', x', y', el⟩ := loop_run (A := A) (f2 := some (.ref kd)) (tl := tl) hB hBm hmm (digs_lt (A := A) (m := m)) (rfl : kd + 1 = kd + 1) (by rw [digs_len]; omega) (digsL A m).length 0 [] [] none none 70 (Nat.le_refl _) (by rw [digs_len]; omega) hB (Nat.zero_le _)
  rw [q2, show (runD m B (digsL A m) (digsL A m).length 0 []).2 = quoD A B m from rfl] at el
  refine ⟨ts', ?_⟩
  rw [fnF_out (np := 2) rfl]
  show outO (dposF (fnF 3 0 div2F) ⟨[some (iN A), some (iN B), none, none, none, none, none, none, none], [], ss⟩) = _
  refine congrArg outO (a₂ := some (FL.ret (.ref (ssD ts').n), ⟨[some (iN A), some (iN B), some (iN m), some (.ref kd), some (iN (A % B)), some (.ref (kd + 1)), x', y', some (iN (A / B))], [], ⟨(ssD ts').n + 1, .tuple [iN (A / B), iN (A % B)] :: (ssD ts').sto⟩⟩)) ?_
  unfold dposF
  have s1 : methF isIntM (locF 1) nilF bitsM ⟨[some (iN A), some (iN B), none, none, none, none, none, none, none], [], ss⟩ = some (iN m, ⟨[some (iN A), some (iN B), none, none, none, none, none, none, none], [], ss⟩) := by rw [← hm]; rfl
  rw [seqF_next (asgF_run s1)]
  have s2 : callF (consF (locF 0) (consF (locF 2) nilF)) i2dM ⟨[some (iN A), some (iN B), some (iN m), none, none, none, none, none, none], [], ss⟩ = some (.ref kd, ⟨[some (iN A), some (iN B), some (iN m), none, none, none, none, none, none], [], ⟨kd + 1, .list ((digsL A m).map fun d => iN d) :: tl⟩⟩) :=
    callF_run (st1 := ⟨[some (iN A), some (iN B), some (iN m), none, none, none, none, none, none], [], ss⟩) rfl h1
  refine (seqF_next (asgF_run s2)).trans ?_
  refine (seqF_next (asgF_run (v := iN 0) (st1 := ⟨[some (iN A), some (iN B), some (iN m), some (.ref kd), none, none, none, none, none], [], ⟨kd + 1, .list ((digsL A m).map fun d => iN d) :: tl⟩⟩) rfl)).trans ?_
  refine (seqF_next (asgF_run (v := .ref (kd + 1)) (st1 := ⟨[some (iN A), some (iN B), some (iN m), some (.ref kd), some (iN 0), none, none, none, none], [], ⟨kd + 2, .list [] :: .list ((digsL A m).map fun d => iN d) :: tl⟩⟩) rfl)).trans ?_
  have s5 : forF 70 (iterNF (consF (locF 3) nilF) revI) (t1F 6) (bodyD (fnF 3 0 div2F)) passF ⟨[some (iN A), some (iN B), some (iN m), some (.ref kd), some (iN 0), some (.ref (kd + 1)), none, none, none], [], ⟨kd + 2, .list [] :: .list ((digsL A m).map fun d => iN d) :: tl⟩⟩
      = some (.next, ⟨[some (iN A), some (iN B), some (iN m), some (.ref kd), some (iN (A % B)), some (.ref (kd + 1)), x', y', none], [], ⟨kd + 1 + 1 + ts'.length, ts' ++ .list ((quoD A B m).map fun d => iN d) :: .list ((digsL A m).map fun d => iN d) :: tl⟩⟩) := by
    rw [← el]
    have hla : listAt ⟨kd + 2, .list [] :: .list ((digsL A m).map fun d => iN d) :: tl⟩ kd = some ((digsL A m).map fun d => iN d) := listAt_run ((fe 1 (by show kd + 1 + 1 = kd + 2; rfl)).trans rfl)
    have hi : iterNF (consF (locF 3) nilF) revI ⟨[some (iN A), some (iN B), some (iN m), some (.ref kd), some (iN 0), some (.ref (kd + 1)), none, none, none], [], ⟨kd + 2, .list [] :: .list ((digsL A m).map fun d => iN d) :: tl⟩⟩
        = some (.rev kd (digsL A m).length, ⟨[some (iN A), some (iN B), some (iN m), some (.ref kd), some (iN 0), some (.ref (kd + 1)), none, none, none], [], ⟨kd + 2, .list [] :: .list ((digsL A m).map fun d => iN d) :: tl⟩⟩) := by
      unfold iterNF
      rw [show consF (locF 3) nilF _ = some ([.ref kd], (⟨[some (iN A), some (iN B), some (iN m), some (.ref kd), some (iN 0), some (.ref (kd + 1)), none, none, none], [], ⟨kd + 2, .list [] :: .list ((digsL A m).map fun d => iN d) :: tl⟩⟩ : PS)) from rfl]
      dsimp only
      unfold revI
      dsimp only
      rw [hla]
      dsimp only
      rw [List.length_map]
    unfold forF
    rw [hi]
    rfl
  refine (seqF_next s5).trans ?_
  have hlq : listAt ⟨kd + 1 + 1 + ts'.length, ts' ++ .list ((quoD A B m).map fun d => iN d) :: .list ((digsL A m).map fun d => iN d) :: tl⟩ (kd + 1) = some ((quoD A B m).map fun d => iN d) := listAt_run (fe_mid (by show kd + 1 + ts'.length + 1 = kd + 1 + 1 + ts'.length; omega))
  have s6 : methF isListM (locF 5) nilF reverseM ⟨[some (iN A), some (iN B), some (iN m), some (.ref kd), some (iN (A % B)), some (.ref (kd + 1)), x', y', none], [], ⟨kd + 1 + 1 + ts'.length, ts' ++ .list ((quoD A B m).map fun d => iN d) :: .list ((digsL A m).map fun d => iN d) :: tl⟩⟩
      = some (.none, ⟨[some (iN A), some (iN B), some (iN m), some (.ref kd), some (iN (A % B)), some (.ref (kd + 1)), x', y', none], [], ⟨kd + 2 + ts'.length, ts' ++ .list ((quoD A B m).reverse.map fun d => iN d) :: .list ((digsL A m).map fun d => iN d) :: tl⟩⟩) := by
    refine methF_run (st1 := ⟨[some (iN A), some (iN B), some (iN m), some (.ref kd), some (iN (A % B)), some (.ref (kd + 1)), x', y', none], [], ⟨kd + 1 + 1 + ts'.length, ts' ++ .list ((quoD A B m).map fun d => iN d) :: .list ((digsL A m).map fun d => iN d) :: tl⟩⟩)
      (st2 := ⟨[some (iN A), some (iN B), some (iN m), some (.ref kd), some (iN (A % B)), some (.ref (kd + 1)), x', y', none], [], ⟨kd + 1 + 1 + ts'.length, ts' ++ .list ((quoD A B m).map fun d => iN d) :: .list ((digsL A m).map fun d => iN d) :: tl⟩⟩) (a := .ref (kd + 1)) (vs := []) rfl ?_ rfl ?_
    · unfold isListM
      dsimp only
      rw [hlq]
    · unfold reverseM
      dsimp only
      rw [hlq]
      dsimp only
      rw [List.length_map, show small (quoD A B m).length = true from Z.blt_iff.mpr (by rw [q3]; omega)]
      dsimp only
      rw [se_mid (show kd + 1 + ts'.length + 1 = kd + 1 + 1 + ts'.length by omega), List.map_reverse]
  refine (seqF_next (exprF_run s6)).trans ?_
  have s7 : callF (consF (locF 5) (consF (locF 2) nilF)) d2iM ⟨[some (iN A), some (iN B), some (iN m), some (.ref kd), some (iN (A % B)), some (.ref (kd + 1)), x', y', none], [], ⟨kd + 2 + ts'.length, ts' ++ .list ((quoD A B m).reverse.map fun d => iN d) :: .list ((digsL A m).map fun d => iN d) :: tl⟩⟩
      = some (iN (A / B), ⟨[some (iN A), some (iN B), some (iN m), some (.ref kd), some (iN (A % B)), some (.ref (kd + 1)), x', y', none], [], ssD ts'⟩) :=
    callF_run (st1 := ⟨[some (iN A), some (iN B), some (iN m), some (.ref kd), some (iN (A % B)), some (.ref (kd + 1)), x', y', none], [], ⟨kd + 2 + ts'.length, ts' ++ .list ((quoD A B m).reverse.map fun d => iN d) :: .list ((digsL A m).map fun d => iN d) :: tl⟩⟩) rfl (h2 ts')
  exact ((seqF_next (asgF_run s7)).trans (seqF_ret (retF_run (v := .ref (ssD ts').n) (st1 := ⟨[some (iN A), some (iN B), some (iN m), some (.ref kd), some (iN (A % B)), some (.ref (kd + 1)), x', y', some (iN (A / B))], [], ⟨(ssD ts').n + 1, .tuple [iN (A / B), iN (A % B)] :: (ssD ts').sto⟩⟩) rfl)))
end Mine
end P59
section P60
open PySem PySem.W PyProof.Rows PySem.Calls PySem.Spec
namespace Mine
section
variable {A B m kd : Nat} {ss : SS} {ds : List Nat}
theorem i2dM_none (hd : 1 ≤ m ∧ m ≤ 4000 ∧ Builtin.Int.intBits (Int.ofNat A) ≤ 1000000 ∧ nDig A m ≤ 10) (ht : fromEnd ss.n ss.sto 1 = some (.tab .none)) :
    i2dM [iN A, iN m] ss = some (.ref (ss.n + 1), ⟨ss.n + 1 + 1, .list ((digsL A m).map fun d => iN d) :: .code 0 :: setE ss.n ss.sto 1 (.tab (some (32, 4, ss.n)))⟩) := by
  unfold i2dM
  dsimp only
  rw [decide_eq_true hd]; dsimp only
  rw [ht]
theorem i2dM_hit {ci : Nat} (hd : 1 ≤ m ∧ m ≤ 4000 ∧ Builtin.Int.intBits (Int.ofNat A) ≤ 1000000 ∧ nDig A m ≤ 10) (ht : fromEnd ss.n ss.sto 1 = some (.tab (some (32, 4, ci)))) (hc : fromEnd ss.n ss.sto ci = some (.code 0)) :
    i2dM [iN A, iN m] ss = some (.ref ss.n, ⟨ss.n + 1, .list ((digsL A m).map fun d => iN d) :: ss.sto⟩) := by
  unfold i2dM
  dsimp only
  rw [decide_eq_true hd]; dsimp only
  rw [ht]; dsimp only
  rw [decide_eq_true (⟨rfl, rfl⟩ : (32 : Int) = 32 ∧ (4 : Int) = 4)]; dsimp only
  rw [hc]; rfl
theorem d2iM_none (hd : m ≤ 4000 ∧ ds.length ≤ 11 ∧ ∀ d ∈ ds, d < 2 ^ m) (hq : fromEnd ss.n ss.sto kd = some (.list (ds.map fun d => iN d))) (ht : fromEnd ss.n ss.sto 0 = some (.tab .none)) :
    d2iM [.ref kd, iN m] ss = some (iN (evalD m ds), ⟨ss.n + 1, .code 1 :: setE ss.n ss.sto 0 (.tab (some (47, 4, ss.n)))⟩) := by
  unfold d2iM
  dsimp only
  rw [hq]; dsimp only
  rw [natsOf_map]; dsimp only
  rw [decide_eq_true hd]; dsimp only
  rw [ht]
theorem d2iM_hit {ci : Nat} (hd : m ≤ 4000 ∧ ds.length ≤ 11 ∧ ∀ d ∈ ds, d < 2 ^ m) (hq : fromEnd ss.n ss.sto kd = some (.list (ds.map fun d => iN d))) (ht : fromEnd ss.n ss.sto 0 = some (.tab (some (47, 4, ci)))) (hc : fromEnd ss.n ss.sto ci = some (.code 1)) :
    d2iM [.ref kd, iN m] ss = some (iN (evalD m ds), ss) := by
  unfold d2iM
  dsimp only
  rw [hq]; dsimp only
  rw [natsOf_map]; dsimp only
  rw [decide_eq_true hd]; dsimp only
  rw [ht]; dsimp only
  rw [decide_eq_true (⟨rfl, rfl⟩ : (47 : Int) = 47 ∧ (4 : Int) = 4)]; dsimp only
  rw [hc]; rfl
end
/-- the state of the two tables -/
inductive Tabs where
  | fresh
  | laid
noncomputable def tabsOf (ss : SS) : Option Tabs := match fromEnd ss.n ss.sto 1 with
  | some (.tab .none) => (match fromEnd ss.n ss.sto 0 with
    | some (.tab .none) => some .fresh
    | _ => none)
  | some (.tab (some (l, k, ci))) => (match fromEnd ss.n ss.sto 0 with
    | some (.tab (some (l', k', ci'))) => (match Z.eqB l 32, Z.eqB k 4, Z.eqB l' 47, Z.eqB k' 4 with
      | true, true, true, true => (match fromEnd ss.n ss.sto ci with
        | some (.code 0) => (match fromEnd ss.n ss.sto ci' with
          | some (.code 1) => some .laid
          | _ => none)
        | _ => none)
      | _, _, _, _ => none)
    | _ => none)
  | _ => none
section
variable {γ : Type} {P : Prop}
theorem emo_tab0 {o : Option MO} {a : Option γ} {r : γ} (h : (match o with | some (.tab .none) => a | _ => none) = some r) (k0 : o = some (.tab .none) → a = some r → P) : P := by
  cases o with
  | none => exact nn h
  | some o => cases o with
    | tab x => cases x with
      | none => exact k0 rfl h
      | some x => exact nn h
    | _ => exact nn h
theorem emo_tab1 {o : Option MO} {f : Int × Int × Nat → Option γ} {r : γ} (h : (match o with | some (.tab (some x)) => f x | _ => none) = some r) (k1 : ∀ l k ci, o = some (.tab (some (l, k, ci))) → f (l, k, ci) = some r → P) : P := by
  cases o with
  | none => exact nn h
  | some o => cases o with
    | tab x => cases x with
      | none => exact nn h
      | some x => exact k1 x.1 x.2.1 x.2.2 rfl h
    | _ => exact nn h
theorem eb4 {b1 b2 b3 b4 : Bool} {x : Option γ} {r : γ} (h : (match b1, b2, b3, b4 with | true, true, true, true => x | _, _, _, _ => none) = some r) (k : b1 = true → b2 = true → b3 = true → b4 = true → x = some r → P) : P := by
  cases b1 with
  | false => exact nn h
  | true => cases b2 with
    | false => exact nn h
    | true => cases b3 with
      | false => exact nn h
      | true => cases b4 with
        | false => exact nn h
        | true => exact k rfl rfl rfl rfl h
end
set_option smartUnfolding false in
theorem tabsOf_el {ss : SS} {t : Tabs} {P : Tabs → Prop} (h : tabsOf ss = some t) (k0 : fromEnd ss.n ss.sto 1 = some (.tab .none) → fromEnd ss.n ss.sto 0 = some (.tab .none) → P .fresh)
    (k1 : ∀ c0 c1, fromEnd ss.n ss.sto 1 = some (.tab (some (32, 4, c0))) → fromEnd ss.n ss.sto 0 = some (.tab (some (47, 4, c1))) → fromEnd ss.n ss.sto c0 = some (.code 0) → fromEnd ss.n ss.sto c1 = some (.code 1) → P .laid) : P t := by
  unfold tabsOf at h
  refine emo_tab h (fun h1 h => emo_tab0 h fun h2 h => Option.some.inj h ▸ k0 h1 h2) fun l k ci h1 h => ?_
  refine emo_tab1 h fun l' k' ci' h2 h => ?_
  refine eb4 h fun e1 e2 e3 e4 h => ?_
  refine emo_code0 h fun h3 h => ?_
  refine emo_code1 h fun h4 h => ?_
  have h1 : fromEnd ss.n ss.sto 1 = some (.tab (some (l, k, ci))) := h1
  have h2 : fromEnd ss.n ss.sto 0 = some (.tab (some (l', k', ci'))) := h2
  have e1 : Z.eqB l 32 = true := e1
  have e2 : Z.eqB k 4 = true := e2
  have e3 : Z.eqB l' 47 = true := e3
  have e4 : Z.eqB k' 4 = true := e4
  rw [(Z.eqB_iff _ _).mp e1, (Z.eqB_iff _ _).mp e2] at h1
  rw [(Z.eqB_iff _ _).mp e3, (Z.eqB_iff _ _).mp e4] at h2
  exact Option.some.inj h ▸ k1 ci ci' h1 h2 h3 h4
/-- both tables laid on a store -/
noncomputable def laidE (ss : SS) (c0 c1 : Nat) : List MO := setE ss.n (setE ss.n ss.sto 1 (.tab (some (32, 4, c0)))) 0 (.tab (some (47, 4, c1)))
theorem laidE_len {ss : SS} {c0 c1 : Nat} : (laidE ss c0 c1).length = ss.sto.length := len_set.trans len_set
theorem OcOK.laid {ss : SS} {ks : List Nat} {n1 n2 c0 c1 d0 d1 j0 j1 k0 k1 : Nat} (hn : ss.n = ss.sto.length) (l0 : 0 < ss.n) (l1 : 1 < ss.n) (h0 : ks[j0]? = some k0) (e0 : c0 + k0 + 1 = n1) (f0 : d0 + j0 + 1 = n2)
    (h1 : ks[j1]? = some k1) (e1 : c1 + k1 + 1 = n1) (f1 : d1 + j1 + 1 = n2) : OcOK ss.sto (laidE ss c0 c1) (laidE ss d0 d1) ks n1 n2 :=
  (OcOK.same.set l1 hn hn h0 e0 f0).set l0 (hn.trans len_set.symm) (hn.trans len_set.symm) h1 e1 f1
/-- a tuple that int_divmod gives, and the code objects that its first call makes -/
noncomputable def dmOut (vs : List MV) (ss : SS) : Option (MV × SS) := match tabsOf ss with
  | some .fresh => some (.ref (ss.n + 2), ⟨ss.n + 3, .tuple vs :: .code 1 :: .code 0 :: setE ss.n (setE ss.n ss.sto 1 (.tab (some (32, 4, ss.n)))) 0 (.tab (some (47, 4, ss.n + 1)))⟩)
  | some .laid => some (.ref ss.n, ⟨ss.n + 1, .tuple vs :: ss.sto⟩)
  | none => none
set_option smartUnfolding false in
theorem dmOut_el {vs : List MV} {ss ss2 : SS} {v2 : MV} {P : MV → SS → Prop} (h : dmOut vs ss = some (v2, ss2)) (k0 : fromEnd ss.n ss.sto 1 = some (.tab .none) → fromEnd ss.n ss.sto 0 = some (.tab .none) → P (.ref (ss.n + 2)) ⟨ss.n + 3, .tuple vs :: .code 1 :: .code 0 :: laidE ss ss.n (ss.n + 1)⟩)
    (k1 : ∀ c0 c1, fromEnd ss.n ss.sto 1 = some (.tab (some (32, 4, c0))) → fromEnd ss.n ss.sto 0 = some (.tab (some (47, 4, c1))) → fromEnd ss.n ss.sto c0 = some (.code 0) → fromEnd ss.n ss.sto c1 = some (.code 1) → P (.ref ss.n) ⟨ss.n + 1, .tuple vs :: ss.sto⟩) : P v2 ss2 := by
  unfold dmOut at h
  refine eo h fun t e h => ?_
  revert h
  refine tabsOf_el (P := fun t => _ = some (v2, ss2) → P v2 ss2) e (fun h1 h2 h => som2 (P := P) h.symm (k0 h1 h2)) fun c0 c1 h1 h2 h3 h4 h => som2 (P := P) h.symm (k1 c0 c1 h1 h2 h3 h4)
noncomputable def dposM : List MV → SS → Option (MV × SS)
  | [.int (.c (.ofNat A)), .int (.c (.ofNat B))], ss => match decide (1 ≤ B ∧ Builtin.Int.intBits (Int.ofNat B) ≤ 4000 ∧ Builtin.Int.intBits (Int.ofNat A) ≤ 1000000 ∧ nDig A (Builtin.Int.intBits (Int.ofNat B)) ≤ 10) with
    | false => none
    | true => dmOut [iN (A / B), iN (A % B)] ss
  | _, _ => none
theorem closed_tuple {q : Int} {ds : List Nat} (α α' : List Addr) (o : Obj) (h : ObjOK q α (.tuple (ds.map fun d => iN d)) o) : ObjOK q α' (.tuple (ds.map fun d => iN d)) o := by
  cases (show TupOK _ _ _ _ from h) with | mk ws n e h => exact TupOK.mk ws n e (closedN h)
@[reducible] noncomputable def Lq (A B m : Nat) : MO := .list ((quoD A B m).reverse.map fun d => iN d)
@[reducible] noncomputable def Ld (A m : Nat) : MO := .list ((digsL A m).map fun d => iN d)
section
variable {q : Int} {A B m : Nat} {ss : SS}
theorem dpos_fresh (hn : ss.n = ss.sto.length) (hB : 1 ≤ B) (hm : Builtin.Int.intBits (Int.ofNat B) = m) (hmm : m ≤ 4000) (hk : nDig A m ≤ 10) (q1 : evalD m (quoD A B m).reverse = A / B) (hI : 1 ≤ m ∧ m ≤ 4000 ∧ Builtin.Int.intBits (Int.ofNat A) ≤ 1000000 ∧ nDig A m ≤ 10)
    (hQ : m ≤ 4000 ∧ (quoD A B m).reverse.length ≤ 11 ∧ ∀ d ∈ (quoD A B m).reverse, d < 2 ^ m) (t1 : fromEnd ss.n ss.sto 1 = some (.tab .none)) (t0 : fromEnd ss.n ss.sto 0 = some (.tab .none)) :
    GcAt q (fnF 2 7 (dposF (fnF 3 0 div2F))) [iN A, iN B] ss (.ref (ss.n + 2)) ⟨ss.n + 3, .tuple [iN (A / B), iN (A % B)] :: .code 1 :: .code 0 :: laidE ss ss.n (ss.n + 1)⟩ := by
  have l1 := fromEnd_lt t1
  have l0 := fromEnd_lt t0
  have t0' := fromEnd_other (y := .tab (some (32, 4, ss.n))) t1 t0 (by decide)
  refine (dpos_core (ssD := fun ts => ⟨ss.n + 3 + ts.length + 1, .code 1 :: setE (ss.n + 3 + ts.length) (ts ++ Lq A B m :: Ld A m :: .code 0 :: setE ss.n ss.sto 1 (.tab (some (32, 4, ss.n)))) 0 (.tab (some (47, 4, ss.n + 3 + ts.length)))⟩) hB hm hmm hk (i2dM_none hI t1)
    (fun ts => (d2iM_none (kd := ss.n + 1 + 1) (ss := ⟨ss.n + 3 + ts.length, ts ++ Lq A B m :: Ld A m :: .code 0 :: setE ss.n ss.sto 1 (.tab (some (32, 4, ss.n)))⟩) hQ (fe_mid (by show ss.n + 1 + 1 + ts.length + 1 = ss.n + 3 + ts.length; omega)) (fe_front ts (fromEnd_push (fromEnd_push (fromEnd_push t0'))))).trans (by rw [q1]))).elim fun ts e => ?_
  refine .mk _ _ _ (.tuple [iN (A / B), iN (A % B)] :: .code 1 :: (ts ++ [Lq A B m, Ld A m, .code 0])) [.tuple [iN (A / B), iN (A % B)], .code 1, .code 0] (laidE ss ss.n (ss.n + 3 + ts.length)) _ [0, 1, ts.length + 4] (fun _ _ h => h) e
    (Gc.of hn ?_ laidE_len laidE_len ?_ rfl (.cons rfl (closed_tuple (ds := [A / B, A % B])) (.cons rfl (closed_eq (.inr rfl)) (.cons (mo1 := .code 0) ?_ (closed_eq (.inl rfl)) .nil)))
      (OcOK.laid (j0 := 2) (j1 := 1) hn l0 l1 rfl ?_ rfl rfl rfl rfl) (.ref (ss.n + 3 + ts.length + 1) (ss.n + 2) 0 0 rfl rfl rfl rfl rfl))
  · show _ :: _ :: setE _ _ _ _ = _ :: _ :: (_ ++ _)
    rw [se_front (n := ss.n + 3) (Nat.succ_pos _), se_push (n := ss.n + 2) (Nat.succ_pos _), se_push (n := ss.n + 1) (Nat.succ_pos _), se_push (n := ss.n) l0, List.append_assoc]
    rfl
  · rw [List.nodup_cons, List.nodup_cons]; simp
  · rw [List.getElem?_cons_succ, List.getElem?_cons_succ, List.getElem?_append_right (Nat.le_add_right _ _), Nat.add_sub_cancel_left]; rfl
  · show ss.n + (ts.length + 4) + 1 = ss.n + 3 + ts.length + 1 + 1; omega
theorem dpos_laid {c0 c1 : Nat} (hn : ss.n = ss.sto.length) (hB : 1 ≤ B) (hm : Builtin.Int.intBits (Int.ofNat B) = m) (hmm : m ≤ 4000) (hk : nDig A m ≤ 10) (q1 : evalD m (quoD A B m).reverse = A / B) (hI : 1 ≤ m ∧ m ≤ 4000 ∧ Builtin.Int.intBits (Int.ofNat A) ≤ 1000000 ∧ nDig A m ≤ 10)
    (hQ : m ≤ 4000 ∧ (quoD A B m).reverse.length ≤ 11 ∧ ∀ d ∈ (quoD A B m).reverse, d < 2 ^ m) (t1 : fromEnd ss.n ss.sto 1 = some (.tab (some (32, 4, c0)))) (t0 : fromEnd ss.n ss.sto 0 = some (.tab (some (47, 4, c1))))
    (hc0 : fromEnd ss.n ss.sto c0 = some (.code 0)) (hc1 : fromEnd ss.n ss.sto c1 = some (.code 1)) :
    GcAt q (fnF 2 7 (dposF (fnF 3 0 div2F))) [iN A, iN B] ss (.ref ss.n) ⟨ss.n + 1, .tuple [iN (A / B), iN (A % B)] :: ss.sto⟩ := by
  refine (dpos_core (ssD := fun ts => ⟨ss.n + 2 + ts.length, ts ++ Lq A B m :: Ld A m :: ss.sto⟩) hB hm hmm hk (i2dM_hit hI t1 hc0)
    (fun ts => (d2iM_hit (kd := ss.n + 1) (ss := ⟨ss.n + 2 + ts.length, ts ++ Lq A B m :: Ld A m :: ss.sto⟩) hQ (fe_mid (by show ss.n + 1 + ts.length + 1 = ss.n + 2 + ts.length; omega)) (fe_front ts (fromEnd_push (fromEnd_push t0))) (fe_front ts (fromEnd_push (fromEnd_push hc1)))).trans (by rw [q1]))).elim fun ts e => ?_
  refine .mk _ _ _ (.tuple [iN (A / B), iN (A % B)] :: (ts ++ [Lq A B m, Ld A m])) [.tuple [iN (A / B), iN (A % B)]] ss.sto ss.sto [0] (fun _ _ h => h) e
    (Gc.of hn ?_ rfl rfl (by decide) rfl (.cons rfl (closed_tuple (ds := [A / B, A % B])) .nil) OcOK.same (.ref (ss.n + 2 + ts.length) ss.n 0 0 rfl rfl rfl rfl rfl))
  show _ :: (_ ++ _) = _ :: (_ ++ _)
  rw [List.append_assoc]; rfl
end
theorem bits_pos {B : Nat} (hB : 1 ≤ B) : 1 ≤ Builtin.Int.intBits (Int.ofNat B) := by
  rcases Nat.eq_zero_or_pos (Builtin.Int.intBits (Int.ofNat B)) with e | e
  · have := lt_bits B
    rw [e] at this; exact absurd hB (Nat.not_le.mpr this)
  · exact e
set_option smartUnfolding false in
theorem dpos_ok {g : Gl} (F : Fk g) (Fs : Fn g F) : OpNOK g 14 (fun ws => call (.ref F.dpos.a) ws) dposM := by
  refine OpNOK.gc (dpos_ok0 F Fs) fun vs ss v2 ss2 h hn => ?_
  unfold dposM at h
  refine evs_nn h fun A B ev h => ?_
  rw [ev]
  refine eb h fun hd h => ?_
  have hd := of_decide_eq_true hd
  have hm1 := bits_pos hd.1
  have q := quoD_ok (A := A) hd.1 hm1
  have hQ : Builtin.Int.intBits (Int.ofNat B) ≤ 4000 ∧ (quoD A B (Builtin.Int.intBits (Int.ofNat B))).reverse.length ≤ 11 ∧ ∀ d ∈ (quoD A B (Builtin.Int.intBits (Int.ofNat B))).reverse, d < 2 ^ Builtin.Int.intBits (Int.ofNat B) :=
    ⟨hd.2.1, by rw [List.length_reverse, q.2.2.1]; exact Nat.le_trans hd.2.2.2 (Nat.le_succ _), fun d hd' => q.2.2.2 d (List.mem_reverse.mp hd')⟩
  exact dmOut_el (P := GcAt g.q _ _ ss) h (fun t1 t0 => dpos_fresh hn hd.1 rfl hd.2.1 hd.2.2.2 q.1 ⟨hm1, hd.2⟩ hQ t1 t0) fun c0 c1 t1 t0 e0 e1 => dpos_laid hn hd.1 rfl hd.2.1 hd.2.2.2 q.1 ⟨hm1, hd.2⟩ hQ t1 t0 e0 e1
end Mine
end P60
section P61
open PySem PySem.W PyProof.Rows PySem.Calls PySem.Spec
set_option maxHeartbeats 4000000
namespace Mine
end Mine
end P61
set_option hygiene false in
local macro_rules | `(tactic| wtm_at "mine call") => `(tactic| first
  | with_reducible refine' EvOK.fnV F.dpos (dpos_ok F Fs) (Nat.le_add_right _ _) (by ((intros; kernel_rfl))) (by ((intros; kernel_rfl))) ?_ (by ((intros; kernel_rfl)))
  | with_reducible refine' EvOK.fnV F.idm hD (Nat.le_refl _) (by ((intros; kernel_rfl))) (by ((intros; kernel_rfl))) ?_ (by ((intros; kernel_rfl))))
section P61
open PySem PySem.W PyProof.Rows PySem.Calls PySem.Spec
set_option maxHeartbeats 4000000
namespace Mine
noncomputable def idmX : { f : (List MV → SS → Option (MV × SS)) → PS → Option (FL × PS) // ∀ (g : Gl) (F : Fk g) (Fs : Fn g F) (k : Nat) (D : List MV → SS → Option (MV × SS)) (_ : OpNOK g (14 + k) (fun ws => call (.ref F.idm.a) ws) D), ExsOK g ⟨[Str.ofString "a", Str.ofString "b", Str.ofString "q", Str.ofString "r"], [], sc_idm⟩ (14 + k) bo_idm (f D) } := by
  apply Subtype.mk
  intro g F Fs k D hD
  refine' ExsOK.cons (ExOK.ite ?_ ExsOK.fail ?_) ?_
  repeat' wtm_at "mine step"
noncomputable def idmF (D : List MV → SS → Option (MV × SS)) : PS → Option (FL × PS) :=
  seqF (ifF (isF (binF (locF 1) (intF 0) eqM)) failF
      (seqF (ifF (isF (binF (locF 1) (intF 0) (ordM ltX)))
          (seqF (asgTF (callF (consF (un1F (locF 0) negM) (consF (un1F (locF 1) negM) nilF)) D) (tlocF 2 (tlocF 3 tnilF)))
            (seqF (retF (tupleF (consF (locF 2) (consF (un1F (locF 3) negM) nilF)))) passF))
          (seqF (ifF (isF (binF (locF 0) (intF 0) (ordM ltX)))
              (seqF (asgTF (callF (consF (un1F (locF 0) invM) (consF (locF 1) nilF)) D) (tlocF 2 (tlocF 3 tnilF)))
                (seqF (retF (tupleF (consF (un1F (locF 2) invM) (consF (binF (locF 1) (un1F (locF 3) invM) addM) nilF)))) passF))
              (seqF (retF (callF (consF (locF 0) (consF (locF 1) nilF)) dposM)) passF))
            passF))
        passF))
    passF
theorem idmX_eq (D : List MV → SS → Option (MV × SS)) : idmX.1 D = idmF D := rfl
noncomputable def idmD : Nat → List MV → SS → Option (MV × SS)
  | 0 => fnF 2 2 failF
  | n + 1 => fnF 2 2 (idmF (idmD n))
theorem idmD_ok {g : Gl} (F : Fk g) (Fs : Fn g F) : ∀ n, OpNOK g (14 + n) (fun ws => call (.ref F.idm.a) ws) (idmD n)
  | 0 => OpNOK.fn (lv := 13) (pn := [Str.ofString "a", Str.ofString "b"]) (ls := [Str.ofString "q", Str.ofString "r"]) F.lim F.idm.fn rfl rfl rfl (by decide +kernel) (by ((intro doc pm an cdv ct ws h; rcases ws with _ | ⟨w1, _ | ⟨w2, _ | ⟨w3, _ | ⟨w4, _ | ⟨w5, ws⟩⟩⟩⟩⟩ <;> first | rfl | (simp at h)))) (by decide +kernel) (by decide +kernel) ExsOK.fail
  | n + 1 => OpNOK.fn (lv := 14 + n) (pn := [Str.ofString "a", Str.ofString "b"]) (ls := [Str.ofString "q", Str.ofString "r"]) F.lim F.idm.fn rfl rfl rfl (by decide +kernel) (by ((intro doc pm an cdv ct ws h; rcases ws with _ | ⟨w1, _ | ⟨w2, _ | ⟨w3, _ | ⟨w4, _ | ⟨w5, ws⟩⟩⟩⟩⟩ <;> first | rfl | (simp at h)))) (by decide +kernel) (by decide +kernel) (idmX.2 g F Fs n _ (idmD_ok F Fs n))
/-! runs -/
noncomputable def dmRest (ss : SS) : Option SS := match tabsOf ss with
  | some .fresh => some ⟨ss.n + 2, .code 1 :: .code 0 :: setE ss.n (setE ss.n ss.sto 1 (.tab (some (32, 4, ss.n)))) 0 (.tab (some (47, 4, ss.n + 1)))⟩
  | some .laid => some ss
  | none => none
theorem dmOut_rest {ss s : SS} (h : dmRest ss = some s) (vs : List MV) : dmOut vs ss = some (.ref s.n, ⟨s.n + 1, .tuple vs :: s.sto⟩) := by
  unfold dmRest at h
  unfold dmOut
  split at h
  · rename_i e; cases h; first | rfl | rw [e]
  · rename_i e; cases h; first | rfl | rw [e]
  · cases h
noncomputable def iC (a : Int) : MV := .int (.c a)
theorem eqB_ff {a b : Int} (h : a ≠ b) : Z.eqB a b = false := by
  cases e : Z.eqB a b with
  | false => rfl
  | true => exact absurd ((Z.eqB_iff a b).mp e) h
theorem ltB_ff {a b : Int} (h : ¬ a < b) : Z.ltB a b = false := by
  cases e : Z.ltB a b with
  | false => rfl
  | true => exact absurd ((Z.ltB_iff a b).mp e) h
section
variable {a b : Int} {ss : SS} {D : List MV → SS → Option (MV × SS)}
theorem idm_start {x : Option (MV × SS)} (hb : b ≠ 0)
    (h : outO (ifF (isF (binF (locF 1) (intF 0) (ordM ltX)))
          (seqF (asgTF (callF (consF (un1F (locF 0) negM) (consF (un1F (locF 1) negM) nilF)) D) (tlocF 2 (tlocF 3 tnilF)))
            (seqF (retF (tupleF (consF (locF 2) (consF (un1F (locF 3) negM) nilF)))) passF))
          (seqF (ifF (isF (binF (locF 0) (intF 0) (ordM ltX)))
              (seqF (asgTF (callF (consF (un1F (locF 0) invM) (consF (locF 1) nilF)) D) (tlocF 2 (tlocF 3 tnilF)))
                (seqF (retF (tupleF (consF (un1F (locF 2) invM) (consF (binF (locF 1) (un1F (locF 3) invM) addM) nilF)))) passF))
              (seqF (retF (callF (consF (locF 0) (consF (locF 1) nilF)) dposM)) passF))
            passF) ⟨[some (iC a), some (iC b), none, none], [], ss⟩) = x) (hx : x ≠ none) : fnF 2 2 (idmF D) [iC a, iC b] ss = x := by
  rw [fnF_out (np := 2) rfl]
  show outO (idmF D ⟨[some (iC a), some (iC b), none, none], [], ss⟩) = x
  unfold idmF
  have t1 : isF (binF (locF 1) (intF 0) eqM) ⟨[some (iC a), some (iC b), none, none], [], ss⟩ = some (false, ⟨[some (iC a), some (iC b), none, none], [], ss⟩) := by
    rw [← eqB_ff hb]; rfl
  rw [← h]
  have key : ∀ f : PS → Option (FL × PS), ∀ st, outO (f st) ≠ none → outO (seqF (ifF (isF (binF (locF 1) (intF 0) eqM)) failF (seqF f passF)) passF st) = outO (f st) ∨ isF (binF (locF 1) (intF 0) eqM) st ≠ some (false, st) := by
    intro f st hf
    by_cases ht : isF (binF (locF 1) (intF 0) eqM) st = some (false, st)
    · left
      unfold seqF
      rw [ifF_f ht]
      cases e : f st with
      | none => rw [e] at hf
      | some p =>
        obtain ⟨r, s1⟩ := p
        cases r <;> rfl
    · exact .inr ht
  rcases key _ ⟨[some (iC a), some (iC b), none, none], [], ss⟩ (by rw [h]; exact hx) with e | e
  · exact e
  · exact absurd t1 e
/-- b > 0, a >= 0 -/
theorem idm_pp {A B : Nat} {s : SS} (hB : 1 ≤ B) (h : dposM [iN A, iN B] ss = some (.ref s.n, ⟨s.n + 1, .tuple [iN (A / B), iN (A % B)] :: s.sto⟩)) :
    fnF 2 2 (idmF D) [iN A, iN B] ss = some (.ref s.n, ⟨s.n + 1, .tuple [iN (A / B), iN (A % B)] :: s.sto⟩) := by
  refine idm_start (a := Int.ofNat A) (b := Int.ofNat B) (fun e => by have : (B : Int) = 0 := e; omega) ?_ nofun
  have t1 : isF (binF (locF 1) (intF 0) (ordM ltX)) ⟨[some (iN A), some (iN B), none, none], [], ss⟩ = some (false, ⟨[some (iN A), some (iN B), none, none], [], ss⟩) := by
    rw [← ltB_ff (show ¬ Int.ofNat B < 0 from by have : Int.ofNat B = (B : Int) := rfl; omega)]; rfl
  have t2 : isF (binF (locF 0) (intF 0) (ordM ltX)) ⟨[some (iN A), some (iN B), none, none], [], ss⟩ = some (false, ⟨[some (iN A), some (iN B), none, none], [], ss⟩) := by
    rw [← ltB_ff (show ¬ Int.ofNat A < 0 from by have : Int.ofNat A = (A : Int) := rfl; omega)]; rfl
  have c1 : callF (consF (locF 0) (consF (locF 1) nilF)) dposM ⟨[some (iN A), some (iN B), none, none], [], ss⟩ = some (.ref s.n, ⟨[some (iN A), some (iN B), none, none], [], ⟨s.n + 1, .tuple [iN (A / B), iN (A % B)] :: s.sto⟩⟩) :=
    callF_run (st1 := ⟨[some (iN A), some (iN B), none, none], [], ss⟩) rfl h
  show outO (ifF _ _ _ ⟨[some (iN A), some (iN B), none, none], [], ss⟩) = _
  rw [ifF_f t1, seqF_ret ((ifF_f t2).trans (seqF_ret (retF_run c1)))]
  rfl
theorem tupOf_top {vs : List MV} {n : Nat} {S : List MO} : tupOf ⟨n + 1, .tuple vs :: S⟩ (.ref n) = some vs := by
  unfold tupOf; dsimp only; rw [fromEnd_new]
/-- b > 0, a < 0 -/
theorem idm_np {A B : Nat} {q r : Int} {n : Nat} {S : List MO} (hB : 1 ≤ B) (h : D [iN A, iN B] ss = some (.ref n, ⟨n + 1, .tuple [iC q, iC r] :: S⟩)) :
    fnF 2 2 (idmF D) [iC (Int.negSucc A), iN B] ss = some (.ref (n + 1), ⟨n + 2, .tuple [iC (Builtin.bitNot q), iC (Int.ofNat B + Builtin.bitNot r)] :: .tuple [iC q, iC r] :: S⟩) := by
  refine idm_start (a := Int.negSucc A) (b := Int.ofNat B) (fun e => by have : (B : Int) = 0 := e; omega) ?_ nofun
  have t1 : isF (binF (locF 1) (intF 0) (ordM ltX)) ⟨[some (iC (Int.negSucc A)), some (iN B), none, none], [], ss⟩ = some (false, ⟨[some (iC (Int.negSucc A)), some (iN B), none, none], [], ss⟩) := by
    rw [← ltB_ff (show ¬ Int.ofNat B < 0 from by have : Int.ofNat B = (B : Int) := rfl; omega)]; rfl
  have t2 : isF (binF (locF 0) (intF 0) (ordM ltX)) ⟨[some (iC (Int.negSucc A)), some (iN B), none, none], [], ss⟩ = some (true, ⟨[some (iC (Int.negSucc A)), some (iN B), none, none], [], ss⟩) := by
    rw [← (Z.ltB_iff (Int.negSucc A) 0).mpr (by omega)]; rfl
  have hnot : Builtin.bitNot (Int.negSucc A) = Int.ofNat A := by
    unfold Builtin.bitNot
    have : Int.ofNat A = (A : Int) := rfl
    omega
  have c0 : consF (un1F (locF 0) invM) (consF (locF 1) nilF) ⟨[some (iC (Int.negSucc A)), some (iN B), none, none], [], ss⟩ = some ([iN A, iN B], ⟨[some (iC (Int.negSucc A)), some (iN B), none, none], [], ss⟩) := by
    show some ([iC (Builtin.bitNot (Int.negSucc A)), iN B], _) = _
    rw [hnot]; rfl
  have c1 := callF_run c0 h
  have c2 : asgTF (callF (consF (un1F (locF 0) invM) (consF (locF 1) nilF)) D) (tlocF 2 (tlocF 3 tnilF)) ⟨[some (iC (Int.negSucc A)), some (iN B), none, none], [], ss⟩ = some (.next, ⟨[some (iC (Int.negSucc A)), some (iN B), some (iC q), some (iC r)], [], ⟨n + 1, .tuple [iC q, iC r] :: S⟩⟩) := by
    unfold asgTF
    rw [c1]; dsimp only
    rw [tupOf_top]; rfl
  show outO (ifF _ _ _ ⟨[some (iC (Int.negSucc A)), some (iN B), none, none], [], ss⟩) = _
  rw [ifF_f t1, seqF_ret ((ifF_t t2).trans ((seqF_next c2).trans (seqF_ret (retF_run (v := .ref (n + 1)) (st1 := ⟨[some (iC (Int.negSucc A)), some (iN B), some (iC q), some (iC r)], [], ⟨n + 2, .tuple [iC (Builtin.bitNot q), iC (Int.ofNat B + Builtin.bitNot r)] :: .tuple [iC q, iC r] :: S⟩⟩) rfl))))]
  rfl
/-- b < 0 -/
theorem idm_xn {q r : Int} {n : Nat} {S : List MO} (hb : b < 0) (h : D [iC (-a), iC (-b)] ss = some (.ref n, ⟨n + 1, .tuple [iC q, iC r] :: S⟩)) :
    fnF 2 2 (idmF D) [iC a, iC b] ss = some (.ref (n + 1), ⟨n + 2, .tuple [iC q, iC (-r)] :: .tuple [iC q, iC r] :: S⟩) := by
  refine idm_start (a := a) (b := b) (fun e => by omega) ?_ nofun
  have t1 : isF (binF (locF 1) (intF 0) (ordM ltX)) ⟨[some (iC a), some (iC b), none, none], [], ss⟩ = some (true, ⟨[some (iC a), some (iC b), none, none], [], ss⟩) := by
    rw [← (Z.ltB_iff b 0).mpr hb]; rfl
  have c0 : consF (un1F (locF 0) negM) (consF (un1F (locF 1) negM) nilF) ⟨[some (iC a), some (iC b), none, none], [], ss⟩ = some ([iC (-a), iC (-b)], ⟨[some (iC a), some (iC b), none, none], [], ss⟩) := rfl
  have c1 := callF_run c0 h
  have c2 : asgTF (callF (consF (un1F (locF 0) negM) (consF (un1F (locF 1) negM) nilF)) D) (tlocF 2 (tlocF 3 tnilF)) ⟨[some (iC a), some (iC b), none, none], [], ss⟩ = some (.next, ⟨[some (iC a), some (iC b), some (iC q), some (iC r)], [], ⟨n + 1, .tuple [iC q, iC r] :: S⟩⟩) := by
    unfold asgTF
    rw [c1]; dsimp only
    rw [tupOf_top]; rfl
  rw [ifF_t t1, seqF_next c2, seqF_ret (retF_run (v := .ref (n + 1)) (st1 := ⟨[some (iC a), some (iC b), some (iC q), some (iC r)], [], ⟨n + 2, .tuple [iC q, iC (-r)] :: .tuple [iC q, iC r] :: S⟩⟩) rfl)]
  rfl
end
end Mine
end P61
section P62
open PySem PySem.W PyProof.Rows PySem.Calls PySem.Spec
namespace Mine
theorem bits_neg (b : Int) : Builtin.Int.intBits (-b) = Builtin.Int.intBits b := by
  have h : ∀ c : Int, Builtin.Int.intBits (-c) ≤ Builtin.Int.intBits c := fun c => intBits_le_iff.mpr (by rw [Int.natAbs_neg]; exact intBits_le_iff.mp (Nat.le_refl _))
  have h2 := h (-b)
  rw [Int.neg_neg] at h2
  exact Nat.le_antisymm (h b) h2
theorem dposM_run {A B : Nat} {ss s : SS} (hB : 1 ≤ B) (hb : Builtin.Int.intBits (Int.ofNat B) ≤ 4000) (hA : A < 2 ^ (Builtin.Int.intBits (Int.ofNat B) * 10)) (hs : dmRest ss = some s) :
    dposM [iN A, iN B] ss = some (.ref s.n, ⟨s.n + 1, .tuple [iN (A / B), iN (A % B)] :: s.sto⟩) := by
  have h1 := bits_n hA
  have hm : 1 ≤ Builtin.Int.intBits (Int.ofNat B) := by
    rcases Nat.eq_zero_or_pos (Builtin.Int.intBits (Int.ofNat B)) with e | e
    · have := lt_bits B
      rw [e] at this; omega
    · exact e
  have h2 : nDig A (Builtin.Int.intBits (Int.ofNat B)) ≤ 10 := by
    unfold nDig
    apply Nat.le_of_lt_succ
    rw [Nat.div_lt_iff_lt_mul (by omega)]
    omega
  unfold dposM
  dsimp only
  rw [decide_eq_true ⟨hB, hb, by omega, h2⟩]
  exact dmOut_rest hs _
theorem idm_res {a b : Int} {ss s : SS} (hb0 : b ≠ 0) (hb : Builtin.Int.intBits b ≤ 4000) (ha : a.natAbs < 2 ^ (Builtin.Int.intBits b * 10)) (hs : dmRest ss = some s) :
    ∃ ex, idmD 3 [iC a, iC b] ss = some (.ref (s.n + ex.length), ⟨s.n + ex.length + 1, .tuple [iC (a.fdiv b), iC (a.fmod b)] :: (ex ++ s.sto)⟩) := by
  have pos : ∀ (n : Nat) (a b : Int), 0 < b → Builtin.Int.intBits b ≤ 4000 → a.natAbs < 2 ^ (Builtin.Int.intBits b * 10) → ∃ ex, idmD (n + 2) [iC a, iC b] ss = some (.ref (s.n + ex.length), ⟨s.n + ex.length + 1, .tuple [iC (a.fdiv b), iC (a.fmod b)] :: (ex ++ s.sto)⟩) := by
    intro n a b hpos hb ha
    obtain ⟨B, rfl⟩ : ∃ B : Nat, b = Int.ofNat B := ⟨b.toNat, by show b = ((b.toNat : Nat) : Int); omega⟩
    have hB : 1 ≤ B := by have : Int.ofNat B = (B : Int) := rfl; omega
    cases a with
    | ofNat A =>
      refine ⟨[], ?_⟩
      have := idm_pp (D := idmD (n + 1)) hB (dposM_run (A := A) hB hb ha hs)
      rw [fdiv_n, fmod_n]
      exact this
    | negSucc A =>
      refine ⟨[.tuple [iN (A / B), iN (A % B)]], ?_⟩
      have hA : A < 2 ^ (Builtin.Int.intBits (Int.ofNat B) * 10) := by
        have : (Int.negSucc A).natAbs = A + 1 := rfl
        omega
      have h1 := idm_pp (D := idmD n) hB (dposM_run (A := A) hB hb hA hs)
      have h2 := idm_np (D := idmD (n + 1)) hB h1
      have e : Int.fdiv (Int.negSucc A) (Int.ofNat B) = Builtin.bitNot (Int.ofNat (A / B)) ∧ Int.fmod (Int.negSucc A) (Int.ofNat B) = Int.ofNat B + Builtin.bitNot (Int.ofNat (A % B)) := by
        rw [Int.fdiv_fmod_unique hpos]
        have h3 := Nat.mod_lt A (show 0 < B by omega)
        have h4 := Nat.div_add_mod A B
        unfold Builtin.bitNot
        have e1 : Int.ofNat B = (B : Int) := rfl
        have e2 : Int.ofNat (A / B) = ((A / B : Nat) : Int) := rfl
        have e3 : Int.ofNat (A % B) = ((A % B : Nat) : Int) := rfl
        have e4 : ((B * (A / B) : Nat) : Int) = (B : Int) * ((A / B : Nat) : Int) := Int.natCast_mul _ _
        rw [e1, e2, e3]
        refine ⟨?_, by omega, by omega⟩
        rw [Int.mul_sub, Int.mul_neg, ← e4]
        omega
      rw [e.1, e.2]
      exact h2
  rcases Int.lt_or_gt_of_ne hb0 with hneg | hpos
  · obtain ⟨ex, e⟩ := pos 0 (-a) (-b) (by omega) (by rw [bits_neg]; exact hb) (by rw [Int.natAbs_neg, bits_neg]; exact ha)
    refine ⟨.tuple [iC ((-a).fdiv (-b)), iC ((-a).fmod (-b))] :: ex, ?_⟩
    have h2 := idm_xn (D := idmD 2) (a := a) hneg e
    have e2 : a.fdiv b = (-a).fdiv (-b) ∧ a.fmod b = -((-a).fmod (-b)) := by
      rw [Int.fdiv_fmod_unique' hneg]
      have h3 := Int.fmod_nonneg_of_pos (-a) (b := -b) (by omega)
      have h4 := Int.fmod_lt_of_pos (-a) (b := -b) (by omega)
      have h5 := Int.fmod_add_mul_fdiv (-a) (-b)
      refine ⟨?_, by omega, by omega⟩
      rw [Int.neg_mul] at h5
      omega
    rw [e2.1, e2.2]
    exact h2
  · exact pos 1 a b hpos hb ha
/-! polynomials: signs and sizes -/
noncomputable def allNN : List Int → Bool
  | [] => true
  | a :: r => match Z.leB 0 a with
    | true => allNN r
    | false => false
noncomputable def leP : List Int → List Int → Bool
  | [], y => allNN y
  | a :: x, [] => match Z.leB a 0 with
    | true => leP x []
    | false => false
  | a :: x, b :: y => match Z.leB a b with
    | true => leP x y
    | false => false
theorem allNN_ev {t : Int} (ht : 0 ≤ t) : ∀ {x : List Int}, allNN x = true → 0 ≤ evalP t x
  | [], _ => Int.le_refl _
  | a :: x, h => by
    unfold allNN at h
    split at h
    · rename_i e
      have h1 := (Z.leB_iff 0 a).mp e
      have h2 := allNN_ev ht h
      exact Int.add_nonneg h1 (Int.mul_nonneg ht h2)
    · cases h
theorem leP_ev {t : Int} (ht : 0 ≤ t) : ∀ {x y : List Int}, leP x y = true → evalP t x ≤ evalP t y
  | [], y, h => allNN_ev ht (by unfold leP at h; exact h)
  | a :: x, [], h => by
    unfold leP at h
    split at h
    · rename_i e
      have h1 := (Z.leB_iff a 0).mp e
      have h2 := leP_ev ht h
      have h3 := Int.mul_le_mul_of_nonneg_left h2 ht
      show a + t * evalP t x ≤ 0
      have : t * evalP t [] = 0 := by simp [evalP]
      omega
    · cases h
  | a :: x, b :: y, h => by
    unfold leP at h
    split at h
    · rename_i e
      have h1 := (Z.leB_iff a b).mp e
      have h2 := leP_ev ht h
      have h3 := Int.mul_le_mul_of_nonneg_left h2 ht
      show a + t * evalP t x ≤ b + t * evalP t y
      omega
    · cases h
noncomputable def absP (x : List Int) : List Int := x.map fun a => (a.natAbs : Int)
theorem absP_ev {t : Int} (ht : 0 ≤ t) : ∀ x : List Int, ((evalP t x).natAbs : Int) ≤ evalP t (absP x)
  | [] => by simp [evalP, absP]
  | a :: x => by
    have ih := absP_ev ht x
    show ((a + t * evalP t x).natAbs : Int) ≤ (a.natAbs : Int) + t * evalP t (absP x)
    have h1 := Int.natAbs_add_le a (t * evalP t x)
    rw [Int.natAbs_mul] at h1
    have h2 := Int.mul_le_mul_of_nonneg_left ih ht
    have h3 : ((t.natAbs * (evalP t x).natAbs : Nat) : Int) = t * ((evalP t x).natAbs : Int) := by
      rw [Int.natCast_mul]; congr 1; omega
    omega
/-- x |-> M(x + 2) -/
noncomputable def shift2 : List Int → List Int
  | [] => []
  | a :: r => addP [a] (mulP [2, 1] (shift2 r))
theorem shift2_ev (t : Int) : ∀ x : List Int, evalP t (shift2 x) = evalP (t + 2) x
  | [] => rfl
  | a :: r => by
    rw [shift2, addP_ev, mulP_ev, shift2_ev t r]
    simp only [evalP]
    rw [show 2 + t * (1 + t * 0) = t + 2 by omega]
    omega
/-- x |-> M(-x) -/
noncomputable def altP : List Int → List Int
  | [] => []
  | a :: r => a :: negP (altP r)
theorem altP_ev (t : Int) : ∀ x : List Int, evalP t (altP x) = evalP (-t) x
  | [] => rfl
  | a :: r => by
    show a + t * evalP t (negP (altP r)) = a + -t * evalP (-t) r
    rw [negP_ev, altP_ev t r, Int.mul_neg, Int.neg_mul]
noncomputable def powLe (S : List Int) : Nat → List Int → Bool
  | 0, P => leP S P
  | n + 1, P => match leP S P with
    | true => true
    | false => powLe S n (mulP P P)
theorem powLe_ev {t : Int} (ht : 0 ≤ t) {S : List Int} : ∀ {n : Nat} {P : List Int}, powLe S n P = true → 1 ≤ evalP t P → evalP t S ≤ evalP t P ^ (2 ^ n)
  | 0, P, h, _ => by
    rw [Nat.pow_zero, Int.pow_succ, Int.pow_zero, Int.one_mul]
    exact leP_ev ht h
  | n + 1, P, h, h1 => by
    have mono : ∀ k : Nat, (1 : Int) ≤ evalP t P ^ k := fun k => by
      induction k with
      | zero => rw [Int.pow_zero]; exact Int.le_refl _
      | succ k ih =>
        rw [Int.pow_succ]
        have := Int.mul_le_mul ih h1 (by decide) (by omega)
        simpa using this
    unfold powLe at h
    split at h
    · rename_i e
      have h2 := leP_ev ht e
      obtain ⟨k, hk⟩ : ∃ k, 2 ^ (n + 1) = k + 1 := ⟨2 ^ (n + 1) - 1, by have := Nat.two_pow_pos (n + 1); omega⟩
      rw [hk, Int.pow_succ]
      have h3 := Int.mul_le_mul_of_nonneg_right (mono k) (show 0 ≤ evalP t P by omega)
      rw [Int.one_mul] at h3
      omega
    · have h2 := powLe_ev ht h (by rw [mulP_ev]; have := Int.mul_le_mul h1 h1 (by decide) (by omega); simpa using this)
      rw [mulP_ev] at h2
      have : (evalP t P * evalP t P) ^ (2 ^ n) = evalP t P ^ (2 ^ (n + 1)) := by
        rw [Nat.pow_succ, Nat.mul_comm, Int.pow_mul]
        congr 1
        rw [Int.pow_succ, Int.pow_succ, Int.pow_zero, Int.one_mul]
      rw [← this]
      exact h2
noncomputable def sideP (S P : List Int) : Bool := match leP [2] P with
  | true => powLe (addP (absP S) [1]) 3 P
  | false => false
noncomputable def sideOK (M S : List Int) : Bool := match allNN M with
  | true => sideP S M
  | false => sideP S (negP M)
theorem sideP_ok {t : Int} (ht : 0 ≤ t) {S P : List Int} (h : sideP S P = true) : 2 ≤ evalP t P ∧ ((evalP t S).natAbs : Int) + 1 ≤ evalP t P ^ 8 := by
  unfold sideP at h
  split at h
  · rename_i e
    have h1 := leP_ev ht e
    have h2 : evalP t [2] = 2 := by simp [evalP]
    rw [h2] at h1
    have h3 := powLe_ev ht h (by omega)
    rw [addP_ev] at h3
    have h4 := absP_ev ht S
    have h5 : evalP t [1] = 1 := by simp [evalP]
    rw [h5, show (2 : Nat) ^ 3 = 8 from rfl] at h3
    exact ⟨h1, by omega⟩
  · cases h
theorem sideOK_ok {t : Int} (ht : 0 ≤ t) {M S : List Int} (h : sideOK M S = true) : 2 ≤ (evalP t M).natAbs ∧ (evalP t S).natAbs + 1 ≤ (evalP t M).natAbs ^ 8 := by
  have key : ∀ P : List Int, sideP S P = true → 2 ≤ (evalP t P).natAbs ∧ (evalP t S).natAbs + 1 ≤ (evalP t P).natAbs ^ 8 := fun P hP => by
    obtain ⟨h1, h2⟩ := sideP_ok ht hP
    obtain ⟨p, hp⟩ : ∃ p : Nat, evalP t P = p := ⟨(evalP t P).toNat, by omega⟩
    rw [hp] at h1 h2 ⊢
    have h3 : ((p ^ 8 : Nat) : Int) = (p : Int) ^ 8 := Int.natCast_pow p 8
    rw [← h3] at h2
    refine ⟨by show 2 ≤ p; omega, ?_⟩
    show _ ≤ p ^ 8
    omega
  unfold sideOK at h
  split at h
  · exact key M h
  · have := key _ h
    rw [negP_ev, Int.natAbs_neg] at this
    exact this
noncomputable def okDiv (M S : List Int) : Bool := match sideOK (shift2 M) (shift2 S) with
  | true => sideOK (shift2 (altP M)) (shift2 (altP S))
  | false => false
theorem okDiv_ok {q : Int} (hq : 2 ≤ q.natAbs) {M S : List Int} (h : okDiv M S = true) : 2 ≤ (evalP q M).natAbs ∧ (evalP q S).natAbs + 1 ≤ (evalP q M).natAbs ^ 8 := by
  unfold okDiv at h
  split at h
  · rename_i e
    rcases Int.le_total 0 q with h0 | h0
    · have := sideOK_ok (t := q - 2) (by omega) e
      rw [shift2_ev, shift2_ev, show q - 2 + 2 = q by omega] at this
      exact this
    · have := sideOK_ok (t := -q - 2) (by omega) h
      rw [shift2_ev, shift2_ev, altP_ev, altP_ev, show -(-q - 2 + 2) = q by omega] at this
      exact this
  · cases h
end Mine
end P62
section P63
open PySem PySem.W PyProof.Rows PySem.Calls PySem.Spec
namespace Mine
noncomputable def subH (k : Int) : List Int → List Int → List Int
  | [], cs => cs
  | _ :: _, [] => []
  | m :: ms, c :: cs => (c - k * m) :: subH k ms cs
noncomputable def divH (lead : Int) (tl : List Int) : Nat → List Int → List Int
  | 0, _ => []
  | _ + 1, [] => []
  | n + 1, c :: cs => (c / lead) :: divH lead tl n (subH (c / lead) tl cs)
noncomputable def quoP (C M : List Int) : List Int := match M.reverse with
  | [] => []
  | lead :: tl => (divH lead tl (C.length + 1 - M.length) C.reverse).reverse
set_option exponentiation.threshold 5000 in
noncomputable def b4000 : Nat := 2 ^ 4000
noncomputable def idmM : List MV → SS → Option (MV × SS)
  | [.int (.h m x), .int (.p m')], ss => match eqL m m' with
    | false => none
    | true => match eqL (mulP m (quoP x m)) x with
      | false => none
      | true => match okDiv m (quoP x m) with
        | false => none
        | true => match Nat.blt (bndP m) b4000 with
          | false => none
          | true => dmOut [.int (fromP (quoP x m)), .int (.h m [])] ss
  | _, _ => none
theorem half_dm {M S : Int} (h : 2 ≤ M.natAbs) : (M.fdiv 2 + M * S).fdiv M = S ∧ (M.fdiv 2 + M * S).fmod M = M.fdiv 2 := by
  have e := Int.fdiv_eq_ediv_of_nonneg M (b := 2) (by omega)
  rcases Int.lt_or_gt_of_ne (show M ≠ 0 by omega) with hneg | hpos
  · rw [Int.fdiv_fmod_unique' hneg]
    exact ⟨rfl, by rw [e]; omega, by rw [e]; omega⟩
  · rw [Int.fdiv_fmod_unique hpos]
    exact ⟨rfl, by rw [e]; omega, by rw [e]; omega⟩
theorem half_lt {M S : Int} (h : 2 ≤ M.natAbs) (hS : S.natAbs + 1 ≤ M.natAbs ^ 8) : (M.fdiv 2 + M * S).natAbs < 2 ^ (Builtin.Int.intBits M * 10) := by
  have h1 := fdiv2_le M
  have h2 := Int.natAbs_add_le (M.fdiv 2) (M * S)
  rw [Int.natAbs_mul] at h2
  have h3 : M.natAbs * (S.natAbs + 1) ≤ M.natAbs * M.natAbs ^ 8 := Nat.mul_le_mul_left _ hS
  rw [Nat.mul_add, Nat.mul_one, show M.natAbs * M.natAbs ^ 8 = M.natAbs ^ 9 from by rw [Nat.mul_comm, ← Nat.pow_succ]] at h3
  have h4 : M.natAbs < 2 ^ Builtin.Int.intBits M := intBits_le_iff.mp (Nat.le_refl _)
  have h5 : M.natAbs ^ 9 < (2 ^ Builtin.Int.intBits M) ^ 9 := Nat.pow_lt_pow_left h4 (by decide)
  rw [← Nat.pow_mul] at h5
  have h6 : 2 ^ (Builtin.Int.intBits M * 9) ≤ 2 ^ (Builtin.Int.intBits M * 10) := Nat.pow_le_pow_right (by decide) (by omega)
  have h7 : (M.fdiv 2).natAbs ≤ M.natAbs := by
    have e := Int.fdiv_eq_ediv_of_nonneg M (b := 2) (by omega)
    rw [e]; omega
  omega
theorem evs_hp {γ : Type} {P : Prop} {vs : List MV} {f : List Int → List Int → List Int → Option γ} {r : γ} (h : (match vs with | [.int (.h m x), .int (.p m')] => f m x m' | _ => none) = some r) (k : ∀ m x m', vs = [.int (.h m x), .int (.p m')] → f m x m' = some r → P) : P := by
  cases vs with
  | nil => exact nn h
  | cons v vs => cases v with
    | int e => cases e with
      | h m x => cases vs with
        | nil => exact nn h
        | cons v2 vs => cases v2 with
          | int e => cases e with
            | p m' => cases vs with
              | nil => exact k m x m' rfl h
              | cons _ _ => exact nn h
            | _ => exact nn h
          | _ => exact nn h
      | _ => exact nn h
    | _ => exact nn h
section
variable {q : Int} {m x S : List Int} {ss : SS}
theorem dmRest_fresh (t1 : fromEnd ss.n ss.sto 1 = some (.tab .none)) (t0 : fromEnd ss.n ss.sto 0 = some (.tab .none)) : dmRest ss = some ⟨ss.n + 2, .code 1 :: .code 0 :: laidE ss ss.n (ss.n + 1)⟩ := by
  unfold dmRest tabsOf
  rw [t1]
  show (match (match fromEnd ss.n ss.sto 0 with | some (.tab .none) => some Tabs.fresh | _ => none) with | some .fresh => _ | some .laid => _ | none => _) = _
  rw [t0]
  first | done | rfl
theorem dmRest_laid {c0 c1 : Nat} (t1 : fromEnd ss.n ss.sto 1 = some (.tab (some (32, 4, c0)))) (t0 : fromEnd ss.n ss.sto 0 = some (.tab (some (47, 4, c1)))) (e0 : fromEnd ss.n ss.sto c0 = some (.code 0)) (e1 : fromEnd ss.n ss.sto c1 = some (.code 1)) : dmRest ss = some ss := by
  have e : tabsOf ss = some .laid := by
    unfold tabsOf
    rw [t1]; dsimp only
    rw [t0]
    show (match fromEnd ss.n ss.sto c0 with | some (.code 0) => (match fromEnd ss.n ss.sto c1 with | some (.code 1) => some Tabs.laid | _ => none) | _ => none) = _
    rw [e0]
    show (match fromEnd ss.n ss.sto c1 with | some (.code 1) => some Tabs.laid | _ => none) = _
    rw [e1]
    first | done | rfl
  unfold dmRest
  rw [e]
  first | done | rfl
theorem idm_args (hx : evalP q x = evalP q m * evalP q S) (α : List Addr) (ws : List Value) (hv : VsOK q α [.int (.h m x), .int (.p m)] ws) : VsOK q α [iC ((evalP q m).fdiv 2 + evalP q m * evalP q S), iC (evalP q m)] ws :=
  hv.two (P := VsOK q α _) fun w w2 k1 k2 => .cons (k1.int_el (P := VOK q α _) fun t => by show (evalP q m).fdiv 2 + evalP q m * evalP q S = (evalP q m).fdiv 2 + evalP q x; rw [hx]) (.cons (k2.int_el (P := VOK q α _) fun t => rfl) .nil)
theorem idm_tup (α α' : List Addr) (o : Obj) (h : ObjOK q α (.tuple [iC (evalP q S), iC ((evalP q m).fdiv 2)]) o) : ObjOK q α' (.tuple [.int (fromP S), .int (.h m [])]) o := by
  cases (show TupOK _ _ _ _ from h) with | mk ws n e h =>
  exact TupOK.mk ws n e (h.two (P := VsOK q α' _) fun w w2 k1 k2 => .cons (k1.int_el (P := VOK q α' _) fun t => fromP_ev q S) (.cons (k2.int_el (P := VOK q α' _) fun t => by
    show (evalP q m).fdiv 2 + evalP q [] = (evalP q m).fdiv 2
    exact Int.add_zero _) .nil))
theorem idm_fresh {ex : List MO} (hn : ss.n = ss.sto.length) (hx : evalP q x = evalP q m * evalP q S) (l0 : 0 < ss.n) (l1 : 1 < ss.n)
    (e : idmD 3 [iC ((evalP q m).fdiv 2 + evalP q m * evalP q S), iC (evalP q m)] ss = some (.ref (ss.n + 2 + ex.length), ⟨ss.n + 2 + ex.length + 1, .tuple [iC (evalP q S), iC ((evalP q m).fdiv 2)] :: (ex ++ .code 1 :: .code 0 :: laidE ss ss.n (ss.n + 1))⟩)) :
    GcAt q (idmD 3) [.int (.h m x), .int (.p m)] ss (.ref (ss.n + 2)) ⟨ss.n + 3, .tuple [.int (fromP S), .int (.h m [])] :: .code 1 :: .code 0 :: laidE ss ss.n (ss.n + 1)⟩ := by
  refine .mk _ _ _ (.tuple [iC (evalP q S), iC ((evalP q m).fdiv 2)] :: (ex ++ [.code 1, .code 0])) [.tuple [.int (fromP S), .int (.h m [])], .code 1, .code 0] (laidE ss ss.n (ss.n + 1)) _ [0, ex.length + 1, ex.length + 2] (idm_args hx) e
    (Gc.of hn ?_ laidE_len laidE_len ?_ rfl (.cons rfl idm_tup (.cons (mo1 := .code 1) ?_ (closed_eq (.inr rfl)) (.cons (mo1 := .code 0) ?_ (closed_eq (.inl rfl)) .nil)))
      (OcOK.laid (j0 := 2) (j1 := 1) hn l0 l1 rfl ?_ rfl rfl ?_ rfl) (.ref (ss.n + 2 + ex.length) (ss.n + 2) 0 0 rfl rfl rfl rfl rfl))
  · show _ :: (_ ++ _) = _ :: (_ ++ _)
    rw [List.append_assoc]; rfl
  · rw [List.nodup_cons, List.nodup_cons]; simp
  · rw [List.getElem?_cons_succ, List.getElem?_append_right (Nat.le_refl _), Nat.sub_self]; rfl
  · rw [List.getElem?_cons_succ, List.getElem?_append_right (Nat.le_add_right _ _), Nat.add_sub_cancel_left]; rfl
  · show ss.n + (ex.length + 2) + 1 = ss.n + 2 + ex.length + 1; omega
  · show ss.n + 1 + (ex.length + 1) + 1 = ss.n + 2 + ex.length + 1; omega
theorem idm_laid {ex : List MO} (hn : ss.n = ss.sto.length) (hx : evalP q x = evalP q m * evalP q S)
    (e : idmD 3 [iC ((evalP q m).fdiv 2 + evalP q m * evalP q S), iC (evalP q m)] ss = some (.ref (ss.n + ex.length), ⟨ss.n + ex.length + 1, .tuple [iC (evalP q S), iC ((evalP q m).fdiv 2)] :: (ex ++ ss.sto)⟩)) :
    GcAt q (idmD 3) [.int (.h m x), .int (.p m)] ss (.ref ss.n) ⟨ss.n + 1, .tuple [.int (fromP S), .int (.h m [])] :: ss.sto⟩ :=
  .mk _ _ _ (.tuple [iC (evalP q S), iC ((evalP q m).fdiv 2)] :: ex) [.tuple [.int (fromP S), .int (.h m [])]] ss.sto ss.sto [0] (idm_args hx) e
    (Gc.of hn rfl rfl rfl (by decide) rfl (.cons rfl idm_tup .nil) OcOK.same (.ref (ss.n + ex.length) ss.n 0 0 rfl rfl rfl rfl rfl))
end
set_option exponentiation.threshold 5000 in
set_option smartUnfolding false in
theorem idm_ok {g : Gl} (F : Fk g) (Fs : Fn g F) : OpNOK g 17 (fun ws => call (.ref F.idm.a) ws) idmM := by
  refine OpNOK.gc (idmD_ok F Fs 3) fun vs ss v2 ss2 h hn => ?_
  unfold idmM at h
  refine evs_hp h fun m x m' ev h => ?_
  refine eb h fun em h => eb h fun ex h => eb h fun eo h => eb h fun e4 h => ?_
  rw [ev, ← eqL_eq em]
  have h2 := okDiv_ok g.hq2 eo
  have hM : Builtin.Int.intBits (evalP g.q m) ≤ 4000 := intBits_le (Nat.lt_of_le_of_lt (bndP_le g.hq m) (Z.blt_iff.mp e4))
  have hx : evalP g.q x = evalP g.q m * evalP g.q (quoP x m) := by rw [← mulP_ev, eqL_eq ex]
  have d := half_dm (S := evalP g.q (quoP x m)) h2.1
  have res := fun s hs => idm_res (s := s) (ss := ss) (fun e => absurd h2.1 (by rw [e]; decide)) hM (half_lt h2.1 h2.2) hs
  rw [d.1, d.2] at res
  exact dmOut_el (P := GcAt g.q _ _ ss) h (fun t1 t0 => (res _ (dmRest_fresh t1 t0)).elim fun ex e => idm_fresh hn hx (fromEnd_lt t0) (fromEnd_lt t1) e)
    fun c0 c1 t1 t0 e0 e1 => (res _ (dmRest_laid t1 t0 e0 e1)).elim fun ex e => idm_laid hn hx e
end Mine
end P63
section P64
open PySem PySem.W PyProof.Rows PySem.Calls PySem.Spec
set_option maxHeartbeats 4000000
namespace Mine
end Mine
end P64
set_option hygiene false in
local macro_rules | `(tactic| wtm_at "mine call") => `(tactic| first
  | with_reducible refine' EvOK.fnV F.idm (idm_ok F Fs) (by (decide +kernel)) (by ((intros; kernel_rfl))) (by ((intros; kernel_rfl))) ?_ (by ((intros; kernel_rfl))))
section P64
open PySem PySem.W PyProof.Rows PySem.Calls PySem.Spec
set_option maxHeartbeats 4000000
namespace Mine
noncomputable def minorsX : { f : PS → Option (FL × PS) // ∀ (g : Gl) (F : Fk g) (Fs : Fn g F), ExsOK g ⟨[Str.ofString "square", Str.ofString "minors", Str.ofString "k", Str.ofString "pivot", Str.ofString "i", Str.ofString "j", Str.ofString "value", Str.ofString "half", Str.ofString "quotient", Str.ofString "rest"], [], sc_minors⟩ 17 bo_minors f } := by
  apply Subtype.mk
  intro g F Fs
  repeat' wtm_at "mine step"
theorem minors_ok {g : Gl} (F : Fk g) (Fs : Fn g F) : OpNOK g 18 (fun ws => call (.ref F.minors.a) ws) (fnF 1 9 minorsX.1) :=
  OpNOK.fn (pn := [Str.ofString "square"]) (ls := [Str.ofString "minors", Str.ofString "k", Str.ofString "pivot", Str.ofString "i", Str.ofString "j", Str.ofString "value", Str.ofString "half", Str.ofString "quotient", Str.ofString "rest"]) F.lim F.minors.fn rfl rfl rfl (by decide +kernel) (by ((intro doc pm an cdv ct ws h; rcases ws with _ | ⟨w1, _ | ⟨w2, _ | ⟨w3, _ | ⟨w4, _ | ⟨w5, ws⟩⟩⟩⟩⟩ <;> first | rfl | (simp at h)))) (by decide +kernel) (by decide +kernel) (minorsX.2 g F Fs)
noncomputable def byhX : { f : PS → Option (FL × PS) // ∀ (g : Gl) (F : Fk g) (Fs : Fn g F), ExsOK g ⟨[Str.ofString "rows", Str.ofString "minors", Str.ofString "q", Str.ofString "levels", Str.ofString "upper", Str.ofString "lower", Str.ofString "row", Str.ofString "minor", Str.ofString "heights", Str.ofString "place", Str.ofString "half"], [], sc_byh⟩ 17 bo_byh f } := by
  apply Subtype.mk
  intro g F Fs
  repeat' wtm_at "mine step"
theorem byh_ok {g : Gl} (F : Fk g) (Fs : Fn g F) : OpNOK g 18 (fun ws => call (.ref F.byh.a) ws) (fnF 3 8 byhX.1) :=
  OpNOK.fn (pn := [Str.ofString "rows", Str.ofString "minors", Str.ofString "q"]) (ls := [Str.ofString "levels", Str.ofString "upper", Str.ofString "lower", Str.ofString "row", Str.ofString "minor", Str.ofString "heights", Str.ofString "place", Str.ofString "half"]) F.lim F.byh.fn rfl rfl rfl (by decide +kernel) (by ((intro doc pm an cdv ct ws h; rcases ws with _ | ⟨w1, _ | ⟨w2, _ | ⟨w3, _ | ⟨w4, _ | ⟨w5, ws⟩⟩⟩⟩⟩ <;> first | rfl | (simp at h)))) (by decide +kernel) (by decide +kernel) (byhX.2 g F Fs)
end Mine
end P64
section P65
open PySem PySem.W PyProof.Rows PySem.Calls PySem.Spec
namespace Mine
/-! _law_heights: its run in any store -/
noncomputable def stepF : PS → Option (FL × PS) :=
  seqF (exprF (methF isListM (locF 1) (consF (binF (binF (locF 1) (un1F (intF 1) negM) idxM) (iteF (isF (binF (locF 2) (strF [40]) eqM)) (intF 1) (un1F (intF 1) negM)) addM) nilF) appendM)) passF
noncomputable def heightsF : PS → Option (FL × PS) :=
  seqF (asgF (listF (consF (intF 0) nilF)) 1) (seqF (forF 70 (iterF (locF 0)) (t1F 2) stepF passF) (seqF (retF (locF 1)) passF))
theorem heightsX_eq : heightsX.1 = heightsF := rfl
noncomputable def hUp (c : Nat) : Int := match beqN [c] [40] with
  | true => 1
  | false => -1
noncomputable def hgo : List Nat → Int → List Int → List Int
  | [], x, acc => acc ++ [x]
  | c :: cs, x, acc => hgo cs (x + hUp c) (acc ++ [x])
theorem idx_last {n : Nat} {acc : List Int} {x : Int} {S : List MO} (hl : acc.length < 999999) : idxM (.ref n) (.int (.c (-1))) ⟨n + 1, .list ((acc ++ [x]).map iC) :: S⟩ = some (iC x, ⟨n + 1, .list ((acc ++ [x]).map iC) :: S⟩) := by
  unfold idxM
  dsimp only
  rw [fromEnd_new]
  dsimp only
  have h1 : ((acc ++ [x]).map iC).length = acc.length + 1 := by simp
  have h2 : placeOf (-1) (acc.length + 1) = some acc.length := by
    show placeOf (Int.negSucc 0) _ = _
    unfold placeOf
    dsimp only
    rw [show Nat.blt 0 (acc.length + 1) = true from Z.blt_iff.mpr (Nat.succ_pos _)]
    rfl
  rw [h1, h2, show small (acc.length + 1) = true from Z.blt_iff.mpr (by omega)]
  dsimp only
  rw [List.map_append, List.getElem?_append_right (by simp), List.length_map, Nat.sub_self]
  rfl
theorem hts_loop {row : MV} {n : Nat} {S : List MO} : ∀ (cs : List Nat) (x : Int) (acc : List Int) (y : Option MV) (fuel : Nat), cs.length < fuel → acc.length + cs.length < 1000 →
    ∃ y', loopF (t1F 2) stepF passF fuel (.str cs) ⟨[some row, some (.ref n), y], [], ⟨n + 1, .list ((acc ++ [x]).map iC) :: S⟩⟩ = some (.next, ⟨[some row, some (.ref n), y'], [], ⟨n + 1, .list ((hgo cs x acc).map iC) :: S⟩⟩)
  | [], x, acc, y, fuel, hf, _ => by
    cases fuel with
    | zero => omega
    | succ fuel => exact ⟨y, rfl⟩
  | c :: cs, x, acc, y, fuel, hf, hl => by
    cases fuel with
    | zero => omega
    | succ fuel =>
    simp only [List.length_cons] at hf hl
    obtain ⟨y', e⟩ := hts_loop (row := row) (n := n) (S := S) cs (x + hUp c) (acc ++ [x]) (some (.str [c])) fuel (by omega) (by simp; omega)
    refine ⟨y', ?_⟩
    rw [hgo, ← e]
    have e1 : binF (locF 1) (un1F (intF 1) negM) idxM ⟨[some row, some (.ref n), some (.str [c])], [], ⟨n + 1, .list ((acc ++ [x]).map iC) :: S⟩⟩ = some (iC x, ⟨[some row, some (.ref n), some (.str [c])], [], ⟨n + 1, .list ((acc ++ [x]).map iC) :: S⟩⟩) :=
      binF_p rfl rfl (idx_last (by omega))
    have e2 : iteF (isF (binF (locF 2) (strF [40]) eqM)) (intF 1) (un1F (intF 1) negM) ⟨[some row, some (.ref n), some (.str [c])], [], ⟨n + 1, .list ((acc ++ [x]).map iC) :: S⟩⟩ = some (iC (hUp c), ⟨[some row, some (.ref n), some (.str [c])], [], ⟨n + 1, .list ((acc ++ [x]).map iC) :: S⟩⟩) := by
      have t : isF (binF (locF 2) (strF [40]) eqM) ⟨[some row, some (.ref n), some (.str [c])], [], ⟨n + 1, .list ((acc ++ [x]).map iC) :: S⟩⟩ = some (beqN [c] [40], ⟨[some row, some (.ref n), some (.str [c])], [], ⟨n + 1, .list ((acc ++ [x]).map iC) :: S⟩⟩) := rfl
      unfold hUp
      cases hb : beqN [c] [40] with
      | true => rw [hb] at t; exact (iteF_t t).trans rfl
      | false => rw [hb] at t; exact (iteF_f t).trans rfl
    have e3 : consF (binF (binF (locF 1) (un1F (intF 1) negM) idxM) (iteF (isF (binF (locF 2) (strF [40]) eqM)) (intF 1) (un1F (intF 1) negM)) addM) nilF ⟨[some row, some (.ref n), some (.str [c])], [], ⟨n + 1, .list ((acc ++ [x]).map iC) :: S⟩⟩
        = some ([iC (x + hUp c)], ⟨[some row, some (.ref n), some (.str [c])], [], ⟨n + 1, .list ((acc ++ [x]).map iC) :: S⟩⟩) := consF_run (binF_p e1 e2 rfl) rfl
    have hla : listAt ⟨n + 1, .list ((acc ++ [x]).map iC) :: S⟩ n = some ((acc ++ [x]).map iC) := listAt_run (fromEnd_new _ _ _)
    have e4 : methF isListM (locF 1) (consF (binF (binF (locF 1) (un1F (intF 1) negM) idxM) (iteF (isF (binF (locF 2) (strF [40]) eqM)) (intF 1) (un1F (intF 1) negM)) addM) nilF) appendM ⟨[some row, some (.ref n), some (.str [c])], [], ⟨n + 1, .list ((acc ++ [x]).map iC) :: S⟩⟩
        = some (.none, ⟨[some row, some (.ref n), some (.str [c])], [], ⟨n + 1, .list ((acc ++ [x] ++ [x + hUp c]).map iC) :: S⟩⟩) := by
      refine (methF_run (st1 := ⟨[some row, some (.ref n), some (.str [c])], [], ⟨n + 1, .list ((acc ++ [x]).map iC) :: S⟩⟩) (a := .ref n) rfl ?_ e3 (v := .none) (ss := ⟨n + 1, .list ((acc ++ [x] ++ [x + hUp c]).map iC) :: S⟩) ?_).trans rfl
      · unfold isListM
        dsimp only
        rw [hla]
      · unfold appendM
        dsimp only
        rw [hla]
        dsimp only
        rw [show small ((acc ++ [x]).map iC).length = true from Z.blt_iff.mpr (by simp; omega)]
        dsimp only
        rw [se 0 (by omega), List.map_append (l₁ := acc ++ [x])]
        rfl
    rw [loopF]
    show (match stepF ⟨[some row, some (.ref n), some (.str [c])], [], ⟨n + 1, .list ((acc ++ [x]).map iC) :: S⟩⟩ with | none => none | some (r, st2) => _) = _
    have eb : stepF ⟨[some row, some (.ref n), some (.str [c])], [], ⟨n + 1, .list ((acc ++ [x]).map iC) :: S⟩⟩ = some (.next, ⟨[some row, some (.ref n), some (.str [c])], [], ⟨n + 1, .list ((acc ++ [x] ++ [x + hUp c]).map iC) :: S⟩⟩) := by
      unfold stepF
      rw [seqF_next (exprF_run e4)]
      rfl
    rw [eb]
theorem hts_run {cs : List Nat} {ss : SS} (hl : cs.length < 60) (ha : asciiB cs = true) : fnF 1 2 heightsX.1 [.str cs] ss = some (.ref ss.n, ⟨ss.n + 1, .list ((hgo cs 0 []).map iC) :: ss.sto⟩) := by
  rw [fnF_out (np := 1) rfl, heightsX_eq]
  show outO (heightsF ⟨[some (.str cs), none, none], [], ss⟩) = _
  unfold heightsF
  obtain ⟨y', e⟩ := hts_loop (row := .str cs) (n := ss.n) (S := ss.sto) cs 0 [] none 70 (by omega) (by simp; omega)
  have s1 : asgF (listF (consF (intF 0) nilF)) 1 ⟨[some (.str cs), none, none], [], ss⟩ = some (.next, ⟨[some (.str cs), some (.ref ss.n), none], [], ⟨ss.n + 1, .list (([] ++ [(0 : Int)]).map iC) :: ss.sto⟩⟩) := rfl
  have s2 : forF 70 (iterF (locF 0)) (t1F 2) stepF passF ⟨[some (.str cs), some (.ref ss.n), none], [], ⟨ss.n + 1, .list (([] ++ [(0 : Int)]).map iC) :: ss.sto⟩⟩ = some (.next, ⟨[some (.str cs), some (.ref ss.n), y'], [], ⟨ss.n + 1, .list ((hgo cs 0 []).map iC) :: ss.sto⟩⟩) := by
    rw [← e]
    unfold forF iterF
    rw [show locF 0 _ = some (MV.str cs, (⟨[some (.str cs), some (.ref ss.n), none], [], ⟨ss.n + 1, .list (([] ++ [(0 : Int)]).map iC) :: ss.sto⟩⟩ : PS)) from rfl]
    dsimp only
    unfold iterV
    dsimp only
    rw [ha]
  rw [seqF_next s1, seqF_next s2]
  rfl
noncomputable def keyI (cs : List Nat) : Int := sumI (hgo cs 0 [])
theorem intsOf_iC : ∀ l : List Int, intsOf (l.map iC) = some l
  | [] => rfl
  | a :: l => by
    show (match intsOf (l.map iC) with | some r => some (a :: r) | none => none) = _
    rw [intsOf_iC l]
end Mine
end P65
section P66
open PySem PySem.W PyProof.Rows PySem.Calls PySem.Spec
set_option maxHeartbeats 4000000
namespace Mine
/-! the lambda of law -/
noncomputable def lamS : Stmt → Expr
  | .Assign _ (.Subscript (.Call _ _ [⟨_, l, _⟩] _) _ _) _ => l
  | _ => .Constant .none 0 ⟨0, 0, 0, 0⟩
noncomputable def paL : Expr → Arguments
  | .Lambda pa _ _ _ => pa
  | _ => { posonlyargs := [], args := [], vararg := none, kwonlyargs := [], kw_defaults := [], kwarg := none, defaults := [] }
noncomputable def boL : Expr → Expr
  | .Lambda _ b _ _ => b
  | e => e
noncomputable def scL : Expr → Scope
  | .Lambda _ _ sc _ => sc
  | _ => emptySc
@[reducible] noncomputable def pa_lam : Arguments := Subtype.val (p := fun x => x = paL (lamS (nthS bo_law 2))) (by apply Subtype.mk; conv => rhs; whnf; rfl)
@[reducible] noncomputable def bo_lam : Expr := Subtype.val (p := fun x => x = boL (lamS (nthS bo_law 2))) (by apply Subtype.mk; conv => rhs; whnf; rfl)
@[reducible] noncomputable def sc_lam : Scope := Subtype.val (p := fun x => x = scL (lamS (nthS bo_law 2))) (by apply Subtype.mk; conv => rhs; whnf; rfl)
noncomputable def lamX : { f : PS → Option (MV × PS) // ∀ (g : Gl) (_ : Fk g), EvOK g ⟨[Str.ofString "row"], [], sc_lam⟩ 1 bo_lam f } := by
  apply Subtype.mk
  intro g F
  repeat' wtm_at "mine step"
theorem lamX_run {cs : List Nat} {ss : SS} (hl : cs.length < 60) (ha : asciiB cs = true) : lamX.1 ⟨[some (.str cs)], [], ss⟩ = some (iC (keyI cs), ⟨[some (.str cs)], [], ⟨ss.n + 1, .list ((hgo cs 0 []).map iC) :: ss.sto⟩⟩) := by
  show callF (consF (callF (consF (locF 0) nilF) (fnF 1 2 heightsX.1)) nilF) sumM ⟨[some (.str cs)], [], ss⟩ = _
  have e1 : consF (locF 0) nilF ⟨[some (.str cs)], [], ss⟩ = some ([.str cs], ⟨[some (.str cs)], [], ss⟩) := rfl
  have e2 := callF_run e1 (hts_run (ss := ss) hl ha)
  have e3 : consF (callF (consF (locF 0) nilF) (fnF 1 2 heightsX.1)) nilF ⟨[some (.str cs)], [], ss⟩ = some ([.ref ss.n], ⟨[some (.str cs)], [], ⟨ss.n + 1, .list ((hgo cs 0 []).map iC) :: ss.sto⟩⟩) := consF_run e2 rfl
  refine (callF_run e3 (v := iC (keyI cs)) (ss := ⟨ss.n + 1, .list ((hgo cs 0 []).map iC) :: ss.sto⟩) ?_).trans rfl
  unfold sumM
  dsimp only
  rw [listAt_run (fromEnd_new _ _ _)]
  show (match intsOf ((hgo cs 0 []).map iC) with | none => none | some xs => some (MV.int (IX.c (sumI xs)), (⟨ss.n + 1, .list ((hgo cs 0 []).map iC) :: ss.sto⟩ : SS))) = _
  rw [intsOf_iC]
  rfl
theorem frag_nil (h : Heap) : Frag.In [] h := fun a o e => by cases e
section
variable {g : Gl} {Γ : Sta}
/-- the private part is regrouped -/
theorem Rel.perm {c : Cx g Γ} {α : List Addr} {ext ext' : List (Addr × Obj)} {G : List GenState} {st : PS} {s : Shared} (R : Rel c α ext G st s) (hp : ext'.Perm ext) : Rel c α ext' G st s := by
  obtain ⟨m, led, bl, R⟩ := R
  have hpp : (led ++ (bl ++ ext')).Perm (led ++ (bl ++ ext)) := (hp.append_left bl).append_left led
  exact ⟨m, led, bl, R.F, fun p h => R.N p (hpp.mem_iff.mp h), (hpp.map _).nodup_iff.mpr R.nd, R.la, R.lo, R.nn, R.bk, R.ce, R.ge, R.ba, R.tb, R.tk⟩
theorem Rel.same {c : Cx g Γ} {α : List Addr} {ext : List (Addr × Obj)} {G : List GenState} {st : PS} {α1 : List Addr} {s s1 : Shared} {x : MO}
    (R : Rel c α ext G st s) (hs : α <:+ α1) (R1 : Rel c α1 ext G { st with ss := ⟨st.ss.n + 1, x :: st.ss.sto⟩ } s1) : Rel c α ext G st s1 := by
  have hn : st.ss.n = st.ss.sto.length := let ⟨_, _, _, R⟩ := R; R.nn
  have hal : α.length = st.ss.sto.length := by obtain ⟨_, led, _, R⟩ := R; rw [← R.la, List.length_map, R.lo.length]
  obtain ⟨α2, h2, R2, _⟩ := Rel.gc (loc := st.loc) (cel := st.cel) (ss2 := st.ss) (v1 := .none) (v2 := .none) (w := .none) (gs := [x]) (kept := []) (old1 := st.ss.sto) (old2 := st.ss.sto) (ks := []) R hs R1
    ⟨rfl, rfl, rfl, rfl, hn, List.nodup_nil, rfl, .nil, OcOK.same, .closed fun _ _ w h => h.none_el (P := VOK _ _ .none) trivial⟩ trivial
  have hal2 : α2.length = st.ss.sto.length := by obtain ⟨_, led, _, R2⟩ := R2; rw [← R2.la, List.length_map, R2.lo.length]
  rw [h2.eq_of_length (by omega)]
  exact R2
/-- a call of the lambda -/
theorem lam_ok (c : Cx g Γ) (F : Fk g) (hl : 2 ≤ c.lvl) {p : Program} {loose : List Str} {mean : ExcName → Option Value} {mg mb : Str → Option Value} (T : Top p loose mean mg mb c.h₀)
    {α : List Addr} {ext : List (Addr × Obj)} {G : List GenState} {st : PS} {s : Shared} {f c' : Addr} {oc : Obj} {vs : Array Value} {t : Tok} {nm qual : Str} {pm ctv : Value}
    (R : Rel c α ext G st s) (hf : (f, kla_obj nm qual pa_lam bo_lam sc_lam [] pm c' ctv) ∈ ext) (hc : (c', oc) ∈ ext) (hd : oc.data = .fields vs) (hv : vs[1]? = some (.str qual t))
    {cs : List Nat} {w : Value} (hw : VOK g.q α (.str cs) w) (hcl : cs.length < 60) (hca : asciiB cs = true) {Q E : Value → Shared → Prop}
    (hQ : ∀ t s', Rel c α ext G st s' → s'.os = s.os → Q (.int (keyI cs) t) s') : wpAny (model g.prog g.w) c.A (call (.ref f) [w]) Q E s := by
  have R0 := R
  obtain ⟨m, led, bl, R⟩ := R
  have hm : ∀ p ∈ ext, p ∈ led ++ (bl ++ ext) := fun p hp => List.mem_append_right _ (List.mem_append_right _ hp)
  refine wpAny_call (kla_code (K := []) c.below R.F (frag_nil _) R.N T c.hA c.hff c.hfk (hm _ hf) (codeRec_news R.N (hm _ hc) hd hv) (by have := c.hdep; omega)
    (binds := [(Str.ofString "row", w)]) rfl (fun y hy => by rw [List.mem_singleton.mp hy]; show sc_lam.names.lookup (Str.ofString "row") = some .local; decide +kernel) (fun gh L' h₁ FG F' N' B' X' T' => ?_) rfl rfl rfl (by decide +kernel))
  let c2 : Cx g ⟨[Str.ofString "row"], [], sc_lam⟩ := {
    A := c.A.deeper (envX qual sc_lam L' f (.ref c') [])
    A₀ := c.A, base := c.base, outer := c.fenv :: c.outer, env := envX qual sc_lam L' f (.ref c') [], fenv := envX qual sc_lam L' f (.ref c') [], h₀ := gh, L := L', blk := none, lvl := c.lvl - 1, bm := fun _ => none
    hA := by show Option.map _ c.A.frames = _; rw [c.hA]; rfl
    hh := c.hh, hff := rfl, hfk := rfl, hfl := fun _ => rfl, hbl := fun _ e => (nomatch e)
    below := B'
    hscope := rfl, hkind := rfl, hglob := rfl, hblt := rfl
    hB := g.hB _ _ FG.keep c.hB
    hdep := by have := c.hdep; show c.A.depth + 1 + (c.lvl - 1) < _; omega
    hun := by have := c.hun; show c.A.units + 3 + 20 * (c.lvl - 1) + 20 < _; omega }
  have R' : Rel c2 α (bl ++ ext) G ⟨[some (.str cs)], [], st.ss⟩ { s with heap := h₁, toks := s.toks + 1 } := by
    refine ⟨_, led, [], F', N', R.nd, R.la, R.lo, R.nn, ⟨rfl, fun i x u hx hu => ?_⟩, fun i x k h => by simp at h, R.ge, R.ba, R.tb, Nat.succ_pos _⟩
    match i with
    | 0 => cases hu; cases hx; exact ⟨w, rfl, hw⟩
    | i + 1 => cases hu
  refine wpAny_mono (lamX.2 g F c2 (by show 1 ≤ c.lvl - 1; omega) α (bl ++ ext) G _ _ _ _ _ _ (lamX_run (ss := st.ss) hcl hca) R' (fun w1 α' s' hs R1 ho1 va => ?_)) (fun _ _ h => h) (fun _ _ h => h)
  obtain ⟨m', led', bl', R1⟩ := R1
  have hbl' : bl' = [] := R1.bk.1
  subst hbl'
  refine leaveK_ R1.F R1.N fun F₂ N₂ => ?_
  have key : Rel c α' ext G { st with ss := ⟨st.ss.n + 1, .list ((hgo cs 0 []).map iC) :: st.ss.sto⟩ } s' := ⟨m, led', bl, F₂, N₂, R1.nd, R1.la, R1.lo, R1.nn, R.bk.mono hs, R.ce.mono hs, R1.ge, R1.ba, R1.tb, R1.tk⟩
  obtain ⟨t', rfl⟩ := va.int_inv
  exact hQ t' s' (Rel.same R0 hs key) ho1
end
end Mine
end P66
section P67
open PySem PySem.W PyProof.Rows PySem.Calls PySem.Spec
set_option maxHeartbeats 4000000
namespace Mine
noncomputable def SortedPerm (us rows : List (List Nat)) : Prop := us.Perm rows ∧ us.Pairwise fun a b => keyI a ≤ keyI b
theorem perm_lift {β γ : Type} {F : β → γ} {ps qs : List γ} (h : ps.Perm qs) : ∀ l : List β, l.map F = qs → ∃ l' : List β, l'.Perm l ∧ l'.map F = ps := by
  induction h with
  | nil => intro l hl; cases l with
    | nil => exact ⟨[], .refl _, rfl⟩
    | cons => cases hl
  | cons x _ ih =>
    intro l hl
    cases l with
    | nil => cases hl
    | cons a l =>
      simp only [List.map_cons, List.cons.injEq] at hl
      obtain ⟨l', h1, h2⟩ := ih l hl.2
      exact ⟨a :: l', h1.cons a, by rw [List.map_cons, h2, hl.1]⟩
  | swap x y l0 =>
    intro l hl
    cases l with
    | nil => cases hl
    | cons a l =>
      cases l with
      | nil => cases hl
      | cons b l =>
        simp only [List.map_cons, List.cons.injEq] at hl
        exact ⟨b :: a :: l, List.Perm.swap a b l, by simp [hl.1, hl.2.1, hl.2.2]⟩
  | trans _ _ ih1 ih2 =>
    intro l hl
    obtain ⟨l1, h1, h2⟩ := ih2 l hl
    obtain ⟨l2, h3, h4⟩ := ih1 l1 h2
    exact ⟨l2, h3.trans h1, h4⟩
theorem zipOK {q : Int} {α : List Addr} : ∀ {rows : List (List Nat)} {ws : List Value}, VsOK q α (rows.map .str) ws → ∀ p ∈ rows.zip ws, VOK q α (.str p.1) p.2
  | [], _, .nil, _, h => by cases h
  | r :: rows, _, .cons h hr, p, hp => by
    rcases List.mem_cons.mp hp with rfl | hp
    · exact h
    · exact zipOK hr p hp
theorem VsOK.ofZip {q : Int} {α : List Addr} : ∀ {zs : List (List Nat × Value)}, (∀ p ∈ zs, VOK q α (.str p.1) p.2) → VsOK q α ((zs.map (·.1)).map .str) (zs.map (·.2))
  | [], _ => .nil
  | z :: zs, h => .cons (h z List.mem_cons_self) (VsOK.ofZip fun p hp => h p (List.mem_cons_of_mem _ hp))
theorem out_sorted {q : Int} {α : List Addr} {rows : List (List Nat)} {ws out : List Value} (hv : VsOK q α (rows.map .str) ws) (h : KskOut false (rows.map keyI) ws out) : ∃ us, SortedPerm us rows ∧ VsOK q α (us.map .str) out := by
  obtain ⟨ps, hp, rfl, hs⟩ := h
  have hlen : rows.length = ws.length := by rw [hv.length, List.length_map]
  obtain ⟨zs, h1, h2⟩ := perm_lift hp (rows.zip ws) (F := fun p : List Nat × Value => (keyI p.1, p.2)) (by rw [List.zip_map_left]; rfl)
  refine ⟨zs.map (·.1), ⟨?_, ?_⟩, ?_⟩
  · have := h1.map (·.1)
    rwa [List.map_fst_zip (by omega)] at this
  · rw [← h2, List.pairwise_map] at hs
    rw [List.pairwise_map]
    exact hs.imp fun h => by simpa using h
  · have e : ps.map Prod.snd = zs.map (·.2) := by rw [← h2, List.map_map]; rfl
    rw [e]
    exact VsOK.ofZip fun p hp' => zipOK hv p (h1.mem_iff.mp hp')
section
variable {g : Gl} {Γ : Sta} {c : Cx g Γ} {α : List Addr} {ext : List (Addr × Obj)} {G : List GenState} {st : PS} {s : Shared} {f c' : Addr} {oc : Obj} {vs : Array Value} {t : Tok} {nm qual : Str} {pm ctv : Value}
  {p : Program} {loose : List Str} {mean : ExcName → Option Value} {mg mb : Str → Option Value} {rows : List (List Nat)} {ws : List Value}
theorem rest_ok {kS a : Addr} {e1 : Nat} {P : PySem.Fin → Shared → Prop} {E : Value → Shared → Prop} (F : Fk g) (hl : 2 ≤ c.lvl) (T : Top p loose mean mg mb c.h₀)
    (R : Rel c α ([(kS, seqObj "list" #[] 0), (a, seqObj "list" #[] e1)] ++ ext) G st s) (hf : (f, kla_obj nm qual pa_lam bo_lam sc_lam [] pm c' ctv) ∈ ext) (hc : (c', oc) ∈ ext) (hd : oc.data = .fields vs) (hv : vs[1]? = some (.str qual t))
    (hws : VsOK g.q α (rows.map .str) ws) (h64 : rows.length < 64) (hrow : ∀ cs ∈ rows, cs.length < 60 ∧ asciiB cs = true)
    (hP : ∀ us s', Rel c (a :: α) ext G { st with ss := ⟨st.ss.n + 1, .list (us.map .str) :: st.ss.sto⟩ } s' → s'.os = s.os → SortedPerm us rows → P (.done (.ret .none)) s') :
    wpAny (model g.prog g.w) c.A (ksk_rest a (.ref f) false ws.toArray e1 (.ref kS)) P E s := by
  have hlen : ws.length = rows.length := by rw [hws.length, List.length_map]
  unfold ksk_rest
  refine wpAny_bind (wpAny_rule ?_)
  first
    | rw [List.forIn_toArray]
    | (rw [← Array.forIn_toList]; simp only [List.toList_toArray])
    | rw [← Array.forIn_toList]
  refine wpAny_bind (ksk_fold (fun i s' => ∃ kA e, Rel c α ([(kS, seqObj "list" kA e), (a, seqObj "list" #[] e1)] ++ ext) G st s' ∧ s'.os = s.os ∧ IntsAre kA.toList ((rows.map keyI).take i)) ws 0 s
    ⟨#[], 0, R, rfl, by simpa using IntsAre.nil⟩ ?step ?done)
  case step =>
    rintro j x s' hx ⟨kA, e, R1, ho1, hk⟩
    simp only [Nat.zero_add] at hk ⊢
    have hj : j < ws.length := (List.getElem?_eq_some_iff.mp hx).1
    have hrj : rows[j]? = some rows[j] := List.getElem?_eq_getElem (by omega)
    have hkj : (rows.map keyI)[j]? = some (keyI rows[j]) := by rw [List.getElem?_map, hrj]; rfl
    obtain ⟨w', hw1, hw2⟩ := hws.get (i := j) (v := .str rows[j]) (by rw [List.getElem?_map, hrj]; rfl)
    rw [hx] at hw1; cases hw1
    obtain ⟨q1, q2⟩ := hrow rows[j] (List.getElem_mem _)
    have hz : kA.size ≤ ws.length := by
      have h1 := hk.length
      rw [Array.length_toList, List.length_take] at h1
      omega
    refine wpAny_bind (wpAny_attempt (lam_ok c F hl T R1 (List.mem_append_right _ hf) (List.mem_append_right _ hc) hd hv hw2 q1 q2 fun t' s'' R2 ho2 => ?_))
    try dsimp only
    have nk : s''.heap.get? kS = some (seqObj "list" kA e) := R2.get (p := (kS, seqObj "list" kA e)) (.head _)
    have na : s''.heap.get? a = some (seqObj "list" #[] e1) := R2.get (p := (a, seqObj "list" #[] e1)) (.tail _ (.head _))
    have s1 := Heap.SameBut.update s''.heap kS (Obj.mapSeq (·.push (.int (keyI rows[j]) t')))
    obtain ⟨c2, hc2⟩ : ∃ c2, (s''.heap.update kS (Obj.mapSeq (·.push (.int (keyI rows[j]) t')))).get? kS = some (seqObj "list" (kA.push (.int (keyI rows[j]) t')) c2) := ⟨_, get?_update_seq nk (·.push (.int (keyI rows[j]) t'))⟩
    have ek : (rows.map keyI).take (j + 1) = (rows.map keyI).take j ++ [keyI rows[j]] := by rw [List.take_add_one, hkj]; simp
    have ea : (kA.push (Value.int (keyI rows[j]) t')).toList = kA.toList ++ [Value.int (keyI rows[j]) t'] := by simp
    refine wpAny_bind (listUpdate_at nk rfl ?_ (by rw [sizeLine_eq]; omega) (Nat.le_trans (Nat.le_of_eq (Array.size_push ..)) (by rw [sizeLine_eq]; omega)))
    have nd := R2.ndOwn
    have hne : kS ≠ a := by
      simp only [List.map_cons, List.map_nil, List.nodup_cons, List.mem_singleton] at nd
      exact nd.1
    refine wpAny_pure ⟨rfl, kA.push (.int (keyI rows[j]) t'), c2, ?_, ho2.trans ho1, by rw [ea, ek]; exact ksk_snoc hk⟩
    refine Rel.priv (own := [(kS, seqObj "list" kA e), (a, seqObj "list" #[] e1)]) (tk := s''.toks) R2 (fun b ob hb e => (s1.2 b (hb (kS, _) (.head _))).trans e) (fun q hq => ?_) (by simpa using hne) R2.pos
    rcases List.mem_cons.mp hq with rfl | hq
    · exact ⟨hc2, .inl ⟨_, .head _, rfl⟩⟩
    · rw [List.mem_singleton.mp hq]
      exact ⟨(s1.2 a (Ne.symm hne)).trans na, .inl ⟨_, .tail _ (.head _), rfl⟩⟩
  case done =>
    rintro s' ⟨kA, e, R1, ho1, hk⟩
    have hk' : IntsAre kA.toList (rows.map keyI) := by
      have e3 : (rows.map keyI).take (0 + ws.length) = rows.map keyI := List.take_of_length_le (by rw [List.length_map]; omega)
      rw [e3] at hk
      exact hk
    have nk : s'.heap.get? kS = some (seqObj "list" kA e) := R1.get (p := (kS, seqObj "list" kA e)) (.head _)
    try dsimp only
    refine wpAny_bind (listItems_at nk rfl ?_)
    obtain ⟨m, led, bl, R2⟩ := R1
    have nd := R2.nd
    have hperm : (led ++ (bl ++ ([(kS, seqObj "list" kA e), (a, seqObj "list" #[] e1)] ++ ext))).Perm ((led ++ (bl ++ ext)) ++ [(kS, seqObj "list" kA e), (a, seqObj "list" #[] e1)]) := by
      rw [List.append_assoc, List.append_assoc]
      exact ((List.perm_append_comm).append_left bl).append_left led
    have nd' := (hperm.map (·.1)).nodup_iff.mp nd
    rw [List.map_append, List.nodup_append] at nd'
    obtain ⟨nd1, nd2, nd3⟩ := nd'
    simp only [List.map_cons, List.map_nil, List.nodup_cons, List.mem_singleton] at nd2
    have hka : kS ≠ a := nd2.1
    have hnk : ∀ p ∈ led ++ (bl ++ ext), p.1 ≠ kS := fun p hp => nd3 p.1 (List.mem_map_of_mem hp) kS (by simp)
    have hna : ∀ p ∈ led ++ (bl ++ ext), p.1 ≠ a := fun p hp => nd3 p.1 (List.mem_map_of_mem hp) a (by simp)
    have N' : News c.h₀ c.L s'.heap ((led ++ (bl ++ ext)) ++ [(kS, seqObj "list" kA e), (a, seqObj "list" #[] e1)]) := fun p hp => R2.N p (hperm.mem_iff.mpr hp)
    refine pos_toks R2.tk (ksk_end_ (kz := rows.map keyI) (vs := ws) R2.F N' hka hnk hna hk' (by rw [List.length_map]; omega) (by omega) fun h3 tk3 out c3 F3 N3 k3 hpos => ?_)
    obtain ⟨us, u1, u2⟩ := out_sorted hws k3
    have hs : α <:+ a :: α := List.suffix_cons _ _
    refine hP us _ ⟨m, (a, seqObj "list" out c3) :: led, bl, F3, fun q hq => N3 q hq, ?_, by rw [← R2.la]; rfl, .cons ⟨out.toList, c3, by show _ = W.listOf _ _; rw [Array.toArray_toList], u2.mono hs⟩ (R2.lo.mono hs), by simp [R2.nn], R2.bk.mono hs, R2.ce.mono hs, R2.ge, R2.ba, R2.tb.trans hs, hpos⟩ ho1 u1
    show (List.map _ ((a, seqObj "list" out c3) :: (led ++ (bl ++ ext)))).Nodup
    rw [List.map_cons, List.nodup_cons]
    refine ⟨fun hm => ?_, nd1⟩
    obtain ⟨q, hq, e⟩ := List.mem_map.mp hm
    exact hna q hq e
theorem Rel.cast {c2 : Cx g Γ} (e1 : c2.h₀ = c.h₀) (e2 : c2.L = c.L) (e3 : c2.blk = c.blk) (e4 : c2.bm = c.bm) (e5 : c2.env = c.env) (R : Rel c α ext G st s) : Rel c2 α ext G st s := by
  obtain ⟨m, led, bl, R⟩ := R
  refine ⟨m, led, bl, by rw [e1, e2]; exact R.F, by rw [e1, e2]; exact R.N, R.nd, R.la, R.lo, R.nn, ?_, by rw [e5]; exact R.ce, R.ge, R.ba, R.tb, R.tk⟩
  have := R.bk
  unfold BlkOK at *
  rw [e3, e4]
  exact this
theorem sort_ok {E : Value → Shared → Prop} {Q : Value → Shared → Prop} {k : Nat} {a0 : Addr} (F : Fk g) (hl : 3 ≤ c.lvl) (T : Top p loose mean mg mb c.h₀)
    (R : Rel c α ext G st s) (hf : (f, kla_obj nm qual pa_lam bo_lam sc_lam [] pm c' ctv) ∈ ext) (hc : (c', oc) ∈ ext) (hd : oc.data = .fields vs) (hv : vs[1]? = some (.str qual t))
    (hk : listAt st.ss k = some (rows.map .str)) (ha : fromEnd α.length α k = some a0) (h64 : rows.length < 64) (hrow : ∀ cs ∈ rows, cs.length < 60 ∧ asciiB cs = true)
    (hQ : ∀ D us s', Rel c (D :: α) ext G { st with ss := ⟨st.ss.n + 1, .list (us.map .str) :: st.ss.sto⟩ } s' → s'.os = s.os → SortedPerm us rows → Q (.ref D) s') :
    wpAny (model g.prog g.w) c.A (call (.builtin "sorted") [.ref a0] [(Str.ofString "key", .ref f)]) Q E s := by
  obtain ⟨ws, hL, hws⟩ := R.list ha hk
  have hlen : ws.length = rows.length := by rw [hws.length, List.length_map]
  refine call_function_entry_kw kind_sorted plain_sorted entry_sorted (ksk_s1 _ _) ?_
  unfold Builtin.«sorted»
  refine wpAny_bind (m := checkCount "sorted" 1 1 _) (wpAny_pure ?_)
  refine wpAny_bind (collect_list hL ?_ (by rw [sizeLine_eq]; omega))
  refine wpAny_bind (wpAny_newList ?_ (by rw [sizeLine_eq]; omega))
  have hsz : ((s.heap.push (seqObj "list" #[] 0)).update s.heap.objs.size (Obj.mapSeq (· ++ ws.toArray))).objs.size = s.heap.objs.size + 1 := by
    rw [Heap.size_update, size_push']
  show wpAny _ _ _ _ _ { s with heap := ((s.heap.push (seqObj "list" #[] 0)).update s.heap.objs.size (Obj.mapSeq (· ++ ws.toArray))).push (seqObj "list" ws.toArray 0) }
  rw [hsz]
  generalize hh : ((s.heap.push (seqObj "list" #[] 0)).update s.heap.objs.size (Obj.mapSeq (· ++ ws.toArray))).push (seqObj "list" ws.toArray 0) = h1
  have hoL : h1.get? (s.heap.objs.size + 1) = some (seqObj "list" ws.toArray 0) := by
    rw [← hh, ← hsz]; exact Heap.get?_push_size _ rfl
  have keep : ∀ b o, s.heap.get? b = some o → h1.get? b = some o := fun b o q => by
    have hlt : b < s.heap.objs.size := Heap.lt_size q
    rw [← hh, Heap.get?_push_ne _ _ _ (by rw [hsz]; exact Nat.ne_of_lt (Nat.lt_succ_of_lt hlt)), Heap.get?_update_ne _ _ _ _ (Nat.ne_of_lt hlt), Heap.get?_push_ne _ _ _ (Nat.ne_of_lt hlt)]
    exact q
  have R1 : Rel c α ([(s.heap.objs.size + 1, seqObj "list" ws.toArray 0)] ++ ext) G st { s with heap := h1 } := by
    refine Rel.priv (own := []) (tk := s.toks) R (fun b ob _ e => keep b ob e) (fun p hp => ?_) (by simp) R.pos
    rw [List.mem_singleton.mp hp]
    exact ⟨hoL, .inr (Nat.le_succ _)⟩
  refine wpAny_bind (wpAny_holding (wpAny_call_entry_kw slot_list_sort ⟨_, hoL, rfl⟩ entry_list_sort ?body (ksk_l1 _ _)))
  case body =>
    show wpAny _ _ (Builtin.«list.sort» ⟨[.ref (s.heap.objs.size + 1)], [(Str.ofString "key", .ref f)]⟩) _ _ _
    rw [ksk_t1]
    generalize s.heap.objs.size + 1 = a at hoL R1 ⊢
    let c2 : Cx g Γ := { c with
      A := c.A.in1.in1, lvl := c.lvl - 1
      hdep := by have := c.hdep; show c.A.depth + (c.lvl - 1) < _; omega
      hun := by have := c.hun; show c.A.units + 1 + 1 + 20 * (c.lvl - 1) + 20 < _; omega }
    have s1 := Heap.SameBut.update h1 a (Obj.mapSeq fun _ => (#[] : Array Value))
    obtain ⟨e1, ho1⟩ : ∃ e1, (h1.update a (Obj.mapSeq fun _ => (#[] : Array Value))).get? a = some (seqObj "list" #[] e1) := ⟨_, get?_update_seq hoL fun _ => #[]⟩
    have hkS : ((h1.update a (Obj.mapSeq fun _ => (#[] : Array Value))).push (seqObj "tuple" ws.toArray 0)).objs.size = h1.objs.size + 1 := by rw [size_push', Heap.size_update]
    have ha1 : a < h1.objs.size := Heap.lt_size hoL
    unfold ksk_tree
    refine wpAny_bind (listItems_at hoL rfl ?_)
    refine wpAny_bind (listUpdate_at hoL rfl ?_ (by rw [List.size_toArray, sizeLine_eq]; omega) (Nat.zero_le _))
    refine wpAny_bind (seqEpoch_at ho1 rfl ?_)
    refine wpAny_bind (wpAny_newTuple ?_ (by show ws.length ≤ _; rw [sizeLine_eq]; omega))
    refine wpAny_bind (wpAny_newList ?_ (Nat.zero_le _))
    refine wpAny_holding ?_
    have R2 : Rel c2 α ([(((h1.update a (Obj.mapSeq fun _ => (#[] : Array Value))).push (seqObj "tuple" ws.toArray 0)).objs.size, seqObj "list" #[] 0), (a, seqObj "list" #[] e1)] ++ ext) G st
        { s with heap := ((h1.update a (Obj.mapSeq fun _ => (#[] : Array Value))).push (seqObj "tuple" ws.toArray 0)).push (seqObj "list" #[] 0) } := by
      refine Rel.priv (own := [(a, seqObj "list" ws.toArray 0)]) (c := c2) (s := { s with heap := h1 }) (tk := s.toks) (Rel.cast (c := c) (c2 := c2) rfl rfl rfl rfl rfl R1) (fun b ob hb e => ?_) (fun q hq => ?_) (by rw [hkS]; exact List.nodup_cons.mpr ⟨fun h => by have h : h1.objs.size + 1 = a := List.mem_singleton.mp h; omega, by simp⟩) R.pos
      · exact Heap.get?_push_of_some _ (Heap.get?_push_of_some _ ((s1.2 b (hb (a, _) (.head _))).trans e))
      · rcases List.mem_cons.mp hq with rfl | hq
        · exact ⟨Heap.get?_push_size _ rfl, .inr (by rw [hkS]; exact Nat.le_succ _)⟩
        · rw [List.mem_singleton.mp hq]
          exact ⟨Heap.get?_push_of_some _ (Heap.get?_push_of_some _ ho1), .inl ⟨_, .head _, rfl⟩⟩
    refine rest_ok (c := c2) (p := p) (loose := loose) (mean := mean) (mg := mg) (mb := mb) F (by show 2 ≤ c.lvl - 1; omega) T R2 hf hc hd hv hws h64 hrow fun us s' R3 ho3 hu => ⟨_, rfl, ?_⟩
    exact wpAny_pure ⟨_, rfl, hQ a us s' (Rel.cast (c := c2) (c2 := c) rfl rfl rfl rfl rfl R3) ho3 hu⟩
end
end Mine
end P67
section P68
open PySem PySem.W PyProof.Rows PySem.Calls PySem.Spec
set_option maxHeartbeats 4000000
namespace Mine
theorem range_pick {β : Type} (l : List β) : ∀ j, (List.range j).filterMap (l[·]?) = l.take j
  | 0 => rfl
  | j + 1 => by
    rw [List.range_succ, List.filterMap_append, range_pick l j, List.take_add_one]
    congr 1
theorem slice5 {β : Type} (l : List β) (n : Nat) (hn : n = l.length) : (sliceRange (sliceBounds none (some 5) none n).1 (sliceBounds none (some 5) none n).2.1 (sliceBounds none (some 5) none n).2.2).filterMap (l[·]?) = l.take 5 := by
  have e : sliceRange (sliceBounds none (some 5) none n).1 (sliceBounds none (some 5) none n).2.1 (sliceBounds none (some 5) none n).2.2 = List.range (min 5 n) := by
    show (List.range ((if (1 : Int) > 0 then (if (0 : Int) < max 0 (min 5 (n : Int)) then (max 0 (min 5 (n : Int)) - 0 + 1 - 1) / 1 else 0) else _) : Int).toNat).map _ = _
    rw [if_pos (by decide)]
    have e1 : ((if (0 : Int) < max 0 (min 5 (n : Int)) then (max 0 (min 5 (n : Int)) - 0 + 1 - 1) / 1 else 0) : Int).toNat = min 5 n := by
      split <;> omega
    rw [e1]
    conv => rhs; rw [← List.map_id (List.range (min 5 n))]
    exact List.map_congr_left fun k _ => by show ((0 : Int) + 1 * (k : Int)).toNat = k; omega
  rw [e, range_pick]
  rcases Nat.le_total 5 n with h | h
  · rw [Nat.min_eq_left h]
  · rw [Nat.min_eq_right h, List.take_of_length_le (by omega), List.take_of_length_le (by omega)]
section
variable {g : Gl} {Γ : Sta} {c : Cx g Γ} {α : List Addr} {ext : List (Addr × Obj)} {G : List GenState} {st : PS} {s : Shared}
theorem slice5_ok {x : Expr} {p1 p2 : Pos} {k : Nat} {us : List MV} {wa : Value} {wl wu : Value} {t : Tok} {Q E : Value → Shared → Prop} (R : Rel c α ext G st s) (va : VOK g.q α (.ref k) wa) (ek : listAt st.ss k = some us) (hsm : us.length < 1000000) (hwl : wl = .none) (hwu : wu = .int 5 t)
    (hQ : ∀ w, After c α ext G s { st with ss := ⟨st.ss.n + 1, .list (us.take 5) :: st.ss.sto⟩ } fun α' s' => VOK g.q α' (.ref st.ss.n) w → Q w s') :
    wpAny (model g.prog g.w) c.A (subscriptTail x (.Slice none (some (.Constant (.int 5) 0 p1)) none p2) wa (.ref s.heap.objs.size)) Q E { s with heap := s.heap.push { cls := .type "slice", data := .fields #[wl, wu, .none] } } := by
  obtain ⟨m, led, bl, R3⟩ := R
  have q1 : IsPart wl none := by rw [hwl]; exact .none
  have q2 : IsPart wu (some 5) := by rw [hwu]; exact .int _ t
  obtain ⟨a1, o1, i1, rfl, g1, ⟨ws1, n1, rfl, hv1⟩, _, _⟩ := R3.obj va (listAt_some ek)
  have hlen := hv1.length
  have hl1 := isList_of g1
  have N1 := News.push R3.F R3.N { cls := .type "slice", data := .fields #[wl, wu, .none] }
  have F1 := Fr.push R3.F { cls := .type "slice", data := .fields #[wl, wu, .none] }
  have N0 : News c.h₀ c.L (s.heap.push { cls := .type "slice", data := .fields #[wl, wu, .none] }) (led ++ (bl ++ ext)) := fun p hp => N1 p (List.mem_cons_of_mem _ hp)
  refine tail_any (Heap.IsList.typeIs (s := { s with heap := s.heap.push { cls := .type "slice", data := .fields #[wl, wu, .none] } }) (hl1.push _)) list_getitem_lookup
    (wpAny_getItem_list_slice (hl1.push _) (Heap.IsSliceOf.new ..) q1 q2 .none (by simp) ?_ (by rw [List.size_toArray, sizeLine_eq]; omega)) (ops := [.ref s.heap.objs.size, .ref a1]) rfl
  have hpk := hv1.pick (sliceRange (sliceBounds none (some 5) none us.length).1 (sliceBounds none (some 5) none us.length).2.1 (sliceBounds none (some 5) none us.length).2.2)
  rw [slice5 us us.length rfl, slice5 ws1 us.length hlen.symm] at hpk
  have heq : slicePick ws1.toArray none (some 5) none = (ws1.take 5).toArray := by
    rw [← slice5 ws1 us.length hlen.symm]
    unfold slicePick
    rw [List.size_toArray, hlen]
    simp
  rw [heq]
  have F2 := Fr.push F1 (W.listOf (ws1.take 5).toArray 0)
  have N2 := News.push F1 N0 (W.listOf (ws1.take 5).toArray 0)
  exact made_list R3 F2 N2 (News.below N0) hpk R3.tk hQ
end
end Mine
end P68
section P69
open PySem PySem.W PyProof.Rows PySem.Calls PySem.Spec
set_option maxHeartbeats 4000000
namespace Mine
@[reducible] noncomputable def ΓL : Sta := ⟨[Str.ofString "script", Str.ofString "size", Str.ofString "pairs", Str.ofString "signs", Str.ofString "taken", Str.ofString "chosen", Str.ofString "square", Str.ofString "minors"], [Str.ofString "q", Str.ofString "hidden", Str.ofString "mates"], sc_law⟩
theorem strsClosed {q : Int} {α α' : List Addr} {us : List (List Nat)} : ∀ {ws : List Value}, VsOK q α (us.map .str) ws → VsOK q α' (us.map .str) ws := by
  induction us with
  | nil => intro ws h; cases h; exact .nil
  | cons u us ih => intro ws h; cases h with | cons h r => exact .cons (h.str_el (P := VOK q α' (.str u)) fun _ => rfl) (ih r)
theorem strs_closed {q : Int} {us : List (List Nat)} (α α' : List Addr) (o : Obj) (h : ObjOK q α (.list ((us.map .str).take 5)) o) : ObjOK q α' (.list ((us.take 5).map .str)) o := by
  cases (show LstOK _ _ _ _ from h) with | mk ws n e h =>
  rw [← List.map_take] at h
  exact LstOK.mk ws n e (strsClosed h)
theorem sorted_S {g : Gl} (F : Fk g) {p1 p2 p3 p4 p5 p6 p7 p8 p9 p10 : Pos} {c : Cx g ΓL} (hN : NestCx (Str.ofString "law") 2 c) (hl : 3 ≤ c.lvl) {α : List Addr} {ext : List (Addr × Obj)} {G : List GenState} {st : PS} {s : Shared} {k : Nat} {rows : List (List Nat)} {Q : Flow → Shared → Prop} {E : Value → Shared → Prop}
    (R : Rel c α ext G st s) (htk : st.loc[4]? = some (some (.ref k))) (hk : listAt st.ss k = some (rows.map .str)) (ht : fromEnd st.ss.n st.ss.sto 2 = some (.tab .none)) (h64 : rows.length < 64) (hrow : ∀ cs ∈ rows, cs.length < 60 ∧ asciiB cs = true)
    (hQ : ∀ us α' s', α <:+ α' → SortedPerm us rows → Rel c α' ext G { loc := st.loc.set 5 (some (.ref st.ss.n)), cel := st.cel, ss := ⟨st.ss.n + 1, .list ((us.take 5).map .str) :: setE st.ss.n st.ss.sto 2 .any⟩ } s' → s'.os = s.os → Q .next s') :
    wpAny (model g.prog g.w) c.A (exec (.Assign [.Name (Str.ofString "chosen") p1] (.Subscript (.Call (.Name (Str.ofString "sorted") p2) [.Name (Str.ofString "taken") p3] [⟨some (Str.ofString "key"), .Lambda pa_lam bo_lam sc_lam p4, p5⟩] p6) (.Slice none (some (.Constant (.int 5) 0 p7)) none p8) p9) p10) c.env) Q E s := by
  refine wpAny_Assign_Name ?_ rfl
  refine Subscript_ ?_
  rw [show ∀ env, eval (.Call (.Name (Str.ofString "sorted") p2) [.Name (Str.ofString "taken") p3] [⟨some (Str.ofString "key"), .Lambda pa_lam bo_lam sc_lam p4, p5⟩] p6) env
    = (do callWith p6 (← eval (.Name (Str.ofString "sorted") p2) env) [] (backTo p6 (starEach [.Name (Str.ofString "taken") p3] env)) (backToKw p6 (keywordEach [⟨some (Str.ofString "key"), .Lambda pa_lam bo_lam sc_lam p4, p5⟩] env))) from fun _ => rfl]
  refine wpAny_bind (glob_name R F.sorted (by kernel_rfl) (by kernel_rfl) ?_)
  refine callWith_kw ?_
  have htaken : EvsOK g ΓL 0 [.Name (Str.ofString "taken") p3] (consF (locF 4) nilF) := EvsOK.cons (EvOK.loc rfl (by kernel_rfl) (by kernel_rfl)) EvsOK.nil rfl
  refine htaken c (Nat.zero_le _) α ext G st [.ref k] st s _ E p6 (by unfold consF locF; rw [htk]; rfl) R fun ws α1 s1 hs1 R1 ho1 hv => ?_
  cases hv with | cons hv hv' => cases hv' with | nil =>
  rename_i w
  cases w <;> try exact (show False from hv).elim
  rename_i a0
  refine kws_cons ?_
  obtain ⟨a, cd, P, cl, p, loose, mean, mg, mb, he, C, hP, T⟩ := hN
  obtain ⟨m, led, bl, R1⟩ := R1
  have hP' := fromEnd_mono R1.tb hP
  obtain ⟨P', o, ix, hix, hixe, hled, hα, ho, hget⟩ := R1.old ht
  rw [hP'] at hα; cases hα
  have ho : o = tabObj #[] := ho
  subst ho
  refine kla_eval rfl ?_
  rw [he]
  refine pos_toks R1.tk (kla_nest R1.F R1.N T C rfl (updF_of_nodup R1.nd hled) trivial rfl rfl fun f c' oc vs t ctv h' tk' F' N' hd hv2 lt1 lt2 hpos => ?_)
  rw [← he]
  generalize hlam : kla_obj _ _ _ _ _ _ _ _ _ = lo at N'
  have R2 : Rel c α1 ((f, lo) :: (c', oc) :: ext) G { st with ss := ⟨st.ss.n, setE st.ss.n st.ss.sto 2 .any⟩ } { s1 with heap := h', toks := tk' } := by
    have hperm : (led.set ix (P, tabObj (#[] ++ #[rawInt p4.line, rawInt p4.col, .ref c'])) ++ (bl ++ ((f, lo) :: (c', oc) :: ext))).Perm ((f, lo) :: (c', oc) :: (led.set ix (P, tabObj (#[] ++ #[rawInt p4.line, rawInt p4.col, .ref c'])) ++ (bl ++ ext))) := by
      rw [← List.append_assoc, ← List.append_assoc]
      exact List.perm_middle.trans (List.perm_middle.cons _)
    have hnd : ((led.set ix (P, tabObj (#[] ++ #[rawInt p4.line, rawInt p4.col, .ref c'])) ++ (bl ++ ext)).map (·.1)) = (led ++ (bl ++ ext)).map (·.1) := by
      rw [List.map_append, map_fst_set hled, ← List.map_append]
    refine ⟨m, led.set ix (P, tabObj (#[] ++ #[rawInt p4.line, rawInt p4.col, .ref c'])), bl, F', fun q hq => N' q (hperm.mem_iff.mp hq), (hperm.map (·.1)).nodup_iff.mpr ?_, (map_fst_set hled).trans R1.la, ?_, ?_, R1.bk, R1.ce, R1.ge, R1.ba, R1.tb, hpos⟩
    · show (f :: c' :: ((led.set ix (P, tabObj (#[] ++ #[rawInt p4.line, rawInt p4.col, .ref c'])) ++ (bl ++ ext)).map (·.1))).Nodup
      rw [hnd, List.nodup_cons, List.nodup_cons]
      have nin : ∀ b, c' ≤ b → b ∉ (led ++ (bl ++ ext)).map (·.1) := fun b hb hm => by
        obtain ⟨q, hq, rfl⟩ := List.mem_map.mp hm
        exact absurd (lt1 q hq) (Nat.not_lt.mpr hb)
      refine ⟨fun hm => ?_, nin _ (Nat.le_refl _), R1.nd⟩
      rcases List.mem_cons.mp hm with e | hm
      · exact absurd lt2 (e ▸ Nat.lt_irrefl _)
      · exact nin _ (Nat.le_of_lt lt2) hm
    · unfold setE
      rw [← hixe]
      exact R1.lo.set ⟨_, rfl⟩ fun q hq => by rw [hled] at hq; cases hq; rfl
    · show _ = (setE _ _ _ _).length
      rw [show (setE st.ss.n st.ss.sto 2 MO.any).length = st.ss.sto.length from List.length_set ..]
      exact R1.nn
  refine kws_nil ?_
  have hk2 : listAt ⟨st.ss.n, setE st.ss.n st.ss.sto 2 .any⟩ k = some (rows.map .str) := by
    have h1 := listAt_some hk
    exact listAt_run (fromEnd_other ht h1 fun e => by subst e; rw [ht] at h1; cases h1)
  subst hlam
  refine sort_ok F hl T R2 List.mem_cons_self (.tail _ (.head _)) hd hv2 hk2 hv h64 hrow fun D us s3 R3 ho3 hu => ?_
  have h5 : us.length = rows.length := hu.1.length_eq
  have R3' : Rel c (D :: α1) ext G { st with ss := ⟨st.ss.n + 1, .list (us.map .str) :: setE st.ss.n st.ss.sto 2 .any⟩ } s3 :=
    Rel.drop (own := [(f, _), (c', oc)]) (G := G) (gx := []) (tk := s3.toks) (R3.app) (fun _ _ _ e => e) R3.pos
  refine wpAny_Slice ?_
  refine evalPart_none_step ?_
  refine evalPart_some_step (wpAny_Constant_int ?_)
  refine evalPart_none_step ?_
  have hal : (D :: α1).length = st.ss.n + 1 := by
    obtain ⟨_, led3, _, R4⟩ := R3'
    rw [← R4.la, List.length_map, R4.lo.length]; exact R4.nn.symm
  have hD : VOK g.q (D :: α1) (.ref st.ss.n) (.ref D) := by
    show fromEnd _ _ _ = _
    rw [hal]; exact fromEnd_new _ _ _
  refine slice5_ok (t := s3.toks) (wl := .none) (wu := .int 5 s3.toks) (s := { s3 with toks := s3.toks + 1 }) (R3'.tok (Nat.succ_pos _)) hD (listAt_run (fromEnd_new _ _ _)) (by rw [List.length_map]; omega) rfl rfl fun w α4 s4 hs4 R4 ho4 v4 => ?_
  have hn2 : st.ss.n + 1 = (MO.list ((us.take 5).map .str) :: setE st.ss.n st.ss.sto 2 .any).length := by
    obtain ⟨_, _, _, R4⟩ := R4
    have := R4.nn
    simp only [List.length_cons] at this ⊢
    omega
  obtain ⟨α5, hs5, R5, v5⟩ := Rel.gc (loc := st.loc) (cel := st.cel) (ss := ⟨st.ss.n, setE st.ss.n st.ss.sto 2 .any⟩) (ss2 := ⟨st.ss.n + 1, .list ((us.take 5).map .str) :: setE st.ss.n st.ss.sto 2 .any⟩) (v2 := .ref st.ss.n)
    (gs := [.list ((us.map .str).take 5), .list (us.map .str)]) (kept := [.list ((us.take 5).map .str)]) (old1 := setE st.ss.n st.ss.sto 2 .any) (old2 := setE st.ss.n st.ss.sto 2 .any) (ks := [0])
    (Rel.drop (own := [(f, _), (c', oc)]) (G := G) (gx := []) (tk := tk') (R2.app) (fun _ _ _ e => e) hpos) ((List.suffix_cons D α1).trans hs4) R4
    ⟨rfl, rfl, rfl, rfl, hn2, by decide, rfl, .cons rfl strs_closed .nil, OcOK.same, .ref (st.ss.n + 1) st.ss.n 0 0 rfl rfl rfl rfl rfl⟩ v4
  refine R5.store (i := 5) (x := Str.ofString "chosen") (v := .ref st.ss.n) rfl (by decide +kernel) (by kernel_rfl) v5 fun s6 R6 ho6 => ?_
  exact hQ us α5 s6 (hs1.trans hs5) hu R6 (ho6.trans (ho4.trans (ho3.trans ho1)))
end Mine
end P69
section P70
open PySem PySem.W PyProof.Rows PySem.Calls PySem.Spec
set_option maxHeartbeats 4000000
namespace Mine
noncomputable def outs : Nat → List (List Nat) → List (List (List Nat))
  | 0, _ => [[]]
  | n + 1, l => match l with
    | [] => [[]]
    | a :: t => ((a :: t).filter fun r => (a :: t).all fun x => Z.leB (keyI r) (keyI x)).flatMap fun r => (outs n ((a :: t).erase r)).map (r :: ·)
theorem mem_outs : ∀ (n : Nat) (us rows : List (List Nat)), us.Perm rows → (us.Pairwise fun a b => keyI a ≤ keyI b) → us.take n ∈ outs n rows
  | 0, us, rows, _, _ => by simp [outs]
  | n + 1, [], rows, h, _ => by rw [h.symm.eq_nil]; simp [outs]
  | n + 1, r :: t, rows, h, hs => by
    cases rows with
    | nil => exact absurd h.length_eq (by simp)
    | cons a l =>
      obtain ⟨h1, h2⟩ := List.cons_perm_iff_perm_erase.mp h
      rw [List.pairwise_cons] at hs
      unfold outs
      rw [List.mem_flatMap]
      refine ⟨r, List.mem_filter.mpr ⟨h1, List.all_eq_true.mpr fun x hx => (Z.leB_iff _ _).mpr ?_⟩, List.mem_map.mpr ⟨t.take n, mem_outs n t _ h2 hs.2, rfl⟩⟩
      rcases List.mem_cons.mp (h.mem_iff.mpr hx) with rfl | hx
      · exact Int.le_refl _
      · exact hs.1 x hx
@[reducible] noncomputable def bo_rest : List Stmt := Subtype.val (p := fun x => x = bo_law.drop 3) (by apply Subtype.mk; conv => rhs; whnf; rfl)
end Mine
end P70
set_option hygiene false in
local macro_rules | `(tactic| wtm_at "mine call") => `(tactic| first
  | with_reducible refine' EvOK.fnV F.taken (taken_ok F) (by (decide +kernel)) (by ((intros; kernel_rfl))) (by ((intros; kernel_rfl))) ?_ (by ((intros; kernel_rfl)))
  | with_reducible refine' EvOK.fnV F.mates (mates_ok F) (by (decide +kernel)) (by ((intros; kernel_rfl))) (by ((intros; kernel_rfl))) ?_ (by ((intros; kernel_rfl)))
  | with_reducible refine' EvOK.fnV F.minors (minors_ok F Fs) (by (decide +kernel)) (by ((intros; kernel_rfl))) (by ((intros; kernel_rfl))) ?_ (by ((intros; kernel_rfl)))
  | with_reducible refine' EvOK.fnV F.byh (byh_ok F Fs) (by (decide +kernel)) (by ((intros; kernel_rfl))) (by ((intros; kernel_rfl))) ?_ (by ((intros; kernel_rfl))))
section P70
open PySem PySem.W PyProof.Rows PySem.Calls PySem.Spec
set_option maxHeartbeats 4000000
namespace Mine
noncomputable def s2X : { f : PS → Option (FL × PS) // ∀ (g : Gl) (F : Fk g), ExOK g ΓL 18 (nthS bo_law 1) f } := by
  apply Subtype.mk
  intro g F
  refine' (?_ : ExOK g ΓL 18 (Subtype.val (p := fun x => x = nthS bo_law 1) (by apply Subtype.mk; conv => rhs; whnf; rfl)) _)
  repeat' wtm_at "mine step"
noncomputable def restX : { f : PS → Option (FL × PS) // ∀ (g : Gl) (F : Fk g) (Fs : Fn g F), ExsOK g ΓL 18 bo_rest f } := by
  apply Subtype.mk
  intro g F Fs
  refine' ExsOK.cons ?_ ?_
  · (refine' ExOK.asgC ?_ (by (first | with_reducible exact ix0 | with_reducible exact ix1 | with_reducible exact ix2 | with_reducible exact ix3 | with_reducible exact ix4 | with_reducible exact ix5 | with_reducible exact ix6 | with_reducible exact ix7 | with_reducible exact ix8 | with_reducible exact ix9 | with_reducible exact ix10 | with_reducible exact ix11 | fail)) (by ((intros; kernel_rfl))) (fun env h => by simp only [swapsWith]; rw [h, show (some NameKind.cell == some NameKind.local) = false from rfl, Bool.and_false, Bool.false_and, Bool.false_and]))
    (refine' EvOK.comp (onm := none) (ln := [Str.ofString "row"]) (fn := [Str.ofString "hidden"]) (mp := [1]) 100 (by (exact ⟨rfl, by decide +kernel, by decide +kernel, rfl, ⟨fun _ => rfl, fun _ _ => rfl⟩, (by intro x h; cases h <;> decide +kernel), by decide +kernel⟩)) ?_ (fun _ _ => rfl) (turn1 _ _ _ _ _ _) ?_ ?_ <;> ((try dsimp only [subSta, Option.toList, List.nil_append, List.cons_append])))
    repeat' wtm_at "mine step"
  refine' ExsOK.cons ?_ ?_
  · (refine' ExOK.asgComp (onm := (some (Str.ofString "k"))) (ln := []) (fn := [Str.ofString "mates", Str.ofString "q"]) (mp := [2, 0]) 100 (by (exact ⟨rfl, by decide +kernel, by decide +kernel, rfl, ⟨fun _ => rfl, fun _ _ => rfl⟩, (by intro x h; cases h <;> decide +kernel), by decide +kernel⟩)) ?_ (fun _ _ => rfl) (turn1 _ _ _ _ _ _) ?_ ?_ (by (first | with_reducible exact ix0 | with_reducible exact ix1 | with_reducible exact ix2 | with_reducible exact ix3 | with_reducible exact ix4 | with_reducible exact ix5 | with_reducible exact ix6 | with_reducible exact ix7 | with_reducible exact ix8 | with_reducible exact ix9 | with_reducible exact ix10 | with_reducible exact ix11 | fail)) (by (decide +kernel)) (by ((intros; kernel_rfl))) (fun env h => by cases env; cases h; rfl) <;> ((try dsimp only [subSta, Option.toList, List.nil_append, List.cons_append])))
    repeat' first
      | (refine' EvOK.comp (onm := none) (ln := [Str.ofString "below"]) (fn := [Str.ofString "k", Str.ofString "mates", Str.ofString "q"]) (mp := [0, 1, 2]) 100 (by (exact ⟨rfl, by decide +kernel, by decide +kernel, rfl, ⟨fun _ => rfl, fun _ _ => rfl⟩, (by intro x h; cases h <;> decide +kernel), by decide +kernel⟩)) ?_ (fun _ _ => rfl) (turn1 _ _ _ _ _ _) ?_ ?_ <;> ((try dsimp only [subSta, Option.toList, List.nil_append, List.cons_append])))
      | wtm_at "mine step"
  repeat' wtm_at "mine step"
end Mine
end P70
section P71
open PySem PySem.W PyProof.Rows PySem.Calls PySem.Spec
set_option maxHeartbeats 4000000
namespace Mine
/-- a block goes on with a part of what it has -/
structure Re (q : Int) (nt : Nat) (loc : List (Option MV)) (cel : List Nat) (ss : SS) (loc2 : List (Option MV)) (gs kept old1 old2 : List MO) (ks : List Nat) : Prop where
  e1 : ss.sto = gs ++ old1
  l2 : old2.length = old1.length
  kn : ks.Nodup
  kb : ∀ k ∈ ks, k < gs.length
  kl : ks.length = kept.length
  K : ∀ (j : Nat) (mo2 : MO), kept[j]? = some mo2 → ∃ (k : Nat) (mo1 : MO), ks[j]? = some k ∧ gs[k]? = some mo1 ∧ ∀ α α' o, ObjOK q α mo1 o → ObjOK q α' mo2 o
  O : ∀ (j : Nat) (mo2 : MO), old2[j]? = some mo2 → ∃ mo1, old1[j]? = some mo1 ∧ ∀ α α' o, ObjOK q α mo1 o → ObjOK q α' mo2 o
  C : ∀ k ∈ cel, k < old1.length
  T : nt ≤ old1.length
  V : ∀ (i : Nat) (v2 : MV), loc2[i]? = some (some v2) → ∃ v1, loc[i]? = some (some v1) ∧ ((∀ α α' w, VOK q α v1 w → VOK q α' v2 w) ∨
    ∃ (c1 c2 jj kk : Nat), v1 = .ref c1 ∧ v2 = .ref c2 ∧ ks[jj]? = some kk ∧ c1 + kk + 1 = ss.n ∧ c2 + jj + 1 = kept.length + old1.length)
theorem Rel.restart {g : Gl} {Γ : Sta} {c : Cx g Γ} {α : List Addr} {ext : List (Addr × Obj)} {G : List GenState} {loc loc2 : List (Option MV)} {cel : List Nat} {ss : SS} {s : Shared} {gs kept old1 old2 : List MO} {ks : List Nat}
    (R : Rel c α ext G ⟨loc, cel, ss⟩ s) (x : Re g.q g.tabs.length loc cel ss loc2 gs kept old1 old2 ks) : ∃ α2, Rel c α2 ext G ⟨loc2, cel, ⟨kept.length + old2.length, kept ++ old2⟩⟩ s := by
  obtain ⟨m, led, bl, R⟩ := R
  have hn : ss.n = ss.sto.length := R.nn
  have hll : led.length = ss.sto.length := R.lo.length
  have hal : α.length = ss.sto.length := by rw [← R.la, List.length_map, R.lo.length]
  have hg : ss.sto.length = gs.length + old1.length := by rw [x.e1, List.length_append]
  let p0 : Addr × Obj := (0, tabObj #[])
  let ledk := ks.map fun k => (led[k]?).getD p0
  let led2 := ledk ++ led.drop gs.length
  have hkl : ∀ k ∈ ks, k < led.length := fun k hk => by have := x.kb k hk; omega
  have hmem : ∀ p ∈ led2, p ∈ led := fun p hp => by
    rcases List.mem_append.mp hp with hp | hp
    · obtain ⟨k, hk, rfl⟩ := List.mem_map.mp hp
      rw [List.getElem?_eq_getElem (hkl k hk)]
      exact List.getElem_mem _
    · exact List.mem_of_mem_drop hp
  have hk1 : ledk.map (·.1) = ks.map fun k => ((led.map (·.1))[k]?).getD 0 := by
    show List.map _ (List.map _ _) = _
    rw [List.map_map]
    refine List.map_congr_left fun k hk => ?_
    simp only [Function.comp, List.getElem?_map]
    rw [List.getElem?_eq_getElem (hkl k hk)]
    rfl
  have nd1 := R.nd
  rw [List.map_append, List.nodup_append] at nd1
  obtain ⟨ndA, ndR, ndD⟩ := nd1
  have hlk : ledk.length = kept.length := by show (List.map _ ks).length = _; rw [List.length_map, x.kl]
  have hl2 : led2.length = kept.length + old1.length := by
    show (ledk ++ led.drop gs.length).length = _
    rw [List.length_append, List.length_drop, hlk]; omega
  have hdl : (α.drop gs.length).length = old1.length := by rw [List.length_drop]; omega
  have hs2 : α.drop gs.length <:+ led2.map (·.1) := by
    show _ <:+ (ledk ++ led.drop gs.length).map (·.1)
    rw [List.map_append, List.map_drop, R.la]; exact List.suffix_append _ _
  have hs1 : α.drop gs.length <:+ α := List.drop_suffix _ _
  have low : ∀ {k : Nat} {a : Addr}, k < old1.length → fromEnd α.length α k = some a → fromEnd (led2.map (·.1)).length (led2.map (·.1)) k = some a := by
    intro k a hk h
    refine fromEnd_mono hs2 ?_
    have h1 := fromEnd_at (j := α.length - 1 - k) h (by omega)
    refine fromEnd_of (j := old1.length - 1 - k) ?_ (by rw [hdl]; omega)
    rw [List.getElem?_drop, ← h1]; congr 1; omega
  have atk : ∀ {jj kk c1 c2 : Nat} {a : Addr}, ks[jj]? = some kk → c1 + kk + 1 = ss.n → c2 + jj + 1 = kept.length + old1.length → fromEnd α.length α c1 = some a → fromEnd (led2.map (·.1)).length (led2.map (·.1)) c2 = some a := by
    intro jj kk c1 c2 a h1 h2 h3 h4
    have h5 := fromEnd_at (j := kk) h4 (by omega)
    refine fromEnd_of (j := jj) ?_ (by rw [List.length_map, hl2]; exact h3)
    have hjj : jj < ks.length := (List.getElem?_eq_some_iff.mp h1).1
    show ((ledk ++ led.drop gs.length).map (·.1))[jj]? = _
    rw [List.map_append, List.getElem?_append_left (by rw [List.length_map, hlk, ← x.kl]; exact hjj), hk1, List.getElem?_map, h1]
    simp only [Option.map_some]
    rw [R.la, h5]
    rfl
  have hloc : ∀ (m' : Str → Option Value), LocOK g.q α Γ.names m' loc → LocOK g.q (led2.map (·.1)) Γ.names m' loc2 := by
    intro m' h i y v2 e1 e2
    obtain ⟨v1, h1, h2⟩ := x.V i v2 e2
    obtain ⟨w, h3, h4⟩ := h i y v1 e1 h1
    refine ⟨w, h3, ?_⟩
    rcases h2 with h2 | ⟨c1, c2, jj, kk, rfl, rfl, h5, h6, h7⟩
    · exact h2 _ _ _ h4
    · cases w <;> try exact (show False from h4).elim
      exact atk h5 h6 h7 h4
  refine ⟨led2.map (·.1), m, led2, bl, R.F, fun p hp => R.N p ?_, ?_, rfl, ?_, ?_, ?_, ?_, R.ge, R.ba, ?_, R.tk⟩
  · rcases List.mem_append.mp hp with hp | hp
    · exact List.mem_append_left _ (hmem p hp)
    · exact List.mem_append_right _ hp
  · show ((ledk ++ led.drop gs.length ++ (bl ++ ext)).map (·.1)).Nodup
    rw [List.map_append, List.nodup_append]
    refine ⟨?_, ndR, fun a ha b hb => ?_⟩
    · rw [List.map_append, List.nodup_append]
      refine ⟨?_, ?_, fun a ha b hb e => ?_⟩
      · rw [hk1]
        exact nodup_pick ndA x.kn fun k hk => by rw [List.length_map]; exact hkl k hk
      · rw [List.map_drop]
        exact ndA.sublist (List.drop_sublist _ _)
      · subst e
        rw [hk1] at ha
        obtain ⟨k, hk, rfl⟩ := List.mem_map.mp ha
        have hk' : k < (led.map (·.1)).length := by rw [List.length_map]; exact hkl k hk
        rw [List.getElem?_eq_getElem hk', Option.getD_some, List.map_drop] at hb
        obtain ⟨j, hj, e⟩ := List.mem_iff_getElem.mp hb
        rw [List.getElem_drop] at e
        have := nodup_inj ndA _ hk' e
        have := x.kb k hk
        omega
    · obtain ⟨p, hp, rfl⟩ := List.mem_map.mp ha
      exact ndD _ (List.mem_map_of_mem (hmem p hp)) b hb
  · refine OsOK.of (by show led2.length = (kept ++ old2).length; rw [hl2, List.length_append, x.l2]) fun j mo2 hj => ?_
    have hj : (kept ++ old2)[j]? = some mo2 := hj
    by_cases hjk : j < kept.length
    · rw [List.getElem?_append_left hjk] at hj
      obtain ⟨k, mo1, h1, h2, h3⟩ := x.K j mo2 hj
      have h2' : ss.sto[k]? = some mo1 := by rw [x.e1, List.getElem?_append_left (List.getElem?_eq_some_iff.mp h2).1]; exact h2
      obtain ⟨a, o, h4, h5⟩ := R.lo.get h2'
      refine ⟨a, o, ?_, h3 _ _ _ h5⟩
      show (ledk ++ led.drop gs.length)[j]? = _
      rw [List.getElem?_append_left (by omega)]
      show (List.map _ ks)[j]? = _
      rw [List.getElem?_map, h1]
      simp only [Option.map_some]
      rw [h4]
      rfl
    · rw [List.getElem?_append_right (by omega)] at hj
      obtain ⟨mo1, h1, h2⟩ := x.O _ _ hj
      have hst : ss.sto[gs.length + (j - kept.length)]? = some mo1 := by
        rw [x.e1, List.getElem?_append_right (by omega), Nat.add_sub_cancel_left]; exact h1
      obtain ⟨a, o, h4, h5⟩ := R.lo.get hst
      refine ⟨a, o, ?_, h2 _ _ _ h5⟩
      show (ledk ++ led.drop gs.length)[j]? = _
      rw [List.getElem?_append_right (by omega), List.getElem?_drop, hlk]
      exact h4
  · show kept.length + old2.length = (kept ++ old2).length
    rw [List.length_append]
  · have hb := R.bk
    unfold BlkOK at *
    split
    · rename_i e
      rw [e] at hb
      exact ⟨hb.1, hloc _ hb.2⟩
    · rename_i a e
      rw [e] at hb
      obtain ⟨e0, o, es, ep, m', e1, e2, e3, e4, e5⟩ := hb
      exact ⟨e0, o, es, ep, m', e1, e2, e3, e4, hloc _ e5⟩
  · intro i y k e1 e2
    obtain ⟨a, h1, h2⟩ := R.ce i y k e1 e2
    exact ⟨a, h1, low (x.C k (List.mem_of_getElem? e2)) h2⟩
  · refine List.IsSuffix.trans ?_ hs2
    exact List.suffix_of_suffix_length_le R.tb hs1 (by rw [hdl]; exact x.T)
end Mine
end P71
section P72
open PySem PySem.W PyProof.Rows PySem.Calls PySem.Spec
set_option maxHeartbeats 4000000
namespace Mine
noncomputable def base6 (hd : List Nat) (t2 : MO) : List MO := [.cell none, .cell (some (.str hd)), .cell (some (.int (.p [0, 1]))), t2, .tab none, .tab none]
noncomputable def stA (sz pr : Int) (hd sg : List Nat) : PS := ⟨[none, some (iC sz), some (iC pr), some (.str sg), none, none, none, none], [3, 4, 5], ⟨6, base6 hd (.tab none)⟩⟩
noncomputable def stT (rows : List (List Nat)) (hd : List Nat) : PS := ⟨[none, none, none, none, some (.ref 6), none, none, none], [3, 4, 5], ⟨7, .list (rows.map .str) :: base6 hd (.tab none)⟩⟩
noncomputable def stC (us : List (List Nat)) (hd : List Nat) : PS := ⟨[none, none, none, none, none, some (.ref 6), none, none], [3, 4, 5], ⟨7, .list (us.map .str) :: base6 hd .any⟩⟩
noncomputable def rowsIn : List MV → Option (List (List Nat))
  | [] => some []
  | .str s :: vs => match rowsIn vs with
    | none => none
    | some r => some (s :: r)
  | _ :: _ => none
theorem rowsIn_some : ∀ {vs : List MV} {r : List (List Nat)}, rowsIn vs = some r → vs = r.map .str
  | [], r, h => by cases h; rfl
  | .str s :: vs, r, h => by
    unfold rowsIn at h
    split at h
    · cases h
    · rename_i r' h'
      cases h
      rw [rowsIn_some h']; rfl
  | .none :: _, _, h => by cases h
  | .bool _ :: _, _, h => by cases h
  | .int _ :: _, _, h => by cases h
  | .ref _ :: _, _, h => by cases h
  | .old _ :: _, _, h => by cases h
noncomputable def isC0 : MO → Bool
  | .cell none => true
  | _ => false
noncomputable def isT0 : MO → Bool
  | .tab none => true
  | _ => false
noncomputable def isCS (hd : List Nat) : MO → Bool
  | .cell (some v) => isS hd v
  | _ => false
where isS (hd : List Nat) : MV → Bool
  | .str h => beqN h hd
  | _ => false
noncomputable def isPQ : List Int → Bool
  | [] => false
  | a :: l => match l with
    | [] => false
    | b :: l => match l with
      | [] => Z.eqB a 0 && Z.eqB b 1
      | _ :: _ => false
noncomputable def isXQ : IX → Bool
  | .p l => isPQ l
  | _ => false
noncomputable def isVQ : MV → Bool
  | .int x => isXQ x
  | _ => false
noncomputable def isCQ : MO → Bool
  | .cell (some v) => isVQ v
  | _ => false
theorem isC0_eq {x : MO} (h : isC0 x = true) : x = .cell none := by
  cases x with
  | cell v => cases v with
    | none => rfl
    | some _ => exact ff h
  | _ => exact ff h
theorem isT0_eq {x : MO} (h : isT0 x = true) : x = .tab none := by
  cases x with
  | tab v => cases v with
    | none => rfl
    | some _ => exact ff h
  | _ => exact ff h
theorem isCS_eq {hd : List Nat} {x : MO} (h : isCS hd x = true) : x = .cell (some (.str hd)) := by
  cases x with
  | cell v => cases v with
    | none => exact ff h
    | some v => cases v with
      | str y => exact congrArg (fun y => MO.cell (some (MV.str y))) (beqN_iff.mp h)
      | _ => exact ff h
  | _ => exact ff h
theorem isPQ_eq {l : List Int} (h : isPQ l = true) : l = [0, 1] := by
  cases l with
  | nil => exact ff h
  | cons a l => cases l with
    | nil => exact ff h
    | cons b l => cases l with
      | nil =>
        have h := Bool.and_eq_true_iff.mp h
        rw [(Z.eqB_iff _ _).mp h.1, (Z.eqB_iff _ _).mp h.2]
      | cons _ _ => exact ff h
theorem isCQ_eq {x : MO} (h : isCQ x = true) : x = .cell (some (.int (.p [0, 1]))) := by
  cases x with
  | cell v => cases v with
    | none => exact ff h
    | some v => cases v with
      | int y => cases y with
        | p l => exact congrArg (fun y => MO.cell (some (MV.int (.p y)))) (isPQ_eq h)
        | _ => exact ff h
      | _ => exact ff h
  | _ => exact ff h
noncomputable def isBase (hd : List Nat) (l : List MO) : Bool := match l with
  | [] => false
  | a :: l => match l with
    | [] => false
    | b :: l => match l with
      | [] => false
      | c :: l => isC0 a && (isCS hd b && (isCQ c && isT3 l))
where isT3 : List MO → Bool
  | [] => false
  | a :: l => match l with
    | [] => false
    | b :: l => match l with
      | [] => false
      | c :: l => match l with
        | [] => isT0 a && (isT0 b && isT0 c)
        | _ :: _ => false
theorem isT3_eq {l : List MO} (h : isBase.isT3 l = true) : l = [.tab none, .tab none, .tab none] := by
  cases l with
  | nil => exact ff h
  | cons a l => cases l with
    | nil => exact ff h
    | cons b l => cases l with
      | nil => exact ff h
      | cons c l => cases l with
        | nil =>
          have h := Bool.and_eq_true_iff.mp h
          have h2 := Bool.and_eq_true_iff.mp h.2
          rw [isT0_eq h.1, isT0_eq h2.1, isT0_eq h2.2]
        | cons _ _ => exact ff h
theorem isBase_eq {hd : List Nat} {l : List MO} (h : isBase hd l = true) : l = base6 hd (.tab none) := by
  cases l with
  | nil => exact ff h
  | cons a l => cases l with
    | nil => exact ff h
    | cons b l => cases l with
      | nil => exact ff h
      | cons c l =>
        have h := Bool.and_eq_true_iff.mp h
        have h2 := Bool.and_eq_true_iff.mp h.2
        have h3 := Bool.and_eq_true_iff.mp h2.2
        rw [isC0_eq h.1, isCS_eq h2.1, isCQ_eq h3.1, isT3_eq h3.2]; rfl
noncomputable def is345 (l : List Nat) : Bool := beqN l [3, 4, 5]
theorem is345_eq {l : List Nat} (h : is345 l = true) : l = [3, 4, 5] := beqN_iff.mp h
noncomputable def chk2 (hd : List Nat) (st : PS) : Option (List (List Nat)) := match st.loc[4]? with
  | some (some (MV.ref k)) => (match fromEnd st.ss.n st.ss.sto k with
    | some (.list vs) => (match rowsIn vs with
      | some rows => (match isBase hd (st.ss.sto.drop (st.ss.sto.length - 6)), is345 st.cel, Nat.blt 5 k with
        | true, true, true => some rows
        | _, _, _ => none)
      | none => none)
    | _ => none)
  | _ => none
theorem closedS {q : Int} {α α' : List Addr} : ∀ {us : List (List Nat)} {ws : List Value}, VsOK q α (us.map .str) ws → VsOK q α' (us.map .str) ws
  | [], _, .nil => .nil
  | u :: us, _, .cons h r => .cons (by rename_i w _; cases w <;> exact h) (closedS r)
theorem closedSL {q : Int} {us : List (List Nat)} (α α' : List Addr) (o : Obj) (h : ObjOK q α (.list (us.map .str)) o) : ObjOK q α' (.list (us.map .str)) o :=
  let ⟨ws, n, e, h⟩ := h; ⟨ws, n, e, closedS h⟩
theorem closedB {q : Int} {hd : List Nat} {t2 : MO} (ht : ∀ α α' o, ObjOK q α t2 o → ObjOK q α' t2 o) (j : Nat) (mo : MO) (h : (base6 hd t2)[j]? = some mo) : ∀ α α' o, ObjOK q α mo o → ObjOK q α' mo o := by
  match j with
  | 0 => cases h; exact fun _ _ _ h => h
  | 1 =>
    cases h
    rintro α α' o ⟨w, e, h⟩
    exact ⟨w, e, by cases w <;> exact h⟩
  | 2 =>
    cases h
    rintro α α' o ⟨w, e, h⟩
    exact ⟨w, e, by cases w <;> exact h⟩
  | 3 => cases h; exact ht
  | 4 => cases h; exact fun _ _ _ h => h
  | 5 => cases h; exact fun _ _ _ h => h
  | j + 6 => cases h
section
variable {g : Gl} {c : Cx g ΓL} {α : List Addr} {ext : List (Addr × Obj)} {G : List GenState} {s : Shared}
theorem chk2_ok (ht : g.tabs.length ≤ 6) {hd : List Nat} {st : PS} {rows : List (List Nat)} (h : chk2 hd st = some rows) (R : Rel c α ext G st s) : ∃ α2, Rel c α2 ext G (stT rows hd) s := by
  unfold chk2 at h
  split at h
  case h_2 => cases h
  rename_i k hk
  split at h
  case h_2 => cases h
  rename_i vs hv
  split at h
  case h_2 => cases h
  rename_i rows' hr
  split at h
  case h_2 => cases h
  rename_i h1 h2 h3
  cases h
  have hb := isBase_eq h1
  have hc := is345_eq h2
  obtain rfl := rowsIn_some hr
  have h5 : 5 < k := Z.blt_iff.mp h3
  have hlt := fromEnd_lt hv
  have hn : st.ss.n = st.ss.sto.length := let ⟨_, _, _, R⟩ := R; R.nn
  have h6 : (st.ss.sto.drop (st.ss.sto.length - 6)).length = 6 := by rw [hb]; rfl
  have hge : 6 ≤ st.ss.sto.length := by rw [List.length_drop] at h6; omega
  rw [hn] at hv
  have hat := fromEnd_at (j := st.ss.sto.length - 1 - k) hv (by omega)
  obtain ⟨α2, R2⟩ := Rel.restart (loc := st.loc) (cel := st.cel) (loc2 := (stT rows hd).loc) (gs := st.ss.sto.take (st.ss.sto.length - 6)) (kept := [.list (rows.map .str)]) (old1 := st.ss.sto.drop (st.ss.sto.length - 6)) (old2 := base6 hd (.tab none)) (ks := [st.ss.sto.length - 1 - k]) R (by
    refine ⟨(List.take_append_drop _ _).symm, h6.symm, by simp, ?_, rfl, ?_, ?_, ?_, ?_, ?_⟩
    · intro k' hk'
      rw [List.mem_singleton.mp hk', List.length_take]; omega
    · intro j mo2 hj
      match j with
      | 0 =>
        cases hj
        refine ⟨_, _, rfl, ?_, closedSL⟩
        rw [List.getElem?_take_of_lt (by omega)]
        exact hat
      | j + 1 => cases hj
    · exact fun j mo2 hj => ⟨mo2, by rw [hb]; exact hj, closedB (q := g.q) (hd := hd) (t2 := .tab none) (fun _ _ _ h => h) j mo2 hj⟩
    · intro k' hk'
      rw [hc] at hk'; rw [h6]; simp at hk'; omega
    · rw [h6]; exact ht
    · intro i v2 hv2
      match i with
      | 4 =>
        cases hv2
        exact ⟨_, hk, .inr ⟨k, 6, 0, st.ss.sto.length - 1 - k, rfl, rfl, rfl, by rw [hn]; omega, by rw [h6]; rfl⟩⟩
      | 0 => cases hv2
      | 1 => cases hv2
      | 2 => cases hv2
      | 3 => cases hv2
      | 5 => cases hv2
      | 6 => cases hv2
      | 7 => cases hv2
      | i + 8 => cases hv2)
  rw [hc] at R2
  exact ⟨α2, R2⟩
theorem sorted_end (ht : g.tabs.length ≤ 6) {us rows : List (List Nat)} {hd : List Nat} (R : Rel c α ext G { loc := (stT rows hd).loc.set 5 (some (.ref (stT rows hd).ss.n)), cel := (stT rows hd).cel, ss := ⟨(stT rows hd).ss.n + 1, .list (us.map .str) :: setE (stT rows hd).ss.n (stT rows hd).ss.sto 2 .any⟩ } s) :
    ∃ α2, Rel c α2 ext G (stC us hd) s :=
  Rel.restart (loc2 := (stC us hd).loc) (gs := [.list (us.map .str), .list (rows.map .str)]) (kept := [.list (us.map .str)]) (old1 := base6 hd .any) (old2 := base6 hd .any) (ks := [0]) R (by
    refine ⟨rfl, rfl, by simp, ?_, rfl, ?_, ?_, ?_, ht, ?_⟩
    · intro k' hk'
      rw [List.mem_singleton.mp hk']; exact Nat.succ_pos _
    · intro j mo2 hj
      match j with
      | 0 => cases hj; exact ⟨0, _, rfl, rfl, closedSL⟩
      | j + 1 => cases hj
    · exact fun j mo2 hj => ⟨mo2, hj, closedB (q := g.q) (hd := hd) (t2 := .any) (fun _ _ _ h => h) j mo2 hj⟩
    · intro k' hk'
      have hk' : k' ∈ [3, 4, 5] := hk'
      show k' < 6
      simp at hk'; omega
    · intro i v2 hv2
      match i with
      | 5 =>
        cases hv2
        exact ⟨_, rfl, .inr ⟨7, 6, 0, 0, rfl, rfl, rfl, rfl, rfl⟩⟩
      | 0 => cases hv2
      | 1 => cases hv2
      | 2 => cases hv2
      | 3 => cases hv2
      | 4 => cases hv2
      | 6 => cases hv2
      | 7 => cases hv2
      | i + 8 => cases hv2)
end
noncomputable def rowsOK (rows : List (List Nat)) : Bool := Nat.blt rows.length 64 && rows.all fun cs => Nat.blt cs.length 60 && asciiB cs
noncomputable def tabs3 : List MO → Bool
  | [.any, .tab _, .tab _] => true
  | _ => false
noncomputable def restOK (hd : List Nat) (us : List (List Nat)) : Bool := match restX.1 (stC us hd) with
  | some (.ret (.bool true), st) => tabs3 (st.ss.sto.drop (st.ss.sto.length - 3))
  | _ => false
/-- the rows that are taken, in the orders that the sort may lay them -/
noncomputable def menuOK (L : List (List (List Nat))) (sz pr : Int) (hd sg : List Nat) : Bool := match s2X.1 (stA sz pr hd sg) with
  | some (.next, st) => (match chk2 hd st with
    | some rows => rowsOK rows && (outs 5 rows).all fun us => decide (us ∈ L)
    | none => false)
  | _ => false
theorem tail_ok {g : Gl} (F : Fk g) (Fs : Fn g F) {c : Cx g ΓL} (hN : NestCx (Str.ofString "law") 2 c) (hl : 18 ≤ c.lvl) (ht : g.tabs.length ≤ 6) {L : List (List (List Nat))} {sz pr : Int} {hd sg : List Nat} (hm : menuOK L sz pr hd sg = true) (hr : ∀ us ∈ L, restOK hd us = true)
    {α : List Addr} {ext : List (Addr × Obj)} {G : List GenState} {s : Shared} {Q : Flow → Shared → Prop} {E : Value → Shared → Prop} (R : Rel c α ext G (stA sz pr hd sg) s)
    (hQ : ∀ α' st' s', Rel c α' ext G st' s' → tabs3 (st'.ss.sto.drop (st'.ss.sto.length - 3)) = true → s'.os = s.os → Q (.ret (.bool true)) s') : wpAny (model g.prog g.w) c.A (execs (bo_law.drop 1) c.env) Q E s := by
  show wpAny _ _ (execs (nthS bo_law 1 :: nthS bo_law 2 :: bo_rest) c.env) Q E s
  unfold menuOK at hm
  split at hm
  case h_2 => cases hm
  rename_i st2 e2
  split at hm
  case h_2 => cases hm
  rename_i rows e3
  rw [Bool.and_eq_true] at hm
  obtain ⟨hro, hou⟩ := hm
  unfold rowsOK at hro
  rw [Bool.and_eq_true, List.all_eq_true] at hro
  refine wpAny_execs_cons (s2X.2 g F c hl α ext G _ .next st2 s _ E e2 R fun w α1 s1 hs1 R1 ho1 va => ?_)
  cases w <;> try exact (show False from va).elim
  obtain ⟨α2, R2⟩ := chk2_ok ht e3 R1
  refine wpAny_execs_cons (sorted_S F hN (by omega) R2 rfl (listAt_run (fromEnd_new _ _ _)) rfl (Z.blt_iff.mp hro.1) (fun cs hcs => ?_) fun us α3 s3 hs3 hu R3 ho3 => ?_)
  · have := hro.2 cs hcs
    rw [Bool.and_eq_true] at this
    exact ⟨Z.blt_iff.mp this.1, this.2⟩
  obtain ⟨α4, R4⟩ := sorted_end ht R3
  have hin := of_decide_eq_true (List.all_eq_true.mp hou _ (mem_outs 5 us rows hu.1 hu.2))
  have hre := hr _ hin
  unfold restOK at hre
  split at hre
  case h_2 => cases hre
  rename_i st5 e5
  refine restX.2 g F Fs c hl α4 ext G _ _ st5 s3 Q E e5 R4 fun w α5 s5 hs5 R5 ho5 va => ?_
  cases w <;> try exact (show False from va).elim
  rename_i w
  cases w <;> try exact (show False from va).elim
  obtain rfl := (show true = _ from va)
  exact hQ α5 st5 s5 R5 hre (ho5.trans (ho3.trans ho1))
end Mine
end P72
section P75
open PySem PySem.W PyProof.Rows PySem.Calls PySem.Spec
set_option maxHeartbeats 4000000
namespace Mine
/-! the script: a list of the caller's, that is only read -/
structure Scr (g : Gl) (l : Addr) (ns : List Int) : Prop where
  at' : ∀ h, g.B h → ∃ ws, h.IsList l ws.toArray ∧ IntsAre ws ns
  small : ns.length ≤ 64
noncomputable def lenO (l : Addr) (n : Nat) : List MV → SS → Option (MV × SS)
  | [.old a], ss => match Nat.beq a l with
    | true => some (.int (.c n), ss)
    | false => none
  | _, _ => none
noncomputable def idxO (l : Addr) (ns : List Int) (a b : MV) (ss : SS) : Option (MV × SS) := match a with
  | .old a => match Nat.beq a l with
    | true => match b with
      | .int (.c i) => match placeOf i ns.length with
        | some j => match ns[j]? with
          | some x => some (iC x, ss)
          | none => none
        | none => none
      | _ => none
    | false => none
  | _ => none
theorem ints_len {ws : List Value} {ns : List Int} (h : IntsAre ws ns) : ws.length = ns.length := by
  induction h with
  | nil => rfl
  | cons _ _ _ ih => simp [ih]
theorem ints_get {ws : List Value} {ns : List Int} (h : IntsAre ws ns) : ∀ {j : Nat} {x : Int}, ns[j]? = some x → ∃ t, ws[j]? = some (.int x t) := by
  induction h with
  | nil => intro j x e; simp at e
  | cons n t _ ih =>
    intro j x e
    cases j with
    | zero => simp at e; subst e; exact ⟨t, rfl⟩
    | succ j => simp at e; obtain ⟨t', h'⟩ := ih e; exact ⟨t', by simpa using h'⟩
section
variable {g : Gl} {lv : Nat} {l : Addr} {ns : List Int}
theorem lenO_ok (S : Scr g l ns) : OpNOK g lv (fun ws => call (.builtin "len") ws) (lenO l ns.length) := by
  intro Γ c hl α ext G st vs ws v ss s Q E hf hv R hQ
  unfold lenO at hf
  split at hf
  · split at hf
    · rename_i e
      have e := Nat.eq_of_beq_eq_true e
      subst e
      cases hf
      cases hv with | cons k1 hv => cases hv with | nil =>
      rename_i w
      cases w <;> try exact (show False from k1).elim
      obtain rfl := (show _ = _ from k1)
      obtain ⟨us, h1, h2⟩ := S.at' c.h₀ c.hB
      obtain ⟨m, led, bl, R'⟩ := id R
      have h1' : s.heap.IsList _ us.toArray := let ⟨o, e1, r⟩ := h1; ⟨o, R'.F.keep _ _ e1, r⟩
      have hlen := ints_len h2
      have := S.small
      refine call_len_list h1' (by rw [List.size_toArray]; omega) ?_
      rw [List.size_toArray, hlen]
      exact hQ _ α _ (List.suffix_refl _) (R.tok (Nat.succ_pos _)) rfl rfl
    · cases hf
  · cases hf
theorem idxO_ok (S : Scr g l ns) {x y : Expr} (hy : ∀ o i, subscripted y false o i = operate [o, i] (getItem o i)) : Op2OK g lv (subscriptTail x y) (idxO l ns) := by
  intro Γ c hl0 α ext G st a b wa wb v ss s Q E hf ha hb R hQ
  unfold idxO at hf
  split at hf
  case h_2 => cases hf
  rename_i a'
  split at hf
  case h_2 => cases hf
  rename_i e
  have e := Nat.eq_of_beq_eq_true e
  subst e
  split at hf
  case h_2 => cases hf
  rename_i i
  split at hf
  case h_2 => cases hf
  rename_i j hj
  split at hf
  case h_2 => cases hf
  rename_i x' hx
  cases hf
  cases wa <;> try exact (show False from ha).elim
  obtain rfl := (show _ = _ from ha)
  obtain ⟨u, rfl⟩ := hb.int_inv
  show wpAny _ _ (subscriptTail x y (.ref _) (.int i u)) Q E s
  obtain ⟨us, h1, h2⟩ := S.at' c.h₀ c.hB
  obtain ⟨m, led, bl, R'⟩ := id R
  have hl : s.heap.IsList _ us.toArray := let ⟨o, e1, r⟩ := h1; ⟨o, R'.F.keep _ _ e1, r⟩
  have hlen := ints_len h2
  have := S.small
  obtain ⟨h3, h4, h5, h6⟩ := placeOf_seq hj
  obtain ⟨t, ht⟩ := ints_get h2 hx
  refine tail_any hl.typeIs PySem.slot_list_getitem.lookup ?_ (hy _ _)
  have hq := hQ (.int x' t) α s (List.suffix_refl _) R rfl rfl
  unfold seqIndex? at h3
  by_cases hi : i < 0
  · simp only [hi, if_true] at h3
    rw [if_pos (by simp; omega)] at h3
    refine wpAny_getItem_list_neg hl hi (by rw [List.size_toArray, hlen]; omega) (by omega) ?_ hq
    rw [List.size_toArray, hlen, Option.some.inj h3]
    simpa using ht
  · simp only [hi, if_false] at h3
    rw [if_pos (by simp; omega)] at h3
    refine wpAny_getItem_list hl (by omega) (by omega) ?_ hq
    rw [Option.some.inj h3]
    simpa using ht
end
@[reducible] noncomputable def ΓD : Sta := ⟨[Str.ofString "script", Str.ofString "numbers", Str.ofString "place", Str.ofString "q", Str.ofString "size", Str.ofString "pairs", Str.ofString "hidden", Str.ofString "signs"], [], sc_drawn⟩
noncomputable def dr2X : { f : Addr → List Int → PS → Option (FL × PS) // ∀ (g : Gl) (_ : Fk g) (l : Addr) (ns : List Int) (_ : Scr g l ns), ExOK g ΓD 0 (nthS bo_drawn 1) (f l ns) } := by
  apply Subtype.mk
  intro g F l ns S
  refine' (?_ : ExOK g ΓD 0 (Subtype.val (p := fun x => x = nthS bo_drawn 1) (by apply Subtype.mk; conv => rhs; whnf; rfl)) _)
  refine' ExOK.for 70 ?_ ?_ ?_ ?_ (by ((intros; kernel_rfl)))
  repeat' first
    | with_reducible refine' EvOK.callBlt F.len (by ((intros; kernel_rfl))) (by ((intros; kernel_rfl))) (lenO_ok S) ?_ (by ((intros; kernel_rfl))) (by ((intros; kernel_rfl)))
    | with_reducible refine' ExOK.setI (EvOK.sub ?_ ?_ (idxO_ok S (by ((intros; kernel_rfl))))) ?_ ?_ (by ((intros; kernel_rfl)))
    | wtm_at "mine step"
noncomputable def drawnX : { f : Addr → List Int → PS → Option (FL × PS) // ∀ (g : Gl) (_ : Fk g) (l : Addr) (ns : List Int) (_ : Scr g l ns), ExsOK g ΓD 0 bo_drawn (f l ns) } := by
  apply Subtype.mk
  intro g F l ns S
  refine' ExsOK.cons ?_ (ExsOK.cons (dr2X.2 g F l ns S) ?_)
  repeat' wtm_at "mine step"
noncomputable def dr2F (l : Addr) (n : Nat) (ns : List Int) : PS → Option (FL × PS) :=
  forF 70 (iterF (callF (consF (callF (consF (callF (consF (locF 0) nilF) (lenO l n)) (consF (intF 3) nilF)) minM) nilF) rangeM)) (t1F 2) (seqF (setF (binF (locF 0) (locF 2) (idxO l ns)) (locF 1) (locF 2)) passF) passF
theorem dr2X_eq (l : Addr) (ns : List Int) : dr2X.1 l ns = dr2F l ns.length ns := rfl
noncomputable def menuF : PS → Option (MV × PS) :=
  listF (consF (tupleF (consF (intF 5) (consF (intF 2) nilF))) (consF (tupleF (consF (intF 4) (consF (intF 2) nilF))) (consF (tupleF (consF (intF 6) (consF (intF 3) nilF))) (consF (tupleF (consF (intF 6) (consF (intF 2) nilF)))
    (consF (tupleF (consF (intF 5) (consF (intF 1) nilF))) (consF (tupleF (consF (intF 4) (consF (intF 1) nilF))) (consF (tupleF (consF (intF 6) (consF (intF 1) nilF))) nilF)))))))
noncomputable def drawnF (l : Addr) (ns : List Int) : PS → Option (FL × PS) :=
  seqF (asgF (listF (consF (intF 5) (consF (intF 0) (consF (intF 0) nilF)))) 1)
    (seqF (dr2F l ns.length ns)
      (seqF (asgF (binF (binF (callF (consF (binF (locF 1) (intF 0) idxM) nilF) absM) (binF (intF 10) (intF 30) powM) modM) (intF 2) addM) 3)
        (seqF (ifF (isF (binF (binF (locF 1) (intF 0) idxM) (intF 0) (ordM ltX))) (seqF (asgF (un1F (locF 3) negM) 3) passF) passF)
          (seqF (asgTF (binF menuF (binF (binF (locF 1) (intF 1) idxM) (intF 7) modM) idxM) (tlocF 4 (tlocF 5 tnilF)))
            (seqF (asgF (binF (listF (consF (strF []) (consF (strF [92, 41]) (consF (strF [34, 40, 34]) nilF)))) (binF (binF (locF 1) (intF 2) idxM) (intF 3) modM) idxM) 6)
              (seqF (asgF (binF (listF (consF (strF [40, 41]) (consF (strF [41, 40]) nilF))) (binF (binF (binF (locF 1) (intF 2) idxM) (intF 3) divM) (intF 2) modM) idxM) 7)
                (seqF (retF (tupleF (consF (locF 3) (consF (locF 4) (consF (locF 5) (consF (locF 6) (consF (locF 7) nilF))))))) passF)))))))
theorem drawnX_eq (l : Addr) (ns : List Int) : drawnX.1 l ns = drawnF l ns := rfl
theorem drawn_ok {g : Gl} (F : Fk g) {l : Addr} {ns : List Int} (S : Scr g l ns) : OpNOK g 1 (fun ws => call (.ref F.drawn.a) ws) (fnF 1 7 (drawnF l ns)) :=
  OpNOK.fn (pn := [Str.ofString "script"]) (ls := [Str.ofString "numbers", Str.ofString "place", Str.ofString "q", Str.ofString "size", Str.ofString "pairs", Str.ofString "hidden", Str.ofString "signs"]) F.lim F.drawn.fn rfl rfl rfl (by decide +kernel) (by ((intro doc pm an cdv ct ws h; rcases ws with _ | ⟨w1, _ | ⟨w2, _ | ⟨w3, _ | ⟨w4, _ | ⟨w5, ws⟩⟩⟩⟩⟩ <;> first | rfl | (simp at h)))) (by decide +kernel) (by decide +kernel) (drawnX.2 g F l ns S)
end Mine
end P75
section P76
open PySem PySem.W PyProof.Rows PySem.Calls PySem.Spec
set_option maxHeartbeats 4000000
namespace Mine
/-! what the globals are, from the written part of the heap -/
noncomputable def addrIn (K : Frag) (x : Str) : Addr := match nsIn K mainGlobals x with
  | some (some (.ref a)) => a
  | _ => 0
noncomputable def tokIn (K : Frag) (x : Str) : Tok := match nsIn K mainGlobals x with
  | some (some (.int _ t)) => t
  | _ => 0
noncomputable def fdIn (K : Frag) (a : Addr) : Option FuncData := match K.lookup a with
  | some o => (match o.data with
    | .func fd => some fd
    | _ => none)
  | none => none
theorem fdIn_some {K : Frag} {a : Addr} {fd : FuncData} (h : fdIn K a = some fd) : ∃ o, K.lookup a = some o ∧ o.data = .func fd := by
  unfold fdIn at h
  split at h
  · rename_i o e
    split at h
    · rename_i fd' e2
      cases h
      exact ⟨o, e, e2⟩
    · cases h
  · cases h
noncomputable def eraseF (fd : FuncData) : FuncData := { fd with doc := .none, pyModule := .none, annotations := none, code := .none, closureTuple := .none }
theorem eraseF_eq {fd : FuncData} {name qual : Str} {pa : Arguments} {bo : List Stmt} {sc : Scope} (h : eraseF fd = fnX name qual pa bo sc [] .none .none .none .none none .none .none) : fd = fnX name qual pa bo sc [] .none .none fd.doc fd.pyModule fd.annotations fd.code fd.closureTuple := by
  cases fd
  simp only [eraseF, FuncData.mk.injEq] at h ⊢
  simp [h]
structure FnOK (K : Frag) (name : Str) (pa : Arguments) (bo : List Stmt) (sc : Scope) : Prop where
  gl : nsIn K mainGlobals name = some (some (.ref (addrIn K name)))
  fd : (fdIn K (addrIn K name)).map eraseF = some (fnX name name pa bo sc [] .none .none .none .none none .none .none)
  co : ((fdIn K (addrIn K name)).map fun fd => codeIn K fd.code name) = some true
theorem ns_none_of {K : Frag} {h : Heap} {a : Addr} {mg : Str → Option Value} {n : Str} (X : K.In h) (G : h.Ns a mg) (e : nsIn K a n = some none) : mg n = none := by
  obtain ⟨o, es, ep, ho, hd, _, hf⟩ := G
  unfold nsIn at e
  split at e
  · rename_i c d es' n' sl q
    have := X _ _ q
    rw [ho] at this
    cases this
    cases hd
    split at e
    · cases e
    · rename_i he
      rw [← hf]
      unfold nsFind findBy
      rw [← Array.find?_toList, he]
      rfl
  · cases e
section
variable {K : Frag} {G0 : Heap} {p : Program} {loose : List Str} {mean : ExcName → Option Value} {mg mb : Str → Option Value} {g : Gl}
theorem FnOK.data {name : Str} {pa : Arguments} {bo : List Stmt} {sc : Scope} (k : FnOK K name pa bo sc) (X : K.In G0) : ∃ o doc pm an cdv ct, fdIn K (addrIn K name) = some (fnX name name pa bo sc [] .none .none doc pm an cdv ct) ∧ G0.get? (addrIn K name) = some o ∧ o.data = .func (fnX name name pa bo sc [] .none .none doc pm an cdv ct) ∧ G0.CodeRec cdv name := by
  have h := k.fd
  have h2 := k.co
  cases e : fdIn K (addrIn K name) with
  | none => rw [e] at h; cases h
  | some fd =>
    rw [e] at h h2
    have h3 := eraseF_eq (Option.some.inj h)
    obtain ⟨o, e1, e2⟩ := fdIn_some e
    exact ⟨o, fd.doc, fd.pyModule, fd.annotations, fd.code, fd.closureTuple, by rw [← h3], X _ _ e1, by rw [← h3]; exact e2, codeRec_of X (Option.some.inj h2)⟩
noncomputable def FnV.of {name : Str} {pa : Arguments} {bo : List Stmt} {sc : Scope} (k : FnOK K name pa bo sc) (X : K.In G0) (T : Top p loose mean mg mb G0) (hB : ∀ h, g.B h → ∀ b o, G0.get? b = some o → h.get? b = some o) : FnV g name pa bo sc where
  a := addrIn K name
  glob := fun h hb => ⟨mg, T.g.keeps (hB h hb), .inl (mg_of X T.g k.gl)⟩
  fn := fun h hb => let ⟨o, doc, pm, an, cdv, ct, _, h1, h2, h3⟩ := k.data X; ⟨o, doc, pm, an, cdv, ct, hB h hb _ _ h1, h2, h3.keeps (hB h hb)⟩
theorem BltV.of {x : Str} {v : Value} (e : nsIn K mainGlobals x = some none) (hv : bootBuiltins x = some v) (hn : x ≠ "__name__") (X : K.In G0) (T : Top p loose mean mg mb G0) (hB : ∀ h, g.B h → ∀ b o, G0.get? b = some o → h.get? b = some o) : BltV g x v :=
  fun h hb => ⟨mg, T.g.keeps (hB h hb), .inr ⟨mg_none_of X T.g e, mb, T.b.keeps (hB h hb), (T.builtins x hn).trans hv⟩⟩
theorem nest_of {name : Str} {pa : Arguments} {bo : List Stmt} {sc : Scope} {cd P : Addr} {tk : Nat} (k : FnOK K name pa bo sc) (hc : (fdIn K (addrIn K name)).map (·.code) = some (.ref cd)) (C : CodeHd G0 cd P) (ht : fromEnd g.tabs.length g.tabs tk = some P) (X : K.In G0) (T : Top p loose mean mg mb G0) (hB : ∀ h, g.B h → ∀ b o, G0.get? b = some o → h.get? b = some o) :
    ∀ h, g.B h → FnNest g h (addrIn K name) name name pa bo sc tk := by
  intro h hb
  obtain ⟨o, doc, pm, an, cdv, ct, h0, h1, h2, h3⟩ := k.data X
  rw [h0] at hc
  obtain rfl : cdv = .ref cd := Option.some.inj hc
  exact ⟨o, doc, pm, an, ct, cd, P, p, loose, mean, mg, mb, hB h hb _ _ h1, h2, h3.keeps (hB h hb), C.keeps (hB h hb), ht, T.keeps (hB h hb)⟩
end
structure KOK (K : Frag) (cI cD : Addr) : Prop where
  bk : nsIn K cStatics sharingNotToldKey = some none
  divl : nsIn K mainGlobals (Str.ofString "_DIV_LIMIT") = some (some (.int 4000 (tokIn K (Str.ofString "_DIV_LIMIT"))))
  len : nsIn K mainGlobals (Str.ofString "len") = some none
  min : nsIn K mainGlobals (Str.ofString "min") = some none
  abs : nsIn K mainGlobals (Str.ofString "abs") = some none
  sum : nsIn K mainGlobals (Str.ofString "sum") = some none
  sorted : nsIn K mainGlobals (Str.ofString "sorted") = some none
  divmod : nsIn K mainGlobals (Str.ofString "divmod") = some none
  range : nsIn K mainGlobals (Str.ofString "range") = some none
  list : nsIn K mainGlobals (Str.ofString "list") = some none
  enum : nsIn K mainGlobals (Str.ofString "enumerate") = some none
  zip : nsIn K mainGlobals (Str.ofString "zip") = some none
  rev : nsIn K mainGlobals (Str.ofString "reversed") = some none
  iter : FnOK K (Str.ofString "_iter_escaped_chars") pa_iter bo_iter sc_iter
  strip : FnOK K (Str.ofString "_strip_quoted_realnames") pa_strip bo_strip sc_strip
  check : FnOK K (Str.ofString "_check_parenthesis") pa_check bo_check sc_check
  pre : FnOK K (Str.ofString "_pre_parse_validation") pa_pre bo_pre sc_pre
  countOf : FnOK K (Str.ofString "countOf") pa_countOf bo_countOf sc_countOf
  indexOf : FnOK K (Str.ofString "indexOf") pa_indexOf bo_indexOf sc_indexOf
  imul : FnOK K (Str.ofString "imul") pa_imul bo_imul sc_imul
  isub : FnOK K (Str.ofString "isub") pa_isub bo_isub sc_isub
  drawn : FnOK K (Str.ofString "_law_drawn") pa_drawn bo_drawn sc_drawn
  heights : FnOK K (Str.ofString "_law_heights") pa_heights bo_heights sc_heights
  taken : FnOK K (Str.ofString "_law_taken") pa_taken bo_taken sc_taken
  mates : FnOK K (Str.ofString "_law_mates") pa_mates bo_mates sc_mates
  entry : FnOK K (Str.ofString "_law_entry") pa_entry bo_entry sc_entry
  minors : FnOK K (Str.ofString "_law_minors") pa_minors bo_minors sc_minors
  byh : FnOK K (Str.ofString "_law_by_heights") pa_byh bo_byh sc_byh
  div2 : FnOK K (Str.ofString "_div2n1n") pa_div2 bo_div2 sc_div2
  i2d : FnOK K (Str.ofString "_int2digits") pa_i2d bo_i2d sc_i2d
  d2i : FnOK K (Str.ofString "_digits2int") pa_d2i bo_d2i sc_d2i
  dpos : FnOK K (Str.ofString "_divmod_pos") pa_dpos bo_dpos sc_dpos
  idm : FnOK K (Str.ofString "int_divmod") pa_idm bo_idm sc_idm
  cI : (fdIn K (addrIn K (Str.ofString "_int2digits"))).map (·.code) = some (.ref cI)
  cD : (fdIn K (addrIn K (Str.ofString "_digits2int"))).map (·.code) = some (.ref cD)
section
variable {K : Frag} {G0 : Heap} {p : Program} {loose : List Str} {mean : ExcName → Option Value} {mg mb : Str → Option Value} {g : Gl} {cI cD PI PD : Addr}
noncomputable def Fk.of (k : KOK K cI cD) (X : K.In G0) (T : Top p loose mean mg mb G0) (hB : ∀ h, g.B h → ∀ b o, G0.get? b = some o → h.get? b = some o) : Fk g where
  lim := fun h hb => T.nolimit.keeps (hB h hb)
  bns := fun h hb => ⟨mb, T.b.keeps (hB h hb)⟩
  nbk := fun h hb => let ⟨mc, h1, _⟩ := T.nodigits; ⟨mc, h1.keeps (hB h hb), ns_none_of X h1 k.bk⟩
  divt := tokIn K (Str.ofString "_DIV_LIMIT")
  divl := fun h hb => ⟨mg, T.g.keeps (hB h hb), .inl (mg_of X T.g k.divl)⟩
  len := BltV.of k.len (by kernel_rfl) (by decide) X T hB
  min := BltV.of k.min (by kernel_rfl) (by decide) X T hB
  abs := BltV.of k.abs (by kernel_rfl) (by decide) X T hB
  sum := BltV.of k.sum (by kernel_rfl) (by decide) X T hB
  sorted := BltV.of k.sorted (by kernel_rfl) (by decide) X T hB
  divmod := BltV.of k.divmod (by kernel_rfl) (by decide) X T hB
  range := BltV.of k.range (by kernel_rfl) (by decide) X T hB
  list := BltV.of k.list (by kernel_rfl) (by decide) X T hB
  enum := BltV.of k.enum (by kernel_rfl) (by decide) X T hB
  zip := BltV.of k.zip (by kernel_rfl) (by decide) X T hB
  rev := BltV.of k.rev (by kernel_rfl) (by decide) X T hB
  iter := FnV.of k.iter X T hB
  strip := FnV.of k.strip X T hB
  check := FnV.of k.check X T hB
  pre := FnV.of k.pre X T hB
  countOf := FnV.of k.countOf X T hB
  indexOf := FnV.of k.indexOf X T hB
  imul := FnV.of k.imul X T hB
  isub := FnV.of k.isub X T hB
  drawn := FnV.of k.drawn X T hB
  heights := FnV.of k.heights X T hB
  taken := FnV.of k.taken X T hB
  mates := FnV.of k.mates X T hB
  entry := FnV.of k.entry X T hB
  minors := FnV.of k.minors X T hB
  byh := FnV.of k.byh X T hB
  div2 := FnV.of k.div2 X T hB
  i2d := FnV.of k.i2d X T hB
  d2i := FnV.of k.d2i X T hB
  dpos := FnV.of k.dpos X T hB
  idm := FnV.of k.idm X T hB
theorem Fn.of (k : KOK K cI cD) (X : K.In G0) (T : Top p loose mean mg mb G0) (hB : ∀ h, g.B h → ∀ b o, G0.get? b = some o → h.get? b = some o) (CI : CodeHd G0 cI PI) (CD : CodeHd G0 cD PD) (t1 : fromEnd g.tabs.length g.tabs 1 = some PI) (t0 : fromEnd g.tabs.length g.tabs 0 = some PD) : Fn g (Fk.of k X T hB) where
  i2d := nest_of k.i2d k.cI CI t1 X T hB
  d2i := nest_of k.d2i k.cD CD t0 X T hB
end
end Mine
end P76
section P77
open PySem PySem.W PyProof.Rows PySem.Calls PySem.Spec
set_option maxHeartbeats 4000000
namespace Mine
noncomputable def base0 : List MO := [.cell none, .cell none, .cell none, .tab none, .tab none, .tab none]
abbrev locD (l : Addr) (y : Option MV) (q sz pr hd sg : Option MV) : List (Option MV) := [some (.old l), some (.ref 6), y, q, sz, pr, hd, sg]
theorem lenO_run (l : Addr) (n : Nat) (ss : SS) : lenO l n [.old l] ss = some (iC n, ss) := by
  unfold lenO; dsimp only; rw [Nat.beq_refl]; rfl
theorem idxO_run {l : Addr} {ns : List Int} {i : Nat} {ss : SS} (hi : i < ns.length) : idxO l ns (.old l) (iN i) ss = some (iC ns[i], ss) := by
  unfold idxO
  dsimp only
  rw [Nat.beq_refl]
  dsimp only
  have : placeOf (Int.ofNat i) ns.length = some i := by
    unfold placeOf
    dsimp only
    rw [show Nat.blt i ns.length = true from Z.blt_iff.mpr hi]
  rw [this]
  dsimp only
  rw [List.getElem?_eq_getElem hi]
theorem dr_loop {l : Addr} {ns : List Int} {m : Int} : ∀ (j i fuel : Nat) (nums : List Int) (y : Option MV), j < fuel → nums.length = 3 → i + j ≤ 3 → i + j ≤ ns.length →
    ∃ (nums' : List Int) (y' : Option MV), nums'.length = 3 ∧ loopF (t1F 2) (seqF (setF (binF (locF 0) (locF 2) (idxO l ns)) (locF 1) (locF 2)) passF) passF fuel (.rng (Int.ofNat i) j 1) ⟨locD l y none none none none none, [], ⟨8, .range 0 m 1 :: .list (nums.map iC) :: base0⟩⟩
      = some (.next, ⟨locD l y' none none none none none, [], ⟨8, .range 0 m 1 :: .list (nums'.map iC) :: base0⟩⟩)
  | 0, i, fuel, nums, y, hf, hn, _, _ => by
    cases fuel with
    | zero => omega
    | succ fuel => exact ⟨nums, y, hn, rfl⟩
  | j + 1, i, fuel, nums, y, hf, hn, h3, hl => by
    cases fuel with
    | zero => omega
    | succ fuel =>
    have hi : i < ns.length := by omega
    obtain ⟨nums', y', h1, h2⟩ := dr_loop (l := l) (ns := ns) (m := m) j (i + 1) fuel (nums.set i ns[i]) (some (iN i)) (by omega) (by rw [List.length_set]; exact hn) (by omega) (by omega)
    refine ⟨nums', y', h1, ?_⟩
    rw [← h2]
    have e1 : binF (locF 0) (locF 2) (idxO l ns) ⟨locD l (some (iN i)) none none none none none, [], ⟨8, .range 0 m 1 :: .list (nums.map iC) :: base0⟩⟩ = some (iC ns[i], ⟨locD l (some (iN i)) none none none none none, [], ⟨8, .range 0 m 1 :: .list (nums.map iC) :: base0⟩⟩) :=
      binF_p rfl rfl (idxO_run hi)
    have e2 := setF_run (st := ⟨locD l (some (iN i)) none none none none none, [], ⟨8, .range 0 m 1 :: .list (nums.map iC) :: base0⟩⟩) (f2 := locF 1) (f3 := locF 2) (k := 6) (j := i) (vs := nums.map iC) e1 rfl rfl (listAt_run ((fe 1 rfl).trans rfl)) (Z.blt_iff.mpr (by rw [List.length_map, hn]; decide)) (Z.blt_iff.mpr (by rw [List.length_map, hn]; omega))
    have e3 : (nums.map iC).set i (iC ns[i]) = (nums.set i ns[i]).map iC := by rw [List.map_set]
    rw [e3] at e2
    rw [loopF]
    show (match seqF (setF (binF (locF 0) (locF 2) (idxO l ns)) (locF 1) (locF 2)) passF ⟨locD l (some (iN i)) none none none none none, [], ⟨8, .range 0 m 1 :: .list (nums.map iC) :: base0⟩⟩ with | none => none | some (r, st2) => _) = _
    rw [seqF_next e2]
    rfl
theorem dr_iter (l : Addr) (n : Nat) : ∃ mm, mm ≤ 3 ∧ mm ≤ n ∧ iterF (callF (consF (callF (consF (callF (consF (locF 0) nilF) (lenO l n)) (consF (intF 3) nilF)) minM) nilF) rangeM) ⟨locD l none none none none none none, [], ⟨7, .list [iC 5, iC 0, iC 0] :: base0⟩⟩
    = some (.rng (Int.ofNat 0) mm 1, ⟨locD l none none none none none none, [], ⟨8, .range 0 (Int.ofNat mm) 1 :: .list [iC 5, iC 0, iC 0] :: base0⟩⟩) := by
  have e1 : callF (consF (locF 0) nilF) (lenO l n) ⟨locD l none none none none none none, [], ⟨7, .list [iC 5, iC 0, iC 0] :: base0⟩⟩ = some (iC n, ⟨locD l none none none none none none, [], ⟨7, .list [iC 5, iC 0, iC 0] :: base0⟩⟩) :=
    callF_run (st1 := ⟨locD l none none none none none none, [], ⟨7, .list [iC 5, iC 0, iC 0] :: base0⟩⟩) rfl (lenO_run l n _)
  have e2 : consF (callF (consF (locF 0) nilF) (lenO l n)) (consF (intF 3) nilF) ⟨locD l none none none none none none, [], ⟨7, .list [iC 5, iC 0, iC 0] :: base0⟩⟩ = some ([iC n, iC 3], ⟨locD l none none none none none none, [], ⟨7, .list [iC 5, iC 0, iC 0] :: base0⟩⟩) := consF_run e1 rfl
  have key : ∀ mm : Nat, mm ≤ 3 → minM [iC n, iC 3] ⟨7, .list [iC 5, iC 0, iC 0] :: base0⟩ = some (iC (Int.ofNat mm), ⟨7, .list [iC 5, iC 0, iC 0] :: base0⟩) → iterF (callF (consF (callF (consF (callF (consF (locF 0) nilF) (lenO l n)) (consF (intF 3) nilF)) minM) nilF) rangeM) ⟨locD l none none none none none none, [], ⟨7, .list [iC 5, iC 0, iC 0] :: base0⟩⟩
      = some (.rng (Int.ofNat 0) mm 1, ⟨locD l none none none none none none, [], ⟨8, .range 0 (Int.ofNat mm) 1 :: .list [iC 5, iC 0, iC 0] :: base0⟩⟩) := by
    intro mm hm h
    have e3 := callF_run e2 h
    have e4 : consF (callF (consF (callF (consF (locF 0) nilF) (lenO l n)) (consF (intF 3) nilF)) minM) nilF ⟨locD l none none none none none none, [], ⟨7, .list [iC 5, iC 0, iC 0] :: base0⟩⟩ = some ([iC (Int.ofNat mm)], ⟨locD l none none none none none none, [], ⟨7, .list [iC 5, iC 0, iC 0] :: base0⟩⟩) := consF_run e3 rfl
    unfold iterF
    match mm, hm, e4 with
    | 0, _, e4 => rw [callF_run (F := rangeM) (v := .ref 7) (ss := ⟨8, .range 0 (Int.ofNat 0) 1 :: .list [iC 5, iC 0, iC 0] :: base0⟩) e4 (by kernel_rfl)]; kernel_rfl
    | 1, _, e4 => rw [callF_run (F := rangeM) (v := .ref 7) (ss := ⟨8, .range 0 (Int.ofNat 1) 1 :: .list [iC 5, iC 0, iC 0] :: base0⟩) e4 (by kernel_rfl)]; kernel_rfl
    | 2, _, e4 => rw [callF_run (F := rangeM) (v := .ref 7) (ss := ⟨8, .range 0 (Int.ofNat 2) 1 :: .list [iC 5, iC 0, iC 0] :: base0⟩) e4 (by kernel_rfl)]; kernel_rfl
    | 3, _, e4 => rw [callF_run (F := rangeM) (v := .ref 7) (ss := ⟨8, .range 0 (Int.ofNat 3) 1 :: .list [iC 5, iC 0, iC 0] :: base0⟩) e4 (by kernel_rfl)]; kernel_rfl
    | mm + 4, h, _ => exact absurd h (by omega)
  have hmin : minM [iC n, iC 3] ⟨7, .list [iC 5, iC 0, iC 0] :: base0⟩ = some (iC (match Z.ltB 3 (n : Int) with | true => 3 | false => n), ⟨7, .list [iC 5, iC 0, iC 0] :: base0⟩) := rfl
  cases hz : Z.ltB 3 (n : Int) with
  | true =>
    have := (Z.ltB_iff _ _).mp hz
    exact ⟨3, by omega, by omega, key 3 (by omega) (by rw [hmin, hz]; rfl)⟩
  | false =>
    have : ¬ (3 : Int) < n := fun h => by rw [(Z.ltB_iff _ _).mpr h] at hz; cases hz
    exact ⟨n, by omega, Nat.le_refl _, key n (by omega) (by rw [hmin, hz]; rfl)⟩
end Mine
end P77
section P78
open PySem PySem.W PyProof.Rows PySem.Calls PySem.Spec
set_option maxHeartbeats 4000000
namespace Mine
noncomputable def absI (n : Int) : Int := match Z.ltB n 0 with
  | true => -n
  | false => n
noncomputable def qAbs (n : Int) : Int := (absI n).fmod (10 ^ 30) + 2
theorem absI_nn (n : Int) : 0 ≤ absI n := by
  unfold absI
  cases h : Z.ltB n 0 with
  | true => have := (Z.ltB_iff _ _).mp h; show 0 ≤ -n; omega
  | false =>
    have : ¬ n < 0 := fun e => by rw [(Z.ltB_iff _ _).mpr e] at h; cases h
    show 0 ≤ n; omega
theorem qAbs_bd (n : Int) : 2 ≤ qAbs n ∧ qAbs n ≤ 1000000000000000000000000000001 := by
  have h0 := absI_nn n
  unfold qAbs
  rw [Int.fmod_eq_emod_of_nonneg _ (by decide)]
  have h1 := Int.emod_nonneg (absI n) (b := 10 ^ 30) (by decide)
  have h2 := Int.emod_lt_of_pos (absI n) (b := 10 ^ 30) (by decide)
  have h3 : (10 : Int) ^ 30 = 1000000000000000000000000000000 := by decide
  rw [h3] at *
  omega
noncomputable def menus7 : List (Int × Int) := [(5, 2), (4, 2), (6, 3), (6, 2), (5, 1), (4, 1), (6, 1)]
noncomputable def hds3 : List (List Nat) := [[], [92, 41], [34, 40, 34]]
noncomputable def sgs2 : List (List Nat) := [[40, 41], [41, 40]]
noncomputable def tup7 : List MO := [.list [.ref 8, .ref 9, .ref 10, .ref 11, .ref 12, .ref 13, .ref 14], .tuple [iC 6, iC 1], .tuple [iC 4, iC 1], .tuple [iC 5, iC 1], .tuple [iC 6, iC 2], .tuple [iC 6, iC 3], .tuple [iC 4, iC 2], .tuple [iC 5, iC 2]]
noncomputable def und (m n0 n1 n2 : Int) : List MO := .range 0 m 1 :: .list [iC n0, iC n1, iC n2] :: base0
theorem fmod_bd (n : Int) (k : Nat) (hk : 0 < k) : ∃ j : Nat, j < k ∧ n.fmod k = Int.ofNat j := by
  rw [Int.fmod_eq_emod_of_nonneg _ (Int.natCast_nonneg k)]
  have h1 := Int.emod_nonneg n (b := k) (by omega)
  have h2 := Int.emod_lt_of_pos n (b := k) (by omega)
  exact ⟨(n % k).toNat, by omega, by show n % k = (((n % k).toNat : Nat) : Int); omega⟩
section
variable {l : Addr} {m n0 n1 n2 : Int} {y : Option MV}
theorem dq_run : asgF (binF (binF (callF (consF (binF (locF 1) (intF 0) idxM) nilF) absM) (binF (intF 10) (intF 30) powM) modM) (intF 2) addM) 3 ⟨locD l y none none none none none, [], ⟨8, und m n0 n1 n2⟩⟩
    = some (.next, ⟨locD l y (some (iC (qAbs n0))) none none none none, [], ⟨8, und m n0 n1 n2⟩⟩) := by kernel_rfl
theorem ds_run {q : Int} : ∃ q' : Int, q'.natAbs = q.natAbs ∧ ifF (isF (binF (binF (locF 1) (intF 0) idxM) (intF 0) (ordM ltX))) (seqF (asgF (un1F (locF 3) negM) 3) passF) passF ⟨locD l y (some (iC q)) none none none none, [], ⟨8, und m n0 n1 n2⟩⟩
    = some (.next, ⟨locD l y (some (iC q')) none none none none, [], ⟨8, und m n0 n1 n2⟩⟩) := by
  have t : isF (binF (binF (locF 1) (intF 0) idxM) (intF 0) (ordM ltX)) ⟨locD l y (some (iC q)) none none none none, [], ⟨8, und m n0 n1 n2⟩⟩ = some (Z.ltB n0 0, ⟨locD l y (some (iC q)) none none none none, [], ⟨8, und m n0 n1 n2⟩⟩) := by kernel_rfl
  cases h : Z.ltB n0 0 with
  | true => rw [h] at t; exact ⟨-q, Int.natAbs_neg q, (ifF_t t).trans rfl⟩
  | false => rw [h] at t; exact ⟨q, rfl, (ifF_f t).trans rfl⟩
theorem dm_run {q : Int} : ∃ sz pr : Int, (sz, pr) ∈ menus7 ∧ asgTF (binF menuF (binF (binF (locF 1) (intF 1) idxM) (intF 7) modM) idxM) (tlocF 4 (tlocF 5 tnilF)) ⟨locD l y (some (iC q)) none none none none, [], ⟨8, und m n0 n1 n2⟩⟩
    = some (.next, ⟨locD l y (some (iC q)) (some (iC sz)) (some (iC pr)) none none, [], ⟨16, tup7 ++ und m n0 n1 n2⟩⟩) := by
  have e1 : menuF ⟨locD l y (some (iC q)) none none none none, [], ⟨8, und m n0 n1 n2⟩⟩ = some (.ref 15, ⟨locD l y (some (iC q)) none none none none, [], ⟨16, tup7 ++ und m n0 n1 n2⟩⟩) := by kernel_rfl
  have e2 : binF (binF (locF 1) (intF 1) idxM) (intF 7) modM ⟨locD l y (some (iC q)) none none none none, [], ⟨16, tup7 ++ und m n0 n1 n2⟩⟩ = some (iC (n1.fmod 7), ⟨locD l y (some (iC q)) none none none none, [], ⟨16, tup7 ++ und m n0 n1 n2⟩⟩) := by kernel_rfl
  obtain ⟨j, hj, e⟩ := fmod_bd n1 7 (by decide)
  have e : n1.fmod 7 = Int.ofNat j := e
  rw [e] at e2
  have fin : ∀ (sz pr : Int) (t : Nat), (sz, pr) ∈ menus7 → idxM (.ref 15) (iN j) ⟨16, tup7 ++ und m n0 n1 n2⟩ = some (.ref t, ⟨16, tup7 ++ und m n0 n1 n2⟩) → tupOf ⟨16, tup7 ++ und m n0 n1 n2⟩ (.ref t) = some [iC sz, iC pr] →
      ∃ sz pr : Int, (sz, pr) ∈ menus7 ∧ asgTF (binF menuF (binF (binF (locF 1) (intF 1) idxM) (intF 7) modM) idxM) (tlocF 4 (tlocF 5 tnilF)) ⟨locD l y (some (iC q)) none none none none, [], ⟨8, und m n0 n1 n2⟩⟩
    = some (.next, ⟨locD l y (some (iC q)) (some (iC sz)) (some (iC pr)) none none, [], ⟨16, tup7 ++ und m n0 n1 n2⟩⟩) := by
    intro sz pr t h1 h2 h3
    refine ⟨sz, pr, h1, ?_⟩
    unfold asgTF
    rw [binF_p e1 e2 h2]
    dsimp only
    rw [h3]
    rfl
  match j, hj with
  | 0, _ => exact fin 5 2 8 (by decide) (by kernel_rfl) (by kernel_rfl)
  | 1, _ => exact fin 4 2 9 (by decide) (by kernel_rfl) (by kernel_rfl)
  | 2, _ => exact fin 6 3 10 (by decide) (by kernel_rfl) (by kernel_rfl)
  | 3, _ => exact fin 6 2 11 (by decide) (by kernel_rfl) (by kernel_rfl)
  | 4, _ => exact fin 5 1 12 (by decide) (by kernel_rfl) (by kernel_rfl)
  | 5, _ => exact fin 4 1 13 (by decide) (by kernel_rfl) (by kernel_rfl)
  | 6, _ => exact fin 6 1 14 (by decide) (by kernel_rfl) (by kernel_rfl)
  | j + 7, h => exact absurd h (by omega)
theorem dh_run {q sz pr : Int} : ∃ hd, hd ∈ hds3 ∧ asgF (binF (listF (consF (strF []) (consF (strF [92, 41]) (consF (strF [34, 40, 34]) nilF)))) (binF (binF (locF 1) (intF 2) idxM) (intF 3) modM) idxM) 6 ⟨locD l y (some (iC q)) (some (iC sz)) (some (iC pr)) none none, [], ⟨16, tup7 ++ und m n0 n1 n2⟩⟩
    = some (.next, ⟨locD l y (some (iC q)) (some (iC sz)) (some (iC pr)) (some (.str hd)) none, [], ⟨17, .list [.str [], .str [92, 41], .str [34, 40, 34]] :: (tup7 ++ und m n0 n1 n2)⟩⟩) := by
  have e1 : listF (consF (strF []) (consF (strF [92, 41]) (consF (strF [34, 40, 34]) nilF))) ⟨locD l y (some (iC q)) (some (iC sz)) (some (iC pr)) none none, [], ⟨16, tup7 ++ und m n0 n1 n2⟩⟩ = some (.ref 16, ⟨locD l y (some (iC q)) (some (iC sz)) (some (iC pr)) none none, [], ⟨17, .list [.str [], .str [92, 41], .str [34, 40, 34]] :: (tup7 ++ und m n0 n1 n2)⟩⟩) := by kernel_rfl
  have e2 : binF (binF (locF 1) (intF 2) idxM) (intF 3) modM ⟨locD l y (some (iC q)) (some (iC sz)) (some (iC pr)) none none, [], ⟨17, .list [.str [], .str [92, 41], .str [34, 40, 34]] :: (tup7 ++ und m n0 n1 n2)⟩⟩ = some (iC (n2.fmod 3), ⟨locD l y (some (iC q)) (some (iC sz)) (some (iC pr)) none none, [], ⟨17, .list [.str [], .str [92, 41], .str [34, 40, 34]] :: (tup7 ++ und m n0 n1 n2)⟩⟩) := by kernel_rfl
  obtain ⟨j, hj, e⟩ := fmod_bd n2 3 (by decide)
  have e : n2.fmod 3 = Int.ofNat j := e
  rw [e] at e2
  match j, hj with
  | 0, _ => exact ⟨[], by decide, (asgF_run (binF_p e1 e2 (v := .str []) (by kernel_rfl))).trans rfl⟩
  | 1, _ => exact ⟨[92, 41], by decide, (asgF_run (binF_p e1 e2 (v := .str [92, 41]) (by kernel_rfl))).trans rfl⟩
  | 2, _ => exact ⟨[34, 40, 34], by decide, (asgF_run (binF_p e1 e2 (v := .str [34, 40, 34]) (by kernel_rfl))).trans rfl⟩
  | j + 3, h => exact absurd h (by omega)
theorem dg_run {q sz pr : Int} {hd : List Nat} : ∃ sg, sg ∈ sgs2 ∧ asgF (binF (listF (consF (strF [40, 41]) (consF (strF [41, 40]) nilF))) (binF (binF (binF (locF 1) (intF 2) idxM) (intF 3) divM) (intF 2) modM) idxM) 7 ⟨locD l y (some (iC q)) (some (iC sz)) (some (iC pr)) (some (.str hd)) none, [], ⟨17, .list [.str [], .str [92, 41], .str [34, 40, 34]] :: (tup7 ++ und m n0 n1 n2)⟩⟩
    = some (.next, ⟨locD l y (some (iC q)) (some (iC sz)) (some (iC pr)) (some (.str hd)) (some (.str sg)), [], ⟨18, .list [.str [40, 41], .str [41, 40]] :: .list [.str [], .str [92, 41], .str [34, 40, 34]] :: (tup7 ++ und m n0 n1 n2)⟩⟩) := by
  have e1 : listF (consF (strF [40, 41]) (consF (strF [41, 40]) nilF)) ⟨locD l y (some (iC q)) (some (iC sz)) (some (iC pr)) (some (.str hd)) none, [], ⟨17, .list [.str [], .str [92, 41], .str [34, 40, 34]] :: (tup7 ++ und m n0 n1 n2)⟩⟩ = some (.ref 17, ⟨locD l y (some (iC q)) (some (iC sz)) (some (iC pr)) (some (.str hd)) none, [], ⟨18, .list [.str [40, 41], .str [41, 40]] :: .list [.str [], .str [92, 41], .str [34, 40, 34]] :: (tup7 ++ und m n0 n1 n2)⟩⟩) := by kernel_rfl
  have e2 : binF (binF (binF (locF 1) (intF 2) idxM) (intF 3) divM) (intF 2) modM ⟨locD l y (some (iC q)) (some (iC sz)) (some (iC pr)) (some (.str hd)) none, [], ⟨18, .list [.str [40, 41], .str [41, 40]] :: .list [.str [], .str [92, 41], .str [34, 40, 34]] :: (tup7 ++ und m n0 n1 n2)⟩⟩ = some (iC ((n2.fdiv 3).fmod 2), ⟨locD l y (some (iC q)) (some (iC sz)) (some (iC pr)) (some (.str hd)) none, [], ⟨18, .list [.str [40, 41], .str [41, 40]] :: .list [.str [], .str [92, 41], .str [34, 40, 34]] :: (tup7 ++ und m n0 n1 n2)⟩⟩) := by kernel_rfl
  obtain ⟨j, hj, e⟩ := fmod_bd (n2.fdiv 3) 2 (by decide)
  have e : (n2.fdiv 3).fmod 2 = Int.ofNat j := e
  rw [e] at e2
  match j, hj with
  | 0, _ => exact ⟨[40, 41], by decide, (asgF_run (binF_p e1 e2 (v := .str [40, 41]) (by kernel_rfl))).trans rfl⟩
  | 1, _ => exact ⟨[41, 40], by decide, (asgF_run (binF_p e1 e2 (v := .str [41, 40]) (by kernel_rfl))).trans rfl⟩
  | j + 2, h => exact absurd h (by omega)
end
theorem drawn_run (l : Addr) (ns : List Int) : ∃ (q sz pr m n0 n1 n2 : Int) (hd sg : List Nat), 2 ≤ q.natAbs ∧ q.natAbs ≤ 1000000000000000000000000000001 ∧ (sz, pr) ∈ menus7 ∧ hd ∈ hds3 ∧ sg ∈ sgs2 ∧
    fnF 1 7 (drawnF l ns) [.old l] ⟨6, base0⟩ = some (.ref 18, ⟨19, .tuple [iC q, iC sz, iC pr, .str hd, .str sg] :: .list [.str [40, 41], .str [41, 40]] :: .list [.str [], .str [92, 41], .str [34, 40, 34]] :: (tup7 ++ und m n0 n1 n2)⟩) := by
  obtain ⟨mm, h3, hn, ei⟩ := dr_iter l ns.length
  obtain ⟨nums, y, hl, el⟩ := dr_loop (l := l) (ns := ns) (m := Int.ofNat mm) mm 0 70 [5, 0, 0] none (by omega) rfl (by omega) (by omega)
  match nums, hl with
  | [n0, n1, n2], _ =>
    obtain ⟨q, hq, es⟩ := ds_run (l := l) (m := Int.ofNat mm) (n0 := n0) (n1 := n1) (n2 := n2) (y := y) (q := qAbs n0)
    obtain ⟨sz, pr, hm, em⟩ := dm_run (l := l) (m := Int.ofNat mm) (n0 := n0) (n1 := n1) (n2 := n2) (y := y) (q := q)
    obtain ⟨hd, hh, eh⟩ := dh_run (l := l) (m := Int.ofNat mm) (n0 := n0) (n1 := n1) (n2 := n2) (y := y) (q := q) (sz := sz) (pr := pr)
    obtain ⟨sg, hg, eg⟩ := dg_run (l := l) (m := Int.ofNat mm) (n0 := n0) (n1 := n1) (n2 := n2) (y := y) (q := q) (sz := sz) (pr := pr) (hd := hd)
    have hb := qAbs_bd n0
    refine ⟨q, sz, pr, Int.ofNat mm, n0, n1, n2, hd, sg, by omega, by omega, hm, hh, hg, ?_⟩
    rw [fnF_out (np := 1) rfl]
    show outO (drawnF l ns ⟨[some (.old l), none, none, none, none, none, none, none], [], ⟨6, base0⟩⟩) = _
    have s1 : asgF (listF (consF (intF 5) (consF (intF 0) (consF (intF 0) nilF)))) 1 ⟨[some (.old l), none, none, none, none, none, none, none], [], ⟨6, base0⟩⟩ = some (.next, ⟨locD l none none none none none none, [], ⟨7, .list [iC 5, iC 0, iC 0] :: base0⟩⟩) := by kernel_rfl
    have s2 : dr2F l ns.length ns ⟨locD l none none none none none none, [], ⟨7, .list [iC 5, iC 0, iC 0] :: base0⟩⟩ = some (.next, ⟨locD l y none none none none none, [], ⟨8, und (Int.ofNat mm) n0 n1 n2⟩⟩) := by
      unfold dr2F forF
      rw [ei]
      exact el
    have s8 : seqF (retF (tupleF (consF (locF 3) (consF (locF 4) (consF (locF 5) (consF (locF 6) (consF (locF 7) nilF))))))) passF ⟨locD l y (some (iC q)) (some (iC sz)) (some (iC pr)) (some (.str hd)) (some (.str sg)), [], ⟨18, .list [.str [40, 41], .str [41, 40]] :: .list [.str [], .str [92, 41], .str [34, 40, 34]] :: (tup7 ++ und (Int.ofNat mm) n0 n1 n2)⟩⟩
        = some (.ret (.ref 18), ⟨locD l y (some (iC q)) (some (iC sz)) (some (iC pr)) (some (.str hd)) (some (.str sg)), [], ⟨19, .tuple [iC q, iC sz, iC pr, .str hd, .str sg] :: .list [.str [40, 41], .str [41, 40]] :: .list [.str [], .str [92, 41], .str [34, 40, 34]] :: (tup7 ++ und (Int.ofNat mm) n0 n1 n2)⟩⟩) := by kernel_rfl
    unfold drawnF
    rw [seqF_next s1, seqF_next s2, seqF_next dq_run, seqF_next es, seqF_next em, seqF_next eh, seqF_next eg, s8]
    rfl
/-- the first statement of law -/
noncomputable def s1X : { f : Addr → List Int → PS → Option (FL × PS) // ∀ (g : Gl) (F : Fk g) (l : Addr) (ns : List Int) (_ : Scr g l ns), ExOK g ΓL 18 (nthS bo_law 0) (f l ns) } := by
  apply Subtype.mk
  intro g F l ns S
  refine' (?_ : ExOK g ΓL 18 (Subtype.val (p := fun x => x = nthS bo_law 0) (by apply Subtype.mk; conv => rhs; whnf; rfl)) _)
  repeat' first
    | with_reducible refine' EvOK.fnV F.drawn (drawn_ok F S) (by (decide +kernel)) (by ((intros; kernel_rfl))) (by ((intros; kernel_rfl))) ?_ (by ((intros; kernel_rfl)))
    | wtm_at "mine step"
theorem s1_run (l : Addr) (ns : List Int) : ∃ (q sz pr : Int) (hd sg : List Nat) (gs : List MO), 2 ≤ q.natAbs ∧ q.natAbs ≤ 1000000000000000000000000000001 ∧ (sz, pr) ∈ menus7 ∧ hd ∈ hds3 ∧ sg ∈ sgs2 ∧
    s1X.1 l ns ⟨[some (.old l), none, none, none, none, none, none, none], [3, 4, 5], ⟨6, base0⟩⟩ = some (.next, ⟨[some (.old l), some (iC sz), some (iC pr), some (.str sg), none, none, none, none], [3, 4, 5], ⟨19, gs ++ [.cell none, .cell (some (.str hd)), .cell (some (iC q)), .tab none, .tab none, .tab none]⟩⟩) := by
  obtain ⟨q, sz, pr, m, n0, n1, n2, hd, sg, h1, h2, h3, h4, h5, e⟩ := drawn_run l ns
  refine ⟨q, sz, pr, hd, sg, .tuple [iC q, iC sz, iC pr, .str hd, .str sg] :: .list [.str [40, 41], .str [41, 40]] :: .list [.str [], .str [92, 41], .str [34, 40, 34]] :: (tup7 ++ [.range 0 m 1, .list [iC n0, iC n1, iC n2]]), h1, h2, h3, h4, h5, ?_⟩
  show asgTF (callF (consF (locF 0) nilF) (fnF 1 7 (drawnF l ns))) (tcelF 0 (tlocF 1 (tlocF 2 (tcelF 1 (tlocF 3 tnilF))))) _ = _
  have c1 : consF (locF 0) nilF ⟨[some (.old l), none, none, none, none, none, none, none], [3, 4, 5], ⟨6, base0⟩⟩ = some ([.old l], ⟨[some (.old l), none, none, none, none, none, none, none], [3, 4, 5], ⟨6, base0⟩⟩) := rfl
  unfold asgTF
  rw [callF_run c1 e]
  kernel_rfl
end Mine
end P78
section P80
open PySem PySem.W PyProof.Rows PySem.Calls PySem.Spec
set_option maxHeartbeats 4000000
namespace Mine
variable {g : Gl} {Γ : Sta} {lv : Nat}
/-! the first step: nothing tells yet that a token was given -/
noncomputable def Ev0 (g : Gl) (Γ : Sta) (lv : Nat) (x : Expr) (f : PS → Option (MV × PS)) : Prop :=
  ∀ (c : Cx g Γ), lv ≤ c.lvl → ∀ α ext G st v st' s Q E, f st = some (v, st') → Rel c α ext G st { s with toks := s.toks + 1 } →
    (∀ w, After c α ext G s st' fun α' s' => VOK g.q α' v w → Q w s') →
    wpAny (model g.prog g.w) c.A (eval x c.env) Q E s
noncomputable def Ex0 (g : Gl) (Γ : Sta) (lv : Nat) (x : Stmt) (f : PS → Option (FL × PS)) : Prop :=
  ∀ (c : Cx g Γ), lv ≤ c.lvl → ∀ α ext G st v st' s Q E, f st = some (v, st') → Rel c α ext G st { s with toks := s.toks + 1 } →
    (∀ w, After c α ext G s st' fun α' s' => FOK g.q α' v w → Q w s') →
    wpAny (model g.prog g.w) c.A (exec x c.env) Q E s
noncomputable def OpN0 (g : Gl) (lv : Nat) (t : List Value → Sem Value) (F : List MV → SS → Option (MV × SS)) : Prop :=
  ∀ (Γ : Sta) (c : Cx g Γ), lv ≤ c.lvl → ∀ α ext G st vs ws v ss s Q E, F vs st.ss = some (v, ss) → VsOK g.q α vs ws → Rel c α ext G st { s with toks := s.toks + 1 } →
    (∀ w, After c α ext G s { st with ss := ss } fun α' s' => VOK g.q α' v w → Q w s') → wpAny (model g.prog g.w) c.A (t ws) Q E s
set_option smartUnfolding false in
theorem OpN0.fn {a : Addr} {name qual : Str} {params : Arguments} {body : List Stmt} {scope : Scope} {pn ls : List Str} {fb : PS → Option (FL × PS)} (hlim : ∀ h, g.B h → h.NoLimit) (hfd : ∀ h, g.B h → FnIs h a name qual params body scope [])
    (hk : scope.kind = .function) (hco : scope.isCoroutine = false) (hgen : scope.isGenerator = false) (hcell : ∀ x ∈ scope.names, x.2 ≠ .cell)
    (hbind : ∀ (doc pm : Value) (an : Option Addr) (cdv ct : Value) (ws : List Value), ws.length = pn.length → bindArgs (fnX name qual params body scope [] .none .none doc pm an cdv ct) ⟨ws, []⟩ = pure (pn.zip ws))
    (hnd : (pn ++ ls).Nodup) (hloc : ∀ x ∈ pn, scope.names.lookup x = some .local)
    (hp0 : 0 < pn.length) (hb : ExsOK g ⟨pn ++ ls, [], scope⟩ lv body fb) : OpN0 g (lv + 1) (fun ws => call (.ref a) ws) (fnF pn.length ls.length fb) := by
  intro Γ c hl α ext G st vs ws v ss s Q E hf hvs R hQ
  unfold fnF at hf
  refine eb hf fun hlen hf => ?_
  have hlen := Nat.eq_of_beq_eq_true hlen
  refine eop hf fun r st1 e1 hf => ?_
  cases R with | mk m led bl R =>
  cases hfd c.h₀ c.hB with | mk o doc pm an cdv ct ho hd hcd =>
  have hndp : pn.Nodup := (List.nodup_append.mp hnd).1
  have hz : 0 < (pn.zip ws).length := by rw [List.length_zip, hvs.length.trans hlen, Nat.min_self]; exact hp0
  refine wpAny_call (callX_plain c.below R.F R.N (hlim _ c.hB) c.hA c.hff c.hfk (R.F.keep _ _ ho) hd (hcd.keeps R.F.keep) (Nat.lt_of_le_of_lt (Nat.le_add_right _ _) c.hdep) (BindsTo.of_eq (hbind doc pm an cdv ct ws (hvs.length.trans hlen)))
    (fun y hy => hloc _ (List.of_mem_zip (show (y.1, y.2) ∈ pn.zip ws from hy)).1) (fun gh L' h₁ FG F' N' B' st' lt' => ?_) hcell hco hgen hk)
  refine hb (c.call (Γ' := ⟨pn ++ ls, [], scope⟩) (a := a) (cdv := cdv) (clo := []) hk rfl hl B' (g.hB _ _ st' c.hB)) (lv_in hl) α (bl ++ ext) G _ r st1 _ _ _ e1
    ⟨_, led, [], F', N', R.nd, R.la, R.lo, R.nn, BlkOK.mk0 rfl (LocOK.args hvs hlen hndp), fun i x k h => nn h, R.ge, R.ba, R.tb, Nat.lt_of_lt_of_le hz (Nat.le_add_left _ _)⟩ (fun w α' s' hs R1 ho1 va => ?_)
  cases R1 with | mk m' led' bl' R1 =>
  have hbl' : bl' = [] := R1.bk.1
  subst hbl'
  refine leaveK_ R1.F R1.N fun F₂ N₂ => ?_
  have key : Rel c α' ext G { st with ss := st1.ss } s' := ⟨m, led', bl, F₂, N₂, R1.nd, R1.la, R1.lo, R1.nn, R.bk.mono hs, R.ce.mono hs, R1.ge, R1.ba, R1.tb, R1.tk⟩
  refine (fn_ret (P := Ret c α ext G st s Q) hf hQ).elim (fun h => h.elim fun v' h => ?_) fun h => ?_
  · rw [h.1] at va
    cases w <;> first | exact False.elim va | exact h.2 _ α' s' hs key ho1 va
  · rw [h.1] at va
    cases w <;> first | exact False.elim va | exact h.2 _ α' s' hs key ho1 trivial
set_option smartUnfolding false in
theorem Ex0.asgT {es : List Expr} {k : Nat} {e : Expr} {pos p : Pos} {f : PS → Option (MV × PS)} {tF : List MV → PS → Option PS} (h : Ev0 g Γ lv e f) (ht : TgsOK g Γ es tF)
    (hs : ∀ env, swapsWithSole [.Tuple es k p] e pos.line env = pure false) (hw : ∀ env, swappedStores [.Tuple es k p] e env = pure .none) : Ex0 g Γ lv (.Assign [.Tuple es k p] e pos) (asgTF f tF) := by
  intro c hl α ext G st v st' s Q E hf R hQ
  unfold asgTF at hf
  refine eop hf fun v1 st1 e1 hf => ?_
  refine eo hf fun vs e2 hf => ?_
  refine eo hf fun st2 e3 hf => ?_
  replace hQ := som2 (P := FetP c α ext G s Q) hf hQ
  refine Assign_Tuple (h c hl α ext G st v1 st1 s _ E e1 R fun w α1 s1 hs1 R1 ho1 hv => ?_) (hs _) (hw _)
  unfold tupOf at e2
  refine emv_ref e2 fun kk ek e2 => ?_
  refine emo_tup e2 fun us e4 e5 => ?_
  subst ek
  cases id R1 with | mk m led bl R' =>
  refine R'.tupEl (P := fun w => wpAny (model g.prog g.w) c.A (assign (.Tuple es k p) c.env w) (fun _ s' => Q .next s') E s1) hv (Option.some.inj e5 ▸ e4) fun a ws g1 h1 hlen => ?_
  refine wpAny_assign_Tuple c.hh (items := ws.toArray) g1 ?_ (ht.1 _) fun h' he => ?_
  · rw [ht.2.1, ← ht.2.2.1 _ _ _ e3, List.size_toArray]; exact hlen.symm
  · exact ht.2.2.2 c α1 ext G st1 st2 _ vs ws _ E e3 (R1.grown he R1.pos) h1 fun s3 R3 ho3 => hQ .next α1 s3 hs1 R3 (ho3.trans ho1) trivial
theorem Ev0.fnV {lv' : Nat} {x y : Str} {pa : Arguments} {bo : List Stmt} {sc : Scope} {p p' pos : Pos} {i : Nat} {F : List MV → SS → Option (MV × SS)} (V : FnV g x pa bo sc)
    (ho : OpN0 g lv' (fun ws => call (.ref V.a) ws) F) (hlv : lv' ≤ lv) (hk : Γ.scope.names.lookup x = some .globalImplicit) (hd : (x == ("__debug__" : Str)) = false)
    (hn : Γ.names[i]? = some y) (hky : Γ.scope.names.lookup y = some .local) (hdy : (y == ("__debug__" : Str)) = false) :
    Ev0 g Γ lv (.Call (.Name x p) [.Name y p'] [] pos) (callF (consF (locF i) nilF) F) := by
  intro c hl α ext G st v st' s Q E hf R0 hQ
  cases callF_some hf with | mk vs st1 ss e1 e3 e =>
  subst e
  refine consF_el e1 fun v0 st2 vs2 e1 e2 ev => locF_el e1 fun h0 es => ?_
  have e2 := Prod.mk.inj (Option.some.inj (show some (([] : List MV), st2) = some (vs2, st1) from e2))
  have e4 : st = st1 := es.trans e2.2
  have ev : vs = [v0] := by rw [← ev, ← e2.1]
  subst ev
  subst e4
  cases id R0 with | mk m led bl R =>
  cases V.fn c.h₀ c.hB with | mk o doc pm an cdv ct hob hdat _ =>
  refine R.ns fun m' hns hlo => (hlo i y v0 hn h0).elim fun w0 h1 => ?_
  have fin : wpAny (model g.prog g.w) c.A (callWith pos (.ref V.a) [] (backTo pos (starEach [.Name y p'] c.env)) []) Q E s := by
    refine callWith_def_at hob hdat ?_ (starEach_un rfl)
    refine spliced_more (wpAny_Name (wpAny_loadName_local c.fk ((c.kind y).trans hky) hns h1.1 ?_) hdy) (starEach_un rfl)
    refine spliced_none ⟨R.F.keep _ _ hob, ?_⟩
    exact ho Γ c (Nat.le_trans hlv hl) α ext G st [v0] [w0] v ss s Q E e3 (.cons h1.2 .nil) R0 hQ
  refine Call_ ?_ rfl
  refine (V.glob c.h₀ c.hB).elim fun mg g1 => ?_
  refine Name_function_global c.fk ((c.kind x).trans hk) ?_ hd
  have g1' : s.heap.Ns c.env.globals mg := by rw [c.hglob]; exact g1.1.keeps R.F.keep
  refine g1.2.elim (fun g2 => ?_) fun g2 => g2.2.elim fun mb g3 => ?_
  · exact loadGlobal_global g1' g2 fin
  · exact loadGlobal_builtin g1' g2.1 (by rw [c.hblt]; exact g3.1.keeps R.F.keep) g3.2 fin
noncomputable def s1Z : { f : Addr → List Int → PS → Option (FL × PS) // ∀ (g : Gl) (F : Fk g) (l : Addr) (ns : List Int) (_ : Scr g l ns), Ex0 g ΓL 18 (nthS bo_law 0) (f l ns) } := by
  apply Subtype.mk
  intro g F l ns S
  refine' (?_ : Ex0 g ΓL 18 (Subtype.val (p := fun x => x = nthS bo_law 0) (by apply Subtype.mk; conv => rhs; whnf; rfl)) _)
  have hop : OpN0 g 1 (fun ws => call (.ref F.drawn.a) ws) (fnF 1 7 (drawnF l ns)) :=
    OpN0.fn (pn := [Str.ofString "script"]) (ls := [Str.ofString "numbers", Str.ofString "place", Str.ofString "q", Str.ofString "size", Str.ofString "pairs", Str.ofString "hidden", Str.ofString "signs"]) F.lim F.drawn.fn rfl rfl rfl (by decide +kernel) (by ((intro doc pm an cdv ct ws h; rcases ws with _ | ⟨w1, _ | ⟨w2, _ | ⟨w3, _ | ⟨w4, _ | ⟨w5, ws⟩⟩⟩⟩⟩ <;> first | rfl | (simp at h)))) (by decide +kernel) (by decide +kernel) (by decide) (drawnX.2 g F l ns S)
  refine' Ex0.asgT (Ev0.fnV F.drawn hop (by decide) (by ((intros; kernel_rfl))) (by ((intros; kernel_rfl))) (i := 0) rfl (by ((intros; kernel_rfl))) (by ((intros; kernel_rfl)))) ?_ (by ((intros; kernel_rfl))) (by ((intros; kernel_rfl)))
  repeat' wtm_at "mine step"
theorem s1Z_eq (l : Addr) (ns : List Int) : s1Z.1 l ns = s1X.1 l ns := rfl
end Mine
end P80
section P73
open PySem PySem.W PyProof.Rows PySem.Calls PySem.Spec
namespace Mine
noncomputable def us0 : List (List Nat) := [[40, 41, 40, 41, 40], [40, 40, 41, 41, 40], [40, 41, 40, 40, 41], [40, 40, 41, 40, 41], [40, 40, 40, 41, 41]]
noncomputable def us1 : List (List Nat) := [[40, 41, 40, 41, 40], [40, 41, 40, 40, 41], [40, 40, 41, 41, 40], [40, 40, 41, 40, 41], [40, 40, 40, 41, 41]]
noncomputable def us2 : List (List Nat) := [[40, 41, 40, 41], [40, 40, 41, 41]]
noncomputable def us3 : List (List Nat) := [[40, 41, 40, 41, 40, 41], [40, 40, 41, 41, 40, 41], [40, 41, 40, 40, 41, 41], [40, 40, 41, 40, 41, 41], [40, 40, 40, 41, 41, 41]]
noncomputable def us4 : List (List Nat) := [[40, 41, 40, 41, 40, 41], [40, 41, 40, 40, 41, 41], [40, 40, 41, 41, 40, 41], [40, 40, 41, 40, 41, 41], [40, 40, 40, 41, 41, 41]]
noncomputable def us5 : List (List Nat) := [[40, 41, 40, 41, 40, 40], [40, 40, 41, 41, 40, 40], [40, 41, 40, 40, 41, 40], [40, 40, 41, 40, 41, 40], [40, 41, 40, 40, 40, 41]]
noncomputable def us6 : List (List Nat) := [[40, 41, 40, 41, 40, 40], [40, 40, 41, 41, 40, 40], [40, 41, 40, 40, 41, 40], [40, 41, 40, 40, 40, 41], [40, 40, 41, 40, 41, 40]]
noncomputable def us7 : List (List Nat) := [[40, 41, 40, 41, 40, 40], [40, 41, 40, 40, 41, 40], [40, 40, 41, 41, 40, 40], [40, 40, 41, 40, 41, 40], [40, 41, 40, 40, 40, 41]]
noncomputable def us8 : List (List Nat) := [[40, 41, 40, 41, 40, 40], [40, 41, 40, 40, 41, 40], [40, 40, 41, 41, 40, 40], [40, 41, 40, 40, 40, 41], [40, 40, 41, 40, 41, 40]]
noncomputable def us9 : List (List Nat) := [[40, 41, 40, 40, 40], [40, 40, 41, 40, 40], [40, 40, 40, 41, 40], [40, 40, 40, 40, 41]]
noncomputable def us10 : List (List Nat) := [[40, 41, 40, 40], [40, 40, 41, 40], [40, 40, 40, 41]]
noncomputable def us11 : List (List Nat) := [[40, 41, 40, 40, 40, 40], [40, 40, 41, 40, 40, 40], [40, 40, 40, 41, 40, 40], [40, 40, 40, 40, 41, 40], [40, 40, 40, 40, 40, 41]]
noncomputable def L12 : List (List (List Nat)) := [us0, us1, us2, us3, us4, us5, us6, us7, us8, us9, us10, us11]
noncomputable def hd0 : List Nat := []
noncomputable def hd1 : List Nat := [92, 41]
noncomputable def hd2 : List Nat := [34, 40, 34]
noncomputable def sg0 : List Nat := [40, 41]
noncomputable def sg1 : List Nat := [41, 40]
theorem rest_0_0 : restOK hd0 us0 = true := by decide +kernel
theorem rest_1_0 : restOK hd0 us1 = true := by decide +kernel
theorem rest_2_0 : restOK hd0 us2 = true := by decide +kernel
theorem rest_3_0 : restOK hd0 us3 = true := by decide +kernel
theorem rest_4_0 : restOK hd0 us4 = true := by decide +kernel
theorem rest_5_0 : restOK hd0 us5 = true := by decide +kernel
theorem rest_6_0 : restOK hd0 us6 = true := by decide +kernel
theorem rest_7_0 : restOK hd0 us7 = true := by decide +kernel
theorem rest_8_0 : restOK hd0 us8 = true := by decide +kernel
theorem rest_9_0 : restOK hd0 us9 = true := by decide +kernel
theorem rest_10_0 : restOK hd0 us10 = true := by decide +kernel
theorem rest_11_0 : restOK hd0 us11 = true := by decide +kernel
theorem rest_0_1 : restOK hd1 us0 = true := by decide +kernel
theorem rest_1_1 : restOK hd1 us1 = true := by decide +kernel
theorem rest_2_1 : restOK hd1 us2 = true := by decide +kernel
theorem rest_3_1 : restOK hd1 us3 = true := by decide +kernel
theorem rest_4_1 : restOK hd1 us4 = true := by decide +kernel
theorem rest_5_1 : restOK hd1 us5 = true := by decide +kernel
theorem rest_6_1 : restOK hd1 us6 = true := by decide +kernel
theorem rest_7_1 : restOK hd1 us7 = true := by decide +kernel
theorem rest_8_1 : restOK hd1 us8 = true := by decide +kernel
theorem rest_9_1 : restOK hd1 us9 = true := by decide +kernel
theorem rest_10_1 : restOK hd1 us10 = true := by decide +kernel
theorem rest_11_1 : restOK hd1 us11 = true := by decide +kernel
theorem rest_0_2 : restOK hd2 us0 = true := by decide +kernel
theorem rest_1_2 : restOK hd2 us1 = true := by decide +kernel
theorem rest_2_2 : restOK hd2 us2 = true := by decide +kernel
theorem rest_3_2 : restOK hd2 us3 = true := by decide +kernel
theorem rest_4_2 : restOK hd2 us4 = true := by decide +kernel
theorem rest_5_2 : restOK hd2 us5 = true := by decide +kernel
theorem rest_6_2 : restOK hd2 us6 = true := by decide +kernel
theorem rest_7_2 : restOK hd2 us7 = true := by decide +kernel
theorem rest_8_2 : restOK hd2 us8 = true := by decide +kernel
theorem rest_9_2 : restOK hd2 us9 = true := by decide +kernel
theorem rest_10_2 : restOK hd2 us10 = true := by decide +kernel
theorem rest_11_2 : restOK hd2 us11 = true := by decide +kernel
theorem rests_0 : ∀ us ∈ L12, restOK hd0 us = true := by
  intro us hu
  unfold L12 at hu
  simp only [List.mem_cons, List.not_mem_nil, or_false] at hu
  rcases hu with rfl | rfl | rfl | rfl | rfl | rfl | rfl | rfl | rfl | rfl | rfl | rfl
  · exact rest_0_0
  · exact rest_1_0
  · exact rest_2_0
  · exact rest_3_0
  · exact rest_4_0
  · exact rest_5_0
  · exact rest_6_0
  · exact rest_7_0
  · exact rest_8_0
  · exact rest_9_0
  · exact rest_10_0
  · exact rest_11_0
theorem rests_1 : ∀ us ∈ L12, restOK hd1 us = true := by
  intro us hu
  unfold L12 at hu
  simp only [List.mem_cons, List.not_mem_nil, or_false] at hu
  rcases hu with rfl | rfl | rfl | rfl | rfl | rfl | rfl | rfl | rfl | rfl | rfl | rfl
  · exact rest_0_1
  · exact rest_1_1
  · exact rest_2_1
  · exact rest_3_1
  · exact rest_4_1
  · exact rest_5_1
  · exact rest_6_1
  · exact rest_7_1
  · exact rest_8_1
  · exact rest_9_1
  · exact rest_10_1
  · exact rest_11_1
theorem rests_2 : ∀ us ∈ L12, restOK hd2 us = true := by
  intro us hu
  unfold L12 at hu
  simp only [List.mem_cons, List.not_mem_nil, or_false] at hu
  rcases hu with rfl | rfl | rfl | rfl | rfl | rfl | rfl | rfl | rfl | rfl | rfl | rfl
  · exact rest_0_2
  · exact rest_1_2
  · exact rest_2_2
  · exact rest_3_2
  · exact rest_4_2
  · exact rest_5_2
  · exact rest_6_2
  · exact rest_7_2
  · exact rest_8_2
  · exact rest_9_2
  · exact rest_10_2
  · exact rest_11_2
end Mine
end P73
section P74
open PySem PySem.W PyProof.Rows PySem.Calls PySem.Spec
namespace Mine
theorem menu_0_0_0 : menuOK L12 5 2 hd0 sg0 = true := by decide +kernel
theorem menu_0_0_1 : menuOK L12 5 2 hd0 sg1 = true := by decide +kernel
theorem menu_0_1_0 : menuOK L12 5 2 hd1 sg0 = true := by decide +kernel
theorem menu_0_1_1 : menuOK L12 5 2 hd1 sg1 = true := by decide +kernel
theorem menu_0_2_0 : menuOK L12 5 2 hd2 sg0 = true := by decide +kernel
theorem menu_0_2_1 : menuOK L12 5 2 hd2 sg1 = true := by decide +kernel
theorem menu_1_0_0 : menuOK L12 4 2 hd0 sg0 = true := by decide +kernel
theorem menu_1_0_1 : menuOK L12 4 2 hd0 sg1 = true := by decide +kernel
theorem menu_1_1_0 : menuOK L12 4 2 hd1 sg0 = true := by decide +kernel
theorem menu_1_1_1 : menuOK L12 4 2 hd1 sg1 = true := by decide +kernel
theorem menu_1_2_0 : menuOK L12 4 2 hd2 sg0 = true := by decide +kernel
theorem menu_1_2_1 : menuOK L12 4 2 hd2 sg1 = true := by decide +kernel
theorem menu_2_0_0 : menuOK L12 6 3 hd0 sg0 = true := by decide +kernel
theorem menu_2_0_1 : menuOK L12 6 3 hd0 sg1 = true := by decide +kernel
theorem menu_2_1_0 : menuOK L12 6 3 hd1 sg0 = true := by decide +kernel
theorem menu_2_1_1 : menuOK L12 6 3 hd1 sg1 = true := by decide +kernel
theorem menu_2_2_0 : menuOK L12 6 3 hd2 sg0 = true := by decide +kernel
theorem menu_2_2_1 : menuOK L12 6 3 hd2 sg1 = true := by decide +kernel
theorem menu_3_0_0 : menuOK L12 6 2 hd0 sg0 = true := by decide +kernel
theorem menu_3_0_1 : menuOK L12 6 2 hd0 sg1 = true := by decide +kernel
theorem menu_3_1_0 : menuOK L12 6 2 hd1 sg0 = true := by decide +kernel
theorem menu_3_1_1 : menuOK L12 6 2 hd1 sg1 = true := by decide +kernel
theorem menu_3_2_0 : menuOK L12 6 2 hd2 sg0 = true := by decide +kernel
theorem menu_3_2_1 : menuOK L12 6 2 hd2 sg1 = true := by decide +kernel
theorem menu_4_0_0 : menuOK L12 5 1 hd0 sg0 = true := by decide +kernel
theorem menu_4_0_1 : menuOK L12 5 1 hd0 sg1 = true := by decide +kernel
theorem menu_4_1_0 : menuOK L12 5 1 hd1 sg0 = true := by decide +kernel
theorem menu_4_1_1 : menuOK L12 5 1 hd1 sg1 = true := by decide +kernel
theorem menu_4_2_0 : menuOK L12 5 1 hd2 sg0 = true := by decide +kernel
theorem menu_4_2_1 : menuOK L12 5 1 hd2 sg1 = true := by decide +kernel
theorem menu_5_0_0 : menuOK L12 4 1 hd0 sg0 = true := by decide +kernel
theorem menu_5_0_1 : menuOK L12 4 1 hd0 sg1 = true := by decide +kernel
theorem menu_5_1_0 : menuOK L12 4 1 hd1 sg0 = true := by decide +kernel
theorem menu_5_1_1 : menuOK L12 4 1 hd1 sg1 = true := by decide +kernel
theorem menu_5_2_0 : menuOK L12 4 1 hd2 sg0 = true := by decide +kernel
theorem menu_5_2_1 : menuOK L12 4 1 hd2 sg1 = true := by decide +kernel
theorem menu_6_0_0 : menuOK L12 6 1 hd0 sg0 = true := by decide +kernel
theorem menu_6_0_1 : menuOK L12 6 1 hd0 sg1 = true := by decide +kernel
theorem menu_6_1_0 : menuOK L12 6 1 hd1 sg0 = true := by decide +kernel
theorem menu_6_1_1 : menuOK L12 6 1 hd1 sg1 = true := by decide +kernel
theorem menu_6_2_0 : menuOK L12 6 1 hd2 sg0 = true := by decide +kernel
theorem menu_6_2_1 : menuOK L12 6 1 hd2 sg1 = true := by decide +kernel
end Mine
end P74
section P79
open PySem PySem.W PyProof.Rows PySem.Calls PySem.Spec
set_option maxHeartbeats 4000000
namespace Mine
theorem all2 {β : Type} {p : β → Prop} {a b : β} (h1 : p a) (h2 : p b) : ∀ x ∈ [a, b], p x := List.forall_mem_cons.mpr ⟨h1, List.forall_mem_cons.mpr ⟨h2, fun _ h => nomatch h⟩⟩
theorem all3 {β : Type} {p : β → Prop} {a b c : β} (h1 : p a) (h2 : p b) (h3 : p c) : ∀ x ∈ [a, b, c], p x := List.forall_mem_cons.mpr ⟨h1, all2 h2 h3⟩
theorem menus_all7 : ∀ p ∈ menus7, ∀ hd ∈ hds3, ∀ sg ∈ sgs2, menuOK L12 p.1 p.2 hd sg = true :=
  List.forall_mem_cons.mpr ⟨(all3 (all2 menu_0_0_0 menu_0_0_1) (all2 menu_0_1_0 menu_0_1_1) (all2 menu_0_2_0 menu_0_2_1)), List.forall_mem_cons.mpr ⟨(all3 (all2 menu_1_0_0 menu_1_0_1) (all2 menu_1_1_0 menu_1_1_1) (all2 menu_1_2_0 menu_1_2_1)), List.forall_mem_cons.mpr ⟨(all3 (all2 menu_2_0_0 menu_2_0_1) (all2 menu_2_1_0 menu_2_1_1) (all2 menu_2_2_0 menu_2_2_1)), List.forall_mem_cons.mpr ⟨(all3 (all2 menu_3_0_0 menu_3_0_1) (all2 menu_3_1_0 menu_3_1_1) (all2 menu_3_2_0 menu_3_2_1)), List.forall_mem_cons.mpr ⟨(all3 (all2 menu_4_0_0 menu_4_0_1) (all2 menu_4_1_0 menu_4_1_1) (all2 menu_4_2_0 menu_4_2_1)), List.forall_mem_cons.mpr ⟨(all3 (all2 menu_5_0_0 menu_5_0_1) (all2 menu_5_1_0 menu_5_1_1) (all2 menu_5_2_0 menu_5_2_1)), List.forall_mem_cons.mpr ⟨(all3 (all2 menu_6_0_0 menu_6_0_1) (all2 menu_6_1_0 menu_6_1_1) (all2 menu_6_2_0 menu_6_2_1)), fun _ h => nomatch h⟩⟩⟩⟩⟩⟩⟩
theorem menus_all {sz pr : Int} {hd sg : List Nat} (h1 : (sz, pr) ∈ menus7) (h2 : hd ∈ hds3) (h3 : sg ∈ sgs2) : menuOK L12 sz pr hd sg = true := menus_all7 _ h1 _ h2 _ h3
theorem rests_all {hd : List Nat} (h2 : hd ∈ hds3) : ∀ us ∈ L12, restOK hd us = true := all3 (p := fun hd => ∀ us ∈ L12, restOK hd us = true) rests_0 rests_1 rests_2 hd h2
theorem nin_lt {x : Nat} {l : List Nat} (h : ∀ y ∈ l, y < x) : x ∉ l := fun m => Nat.lt_irrefl _ (h x m)
theorem six_nodup (L PL PI PD : Nat) (h1 : PD < L) (h2 : PI < L) (h3 : PL < L) (hne : [PL, PI, PD].Nodup) : [L + 1 + 1 + 1, L + 1 + 1, L + 1, PL, PI, PD].Nodup := by
  have s : ∀ x y : Nat, x < y → x < y + 1 := fun _ _ h => Nat.lt_succ_of_lt h
  have t : ∀ n : Nat, L < n → ∀ y ∈ [PL, PI, PD], y < n := fun n hn => all3 (Nat.lt_trans h3 hn) (Nat.lt_trans h2 hn) (Nat.lt_trans h1 hn)
  have l1 : L < L + 1 := Nat.lt_succ_self L
  exact List.nodup_cons.mpr ⟨nin_lt (List.forall_mem_cons.mpr ⟨Nat.lt_succ_self _, List.forall_mem_cons.mpr ⟨s _ _ (Nat.lt_succ_self _), t _ (s _ _ (s _ _ l1))⟩⟩),
    List.nodup_cons.mpr ⟨nin_lt (List.forall_mem_cons.mpr ⟨Nat.lt_succ_self _, t _ (s _ _ l1)⟩), List.nodup_cons.mpr ⟨nin_lt (t _ l1), hne⟩⟩⟩
theorem tabs3_some {l : List MO} (h : tabs3 l = true) : ∃ x y, l = [.any, .tab x, .tab y] := by
  cases l with
  | nil => exact ff h
  | cons a l => cases a with
    | any => cases l with
      | nil => exact ff h
      | cons b l => cases b with
        | tab x => cases l with
          | nil => exact ff h
          | cons c l => cases c with
            | tab y => cases l with
              | nil => exact ⟨x, y, rfl⟩
              | cons _ _ => exact ff h
            | _ => cases l <;> exact ff h
        | _ => cases l with
          | nil => exact ff h
          | cons _ l => cases l <;> exact ff h
    | _ => cases l with
      | nil => exact ff h
      | cons _ l => cases l with
        | nil => exact ff h
        | cons _ l => cases l <;> exact ff h
theorem grown_of {g : Gl} {Γ : Sta} {c : Cx g Γ} {α : List Addr} {ext : List (Addr × Obj)} {G : List GenState} {st : PS} {s : Shared} {PL PI PD : Addr} (hg : g.tabs = [PL, PI, PD]) (R : Rel c α ext G st s) (h : tabs3 (st.ss.sto.drop (st.ss.sto.length - 3)) = true) :
    GrownAt PL s.heap ∧ GrownAt PI s.heap ∧ GrownAt PD s.heap := by
  obtain ⟨m, led, bl, R⟩ := R
  refine (tabs3_some h).elim fun x h => h.elim fun y e => ?_
  have hlen : (st.ss.sto.drop (st.ss.sto.length - 3)).length = 3 := by rw [e]; rfl
  rw [List.length_drop] at hlen
  obtain ⟨αg, hα⟩ := R.tb
  rw [hg] at hα
  have hal : α.length = st.ss.sto.length := by rw [← R.la, List.length_map, R.lo.length]
  have hag : αg.length + 3 = st.ss.sto.length := by rw [← hal, ← hα, List.length_append]; rfl
  have key : ∀ (j : Nat) (mo : MO) (P : Addr), [MO.any, .tab x, .tab y][j]? = some mo → [PL, PI, PD][j]? = some P → (∀ q α o, ObjOK q α mo o → ∃ ps, o = tabObj ps) → GrownAt P s.heap := by
    intro j mo P h1 h2 h3
    rw [← e, List.getElem?_drop] at h1
    obtain ⟨a, o, h4, h5⟩ := R.lo.get h1
    obtain ⟨ps, rfl⟩ := h3 _ _ _ h5
    have h6 : α[st.ss.sto.length - 3 + j]? = some a := by rw [← R.la, List.getElem?_map, h4]; rfl
    rw [← hα, show st.ss.sto.length - 3 + j = αg.length + j by omega, List.getElem?_append_right (by omega), Nat.add_sub_cancel_left, h2] at h6
    cases h6
    exact ⟨ps, (R.N _ (List.mem_append_left _ (List.mem_of_getElem? h4))).1⟩
  have tab : ∀ (z : Option (Int × Int × Nat)) (q : Int) (α : List Addr) (o : Obj), ObjOK q α (.tab z) o → ∃ ps, o = tabObj ps := by
    intro z q α o h
    cases z with
    | none => exact ⟨_, h⟩
    | some z => obtain ⟨l, k, ci⟩ := z; obtain ⟨c', h, _⟩ := h; exact ⟨_, h⟩
  exact ⟨key 0 _ _ rfl rfl fun _ _ _ h => h, key 1 _ _ rfl rfl (tab x), key 2 _ _ rfl rfl (tab y)⟩
theorem law_main {prog : Program} {w : World} {s₁ : Shared} {h₁ G0 : Heap} {L l fa : Addr} {m0 : Str → Option Value} {K : Frag} {p : Program} {loose : List Str} {mean : ExcName → Option Value} {mg mb : Str → Option Value} {cI cD cL PI PD PL : Addr} {w1 w2 w3 : Obj} {tk : Nat} {vs : List Value} {ns : List Int}
    {Q : Flow → Shared → Prop} {E : Value → Shared → Prop} (k : KOK K cI cD) (X : K.In G0) (T : Top p loose mean mg mb G0) (CI : CodeHd G0 cI PI) (CD : CodeHd G0 cD PD) (CL : CodeHd G0 cL PL) (B : Below callerA G0 [] G0)
    (F' : Fr G0 L h₁ m0) (hm : m0 (Str.ofString "script") = some (.ref l)) (N' : News G0 L h₁ [(L + 1 + 1 + 1, w3), (L + 1 + 1, w2), (L + 1, w1), (PD, tabObj #[]), (PI, tabObj #[]), (PL, tabObj #[])])
    (d3 : w3.data = .cell none) (d2 : w2.data = .cell none) (d1 : w1.data = .cell none) (hlt : PD < L ∧ PI < L ∧ PL < L) (hne : [PL, PI, PD].Nodup) (hl : G0.IsList l vs.toArray) (hI : IntsAre vs ns) (h63 : ¬ (63 : Int) < ns.length) (hg : s₁.gens = #[])
    (hQ : ∀ s', (∀ b o, G0.get? b = some o → s'.heap.get? b = some o) → s'.os = s₁.os → AllBare s'.gens → GrownAt PD s'.heap → GrownAt PI s'.heap → GrownAt PL s'.heap → Q (.ret (.bool true)) s') :
    wpAny (model prog w) (callerA.deeper (envOfC (Str.ofString "law") sc_law L fa (.ref cL))) (execs bo_law (envOfC (Str.ofString "law") sc_law L fa (.ref cL))) Q E { s₁ with heap := h₁, toks := tk } := by
  obtain ⟨q, sz, pr, hd, sg, gs, hq2, hq, hm1, hm2, hm3, e1⟩ := s1_run l ns
  let g : Gl := ⟨prog, w, q, fun h => ∀ b o, G0.get? b = some o → h.get? b = some o, fun h h' x y b o e => x b o (y b o e), hq, hq2, [PL, PI, PD]⟩
  have hB : ∀ h, g.B h → ∀ b o, G0.get? b = some o → h.get? b = some o := fun _ x => x
  let F : Fk g := Fk.of k X T hB
  have Fs : Fn g F := Fn.of (PI := PI) (PD := PD) k X T hB CI CD rfl rfl
  have S : Scr g l ns := ⟨fun h hb => ⟨vs, let ⟨o, e, r⟩ := hl; ⟨o, hb _ _ e, r⟩, hI⟩, by omega⟩
  let env := envOfC (Str.ofString "law") sc_law L fa (.ref cL)
  let c : Cx g ΓL := {
    A := callerA.deeper env
    A₀ := callerA, base := G0, outer := [], env := env, fenv := env, h₀ := G0, L := L, blk := none, lvl := 19, bm := fun _ => none
    hA := by show Option.map _ callerA.frames = _; rw [B.stack]; rfl
    hh := rfl, hff := rfl, hfk := rfl, hfl := fun _ => rfl, hbl := fun _ e => (nomatch e)
    below := B
    hscope := rfl, hkind := rfl, hglob := rfl, hblt := rfl
    hB := fun _ _ e => e
    hdep := by show callerA.depth + 1 + 19 < recursionLimit; decide
    hun := by show callerA.units + 3 + 20 * 19 + 20 < cLine; decide }
  have R0 : Rel c [L + 1 + 1 + 1, L + 1 + 1, L + 1, PL, PI, PD] [] [] ⟨[some (.old l), none, none, none, none, none, none, none], [3, 4, 5], ⟨6, base0⟩⟩ { s₁ with heap := h₁, toks := tk + 1 } := by
    refine ⟨m0, [(L + 1 + 1 + 1, w3), (L + 1 + 1, w2), (L + 1, w1), (PL, tabObj #[]), (PI, tabObj #[]), (PD, tabObj #[])], [], F', fun p hp => N' p ?_, ?_, rfl, .cons d3 (.cons d2 (.cons d1 (.cons rfl (.cons rfl (.cons rfl .nil))))), rfl, ⟨rfl, ?_⟩, ?_, List.nil_prefix, .of_eq hg, ⟨[L + 1 + 1 + 1, L + 1 + 1, L + 1], rfl⟩, Nat.succ_pos _⟩
    · simp only [List.append_nil, List.mem_cons, List.not_mem_nil, or_false] at hp ⊢
      rcases hp with h | h | h | h | h | h
      · exact .inl h
      · exact .inr (.inl h)
      · exact .inr (.inr (.inl h))
      · exact .inr (.inr (.inr (.inr (.inr h))))
      · exact .inr (.inr (.inr (.inr (.inl h))))
      · exact .inr (.inr (.inr (.inl h)))
    · show [L + 1 + 1 + 1, L + 1 + 1, L + 1, PL, PI, PD].Nodup
      exact six_nodup L PL PI PD hlt.1 hlt.2.1 hlt.2.2 hne
    · intro i x v hx hv
      match i with
      | 0 => cases hv; cases hx; exact ⟨.ref l, hm, rfl⟩
      | 1 => cases hv
      | 2 => cases hv
      | 3 => cases hv
      | 4 => cases hv
      | 5 => cases hv
      | 6 => cases hv
      | 7 => cases hv
      | i + 8 => cases hv
    · intro i x kk hx hk'
      match i with
      | 0 => cases hx; cases hk'; exact ⟨L + 1, rfl, rfl⟩
      | 1 => cases hx; cases hk'; exact ⟨L + 1 + 1, rfl, rfl⟩
      | 2 => cases hx; cases hk'; exact ⟨L + 1 + 1 + 1, rfl, rfl⟩
      | i + 3 => cases hx
  show wpAny (model g.prog g.w) c.A (execs (nthS bo_law 0 :: bo_law.drop 1) c.env) Q E _
  refine wpAny_execs_cons (s1Z.2 g F l ns S c (show 18 ≤ 19 by decide) _ [] [] _ .next _ _ _ E e1 R0 fun w1 α1 s2 hs1 R1 ho1 va => ?_)
  cases w1 <;> try exact (show False from va).elim
  obtain ⟨α2, R2⟩ := Rel.restart (loc2 := (stA sz pr hd sg).loc) (gs := gs) (kept := []) (old1 := [.cell none, .cell (some (.str hd)), .cell (some (iC q)), .tab none, .tab none, .tab none]) (old2 := base6 hd (.tab none)) (ks := []) R1 (by
    refine ⟨rfl, rfl, List.nodup_nil, (fun _ h => nomatch h), rfl, (fun j mo2 hj => by cases hj), ?_, ?_, (show 3 ≤ 6 by decide), ?_⟩
    · intro j mo2 hj
      match j with
      | 0 => cases hj; exact ⟨_, rfl, fun _ _ _ h => h⟩
      | 1 => cases hj; exact ⟨_, rfl, closedB (q := g.q) (hd := hd) (t2 := .tab none) (fun _ _ _ h => h) 1 _ rfl⟩
      | 2 =>
        cases hj
        refine ⟨_, rfl, ?_⟩
        rintro α α' o ⟨w, e, h⟩
        obtain ⟨t, rfl⟩ := h.int_inv
        refine ⟨_, e, ?_⟩
        show evalP q [0, 1] = q
        simp [evalP]
      | 3 => cases hj; exact ⟨_, rfl, fun _ _ _ h => h⟩
      | 4 => cases hj; exact ⟨_, rfl, fun _ _ _ h => h⟩
      | 5 => cases hj; exact ⟨_, rfl, fun _ _ _ h => h⟩
      | j + 6 => cases hj
    · intro k' hk'
      show k' < 6
      simp at hk'; omega
    · intro i v2 hv2
      match i with
      | 0 => cases hv2
      | 1 => cases hv2; exact ⟨_, rfl, .inl fun α α' w h => by cases w <;> exact h⟩
      | 2 => cases hv2; exact ⟨_, rfl, .inl fun α α' w h => by cases w <;> exact h⟩
      | 3 => cases hv2; exact ⟨_, rfl, .inl fun α α' w h => by cases w <;> exact h⟩
      | 4 => cases hv2
      | 5 => cases hv2
      | 6 => cases hv2
      | 7 => cases hv2
      | i + 8 => cases hv2)
  refine tail_ok F Fs (c := c) ⟨fa, cL, PL, _, p, loose, mean, mg, mb, rfl, CL, rfl, T⟩ (show 18 ≤ 19 by decide) (show 3 ≤ 6 by decide) (menus_all hm1 hm2 hm3) (rests_all hm2) R2 fun α' st' s' R3 ht ho => ?_
  obtain ⟨g1, g2, g3⟩ := grown_of rfl R3 ht
  obtain ⟨m, led, bl, R3⟩ := R3
  exact hQ s' R3.F.keep (ho.trans ho1) R3.ba g3 g2 g1
end Mine
end P79
section P82
open PySem PySem.W PyProof.Rows PySem.Calls PySem.Spec
set_option maxHeartbeats 40000000
namespace Mine
noncomputable def keepS : List Nat → List Stmt → Nat → List Stmt
  | [], _, _ => []
  | _, [], _ => []
  | k :: ks, s :: l, n => match Nat.beq k n with
    | true => s :: keepS ks l (n + 1)
    | false => keepS (k :: ks) l (n + 1)
noncomputable def viewQ : Program := { PySem.Challenge.pw_uq0008_01 with main := { PySem.Challenge.pw_uq0008_01.main with body := keepS [1, 2, 3, 4, 5, 6, 7, 9, 10, 11, 12, 14, 15, 16, 17, 19, 20, 21, 22, 23, 24, 25, 26] lawProg 0 } }
/-- a def's object -/
noncomputable def fO (nm : Str) (pa : Arguments) (bo : List Stmt) (sc : Scope) (md : Str) (mt c : Nat) : Obj := Obj.mk (Value.type "function") none (Data.func (FuncData.mk nm nm pa (.stmts bo) sc mainGlobals [] .none .none .none (.str md mt) none (.ref c) .none builtinsNs)) #[]
/-- what the head tells of the heap, written out -/
noncomputable def KF : Params → Frag := fun P => [
  (nat_lit 2, Obj.mk Value.none none (Data.dict #[]) #[]),
  (nat_lit 3, Obj.mk (Value.type "dict") none (Data.dict #[DictEntry.mk (PyData.keyHash P (Str.ofString "__name__")) (Value.str (Str.ofString "__name__") 165) (Value.str (Str.ofString "law_uq0008_01") 350), DictEntry.mk (PyData.keyHash P (Str.ofString "__doc__")) (Value.str (Str.ofString "__doc__") 166) Value.none, DictEntry.mk (PyData.keyHash P (Str.ofString "__package__")) (Value.str (Str.ofString "__package__") 167) Value.none, DictEntry.mk (PyData.keyHash P (Str.ofString "__loader__")) (Value.str (Str.ofString "__loader__") 168) (Value.builtin "__main__.__loader__#opaque"), DictEntry.mk (PyData.keyHash P (Str.ofString "__spec__")) (Value.str (Str.ofString "__spec__") 169) Value.none, DictEntry.mk (PyData.keyHash P (Str.ofString "__annotations__")) (Value.str (Str.ofString "__annotations__") 170) (Value.ref 6), DictEntry.mk (PyData.keyHash P (Str.ofString "__builtins__")) (Value.str (Str.ofString "__builtins__") 171) (Value.ref 4), DictEntry.mk (PyData.keyHash P (Str.ofString "__file__")) (Value.str (Str.ofString "__file__") 173) (Value.str (Str.ofString "/claim/cut.py") 172), DictEntry.mk (PyData.keyHash P (Str.ofString "__cached__")) (Value.str (Str.ofString "__cached__") 174) Value.none, DictEntry.mk (PyData.keyHash P (Str.ofString "_DIV_LIMIT")) (Value.str (Str.ofString "_DIV_LIMIT") 190) (Value.int 4000 189), DictEntry.mk (PyData.keyHash P (Str.ofString "_div2n1n")) (Value.str (Str.ofString "_div2n1n") 207) (Value.ref 21), DictEntry.mk (PyData.keyHash P (Str.ofString "_div3n2n")) (Value.str (Str.ofString "_div3n2n") 221) (Value.ref 28), DictEntry.mk (PyData.keyHash P (Str.ofString "_int2digits")) (Value.str (Str.ofString "_int2digits") 232) (Value.ref 35), DictEntry.mk (PyData.keyHash P (Str.ofString "_digits2int")) (Value.str (Str.ofString "_digits2int") 243) (Value.ref 42), DictEntry.mk (PyData.keyHash P (Str.ofString "_divmod_pos")) (Value.str (Str.ofString "_divmod_pos") 258) (Value.ref 49), DictEntry.mk (PyData.keyHash P (Str.ofString "int_divmod")) (Value.str (Str.ofString "int_divmod") 268) (Value.ref 56), DictEntry.mk (PyData.keyHash P (Str.ofString "_iter_escaped_chars")) (Value.str (Str.ofString "_iter_escaped_chars") 280) (Value.ref 63), DictEntry.mk (PyData.keyHash P (Str.ofString "_strip_quoted_realnames")) (Value.str (Str.ofString "_strip_quoted_realnames") 292) (Value.ref 70), DictEntry.mk (PyData.keyHash P (Str.ofString "_check_parenthesis")) (Value.str (Str.ofString "_check_parenthesis") 302) (Value.ref 77), DictEntry.mk (PyData.keyHash P (Str.ofString "_pre_parse_validation")) (Value.str (Str.ofString "_pre_parse_validation") 311) (Value.ref 84), DictEntry.mk (PyData.keyHash P (Str.ofString "countOf")) (Value.str (Str.ofString "countOf") 323) (Value.ref 91), DictEntry.mk (PyData.keyHash P (Str.ofString "indexOf")) (Value.str (Str.ofString "indexOf") 333) (Value.ref 98), DictEntry.mk (PyData.keyHash P (Str.ofString "imul")) (Value.str (Str.ofString "imul") 341) (Value.ref 105), DictEntry.mk (PyData.keyHash P (Str.ofString "isub")) (Value.str (Str.ofString "isub") 349) (Value.ref 112), DictEntry.mk (PyData.keyHash P (Str.ofString "_law_drawn")) (Value.str (Str.ofString "_law_drawn") 365) (Value.ref 119), DictEntry.mk (PyData.keyHash P (Str.ofString "_law_heights")) (Value.str (Str.ofString "_law_heights") 374) (Value.ref 126), DictEntry.mk (PyData.keyHash P (Str.ofString "_law_taken")) (Value.str (Str.ofString "_law_taken") 380) (Value.ref 131), DictEntry.mk (PyData.keyHash P (Str.ofString "_law_mates")) (Value.str (Str.ofString "_law_mates") 386) (Value.ref 136), DictEntry.mk (PyData.keyHash P (Str.ofString "_law_entry")) (Value.str (Str.ofString "_law_entry") 399) (Value.ref 143), DictEntry.mk (PyData.keyHash P (Str.ofString "_law_minors")) (Value.str (Str.ofString "_law_minors") 415) (Value.ref 150), DictEntry.mk (PyData.keyHash P (Str.ofString "_law_by_heights")) (Value.str (Str.ofString "_law_by_heights") 432) (Value.ref 157), DictEntry.mk (PyData.keyHash P (Str.ofString "law")) (Value.str (Str.ofString "law") 438) (Value.ref 162)] 32) #[]),
  (nat_lit 20, Obj.mk (Value.type "code") none (Data.fields #[Value.str (Str.ofString "_div2n1n") 191, Value.str (Str.ofString "_div2n1n") 192, Value.str (Str.ofString "/claim/cut.py") 193, Value.int 3 0, Value.int 3 0, Value.int 0 0, Value.int 0 0, Value.int 3 0, Value.ref 15, Value.bool true, Value.int 181 0, Value.ref 16, Value.none, Value.ref 17, Value.ref 18, Value.ref 19, Value.int 205 0, Value.int 3 0, Value.str (Str.ofString "/claim/cut.py") 206]) #[]),
  (nat_lit 21, fO (Str.ofString "_div2n1n") pa_div2 bo_div2 sc_div2 (Str.ofString "cpy313._pylong") 187 20),
  (nat_lit 34, Obj.mk (Value.type "code") none (Data.fields #[Value.str (Str.ofString "_int2digits") 222, Value.str (Str.ofString "_int2digits") 223, Value.str (Str.ofString "/claim/cut.py") 224, Value.int 29 0, Value.int 2 0, Value.int 0 0, Value.int 0 0, Value.int 3 0, Value.ref 29, Value.bool true, Value.int 181 0, Value.ref 30, Value.none, Value.ref 31, Value.ref 32, Value.ref 33, Value.int 230 0, Value.int 29 0, Value.str (Str.ofString "/claim/cut.py") 231]) #[]),
  (nat_lit 35, fO (Str.ofString "_int2digits") pa_i2d bo_i2d sc_i2d (Str.ofString "cpy313._pylong") 187 34),
  (nat_lit 41, Obj.mk (Value.type "code") none (Data.fields #[Value.str (Str.ofString "_digits2int") 233, Value.str (Str.ofString "_digits2int") 234, Value.str (Str.ofString "/claim/cut.py") 235, Value.int 45 0, Value.int 2 0, Value.int 0 0, Value.int 0 0, Value.int 3 0, Value.ref 36, Value.bool true, Value.int 181 0, Value.ref 37, Value.none, Value.ref 38, Value.ref 39, Value.ref 40, Value.int 241 0, Value.int 45 0, Value.str (Str.ofString "/claim/cut.py") 242]) #[]),
  (nat_lit 42, fO (Str.ofString "_digits2int") pa_d2i bo_d2i sc_d2i (Str.ofString "cpy313._pylong") 187 41),
  (nat_lit 48, Obj.mk (Value.type "code") none (Data.fields #[Value.str (Str.ofString "_divmod_pos") 244, Value.str (Str.ofString "_divmod_pos") 245, Value.str (Str.ofString "/claim/cut.py") 246, Value.int 54 0, Value.int 2 0, Value.int 0 0, Value.int 0 0, Value.int 3 0, Value.ref 43, Value.bool true, Value.int 181 0, Value.ref 44, Value.none, Value.ref 45, Value.ref 46, Value.ref 47, Value.int 256 0, Value.int 54 0, Value.str (Str.ofString "/claim/cut.py") 257]) #[]),
  (nat_lit 49, fO (Str.ofString "_divmod_pos") pa_dpos bo_dpos sc_dpos (Str.ofString "cpy313._pylong") 187 48),
  (nat_lit 55, Obj.mk (Value.type "code") none (Data.fields #[Value.str (Str.ofString "int_divmod") 259, Value.str (Str.ofString "int_divmod") 260, Value.str (Str.ofString "/claim/cut.py") 261, Value.int 65 0, Value.int 2 0, Value.int 0 0, Value.int 0 0, Value.int 3 0, Value.ref 50, Value.bool true, Value.int 181 0, Value.ref 51, Value.none, Value.ref 52, Value.ref 53, Value.ref 54, Value.int 266 0, Value.int 65 0, Value.str (Str.ofString "/claim/cut.py") 267]) #[]),
  (nat_lit 56, fO (Str.ofString "int_divmod") pa_idm bo_idm sc_idm (Str.ofString "cpy313._pylong") 187 55),
  (nat_lit 62, Obj.mk (Value.type "code") none (Data.fields #[Value.str (Str.ofString "_iter_escaped_chars") 271, Value.str (Str.ofString "_iter_escaped_chars") 272, Value.str (Str.ofString "/claim/cut.py") 273, Value.int 77 0, Value.int 1 0, Value.int 0 0, Value.int 0 0, Value.int 35 0, Value.ref 57, Value.bool true, Value.int 181 0, Value.ref 58, Value.none, Value.ref 59, Value.ref 60, Value.ref 61, Value.int 278 0, Value.int 77 0, Value.str (Str.ofString "/claim/cut.py") 279]) #[]),
  (nat_lit 63, fO (Str.ofString "_iter_escaped_chars") pa_iter bo_iter sc_iter (Str.ofString "cpy313.email.utils") 269 62),
  (nat_lit 69, Obj.mk (Value.type "code") none (Data.fields #[Value.str (Str.ofString "_strip_quoted_realnames") 281, Value.str (Str.ofString "_strip_quoted_realnames") 282, Value.str (Str.ofString "/claim/cut.py") 283, Value.int 90 0, Value.int 1 0, Value.int 0 0, Value.int 0 0, Value.int 3 0, Value.ref 64, Value.bool true, Value.int 181 0, Value.ref 65, Value.none, Value.ref 66, Value.ref 67, Value.ref 68, Value.int 290 0, Value.int 90 0, Value.str (Str.ofString "/claim/cut.py") 291]) #[]),
  (nat_lit 70, fO (Str.ofString "_strip_quoted_realnames") pa_strip bo_strip sc_strip (Str.ofString "cpy313.email.utils") 269 69),
  (nat_lit 76, Obj.mk (Value.type "code") none (Data.fields #[Value.str (Str.ofString "_check_parenthesis") 293, Value.str (Str.ofString "_check_parenthesis") 294, Value.str (Str.ofString "/claim/cut.py") 295, Value.int 108 0, Value.int 1 0, Value.int 0 0, Value.int 0 0, Value.int 3 0, Value.ref 71, Value.bool true, Value.int 181 0, Value.ref 72, Value.none, Value.ref 73, Value.ref 74, Value.ref 75, Value.int 300 0, Value.int 108 0, Value.str (Str.ofString "/claim/cut.py") 301]) #[]),
  (nat_lit 77, fO (Str.ofString "_check_parenthesis") pa_check bo_check sc_check (Str.ofString "cpy313.email.utils") 269 76),
  (nat_lit 83, Obj.mk (Value.type "code") none (Data.fields #[Value.str (Str.ofString "_pre_parse_validation") 303, Value.str (Str.ofString "_pre_parse_validation") 304, Value.str (Str.ofString "/claim/cut.py") 305, Value.int 119 0, Value.int 1 0, Value.int 0 0, Value.int 0 0, Value.int 3 0, Value.ref 78, Value.bool true, Value.int 181 0, Value.ref 79, Value.none, Value.ref 80, Value.ref 81, Value.ref 82, Value.int 309 0, Value.int 119 0, Value.str (Str.ofString "/claim/cut.py") 310]) #[]),
  (nat_lit 84, fO (Str.ofString "_pre_parse_validation") pa_pre bo_pre sc_pre (Str.ofString "cpy313.email.utils") 269 83),
  (nat_lit 90, Obj.mk (Value.type "code") none (Data.fields #[Value.str (Str.ofString "countOf") 314, Value.str (Str.ofString "countOf") 315, Value.str (Str.ofString "/claim/cut.py") 316, Value.int 127 0, Value.int 2 0, Value.int 0 0, Value.int 0 0, Value.int 3 0, Value.ref 85, Value.bool true, Value.int 181 0, Value.ref 86, Value.none, Value.ref 87, Value.ref 88, Value.ref 89, Value.int 321 0, Value.int 127 0, Value.str (Str.ofString "/claim/cut.py") 322]) #[]),
  (nat_lit 91, fO (Str.ofString "countOf") pa_countOf bo_countOf sc_countOf (Str.ofString "cpy313.operator") 312 90),
  (nat_lit 97, Obj.mk (Value.type "code") none (Data.fields #[Value.str (Str.ofString "indexOf") 324, Value.str (Str.ofString "indexOf") 325, Value.str (Str.ofString "/claim/cut.py") 326, Value.int 133 0, Value.int 2 0, Value.int 0 0, Value.int 0 0, Value.int 3 0, Value.ref 92, Value.bool true, Value.int 181 0, Value.ref 93, Value.none, Value.ref 94, Value.ref 95, Value.ref 96, Value.int 331 0, Value.int 133 0, Value.str (Str.ofString "/claim/cut.py") 332]) #[]),
  (nat_lit 98, fO (Str.ofString "indexOf") pa_indexOf bo_indexOf sc_indexOf (Str.ofString "cpy313.operator") 312 97),
  (nat_lit 104, Obj.mk (Value.type "code") none (Data.fields #[Value.str (Str.ofString "imul") 334, Value.str (Str.ofString "imul") 335, Value.str (Str.ofString "/claim/cut.py") 336, Value.int 139 0, Value.int 2 0, Value.int 0 0, Value.int 0 0, Value.int 3 0, Value.ref 99, Value.bool true, Value.int 181 0, Value.ref 100, Value.none, Value.ref 101, Value.ref 102, Value.ref 103, Value.int 339 0, Value.int 139 0, Value.str (Str.ofString "/claim/cut.py") 340]) #[]),
  (nat_lit 105, fO (Str.ofString "imul") pa_imul bo_imul sc_imul (Str.ofString "cpy313.operator") 312 104),
  (nat_lit 111, Obj.mk (Value.type "code") none (Data.fields #[Value.str (Str.ofString "isub") 342, Value.str (Str.ofString "isub") 343, Value.str (Str.ofString "/claim/cut.py") 344, Value.int 142 0, Value.int 2 0, Value.int 0 0, Value.int 0 0, Value.int 3 0, Value.ref 106, Value.bool true, Value.int 181 0, Value.ref 107, Value.none, Value.ref 108, Value.ref 109, Value.ref 110, Value.int 347 0, Value.int 142 0, Value.str (Str.ofString "/claim/cut.py") 348]) #[]),
  (nat_lit 112, fO (Str.ofString "isub") pa_isub bo_isub sc_isub (Str.ofString "cpy313.operator") 312 111),
  (nat_lit 118, Obj.mk (Value.type "code") none (Data.fields #[Value.str (Str.ofString "_law_drawn") 352, Value.str (Str.ofString "_law_drawn") 353, Value.str (Str.ofString "/claim/cut.py") 354, Value.int 146 0, Value.int 1 0, Value.int 0 0, Value.int 0 0, Value.int 3 0, Value.ref 113, Value.bool true, Value.int 181 0, Value.ref 114, Value.none, Value.ref 115, Value.ref 116, Value.ref 117, Value.int 363 0, Value.int 146 0, Value.str (Str.ofString "/claim/cut.py") 364]) #[]),
  (nat_lit 119, fO (Str.ofString "_law_drawn") pa_drawn bo_drawn sc_drawn (Str.ofString "law_uq0008_01") 350 118),
  (nat_lit 125, Obj.mk (Value.type "code") none (Data.fields #[Value.str (Str.ofString "_law_heights") 366, Value.str (Str.ofString "_law_heights") 367, Value.str (Str.ofString "/claim/cut.py") 368, Value.int 157 0, Value.int 1 0, Value.int 0 0, Value.int 0 0, Value.int 3 0, Value.ref 120, Value.bool true, Value.int 181 0, Value.ref 121, Value.none, Value.ref 122, Value.ref 123, Value.ref 124, Value.int 372 0, Value.int 157 0, Value.str (Str.ofString "/claim/cut.py") 373]) #[]),
  (nat_lit 126, fO (Str.ofString "_law_heights") pa_heights bo_heights sc_heights (Str.ofString "law_uq0008_01") 350 125),
  (nat_lit 130, Obj.mk (Value.type "code") none (Data.fields #[Value.str (Str.ofString "_law_taken") 375, Value.str (Str.ofString "_law_taken") 376, Value.str (Str.ofString "/claim/cut.py") 377, Value.int 162 0, Value.int 4 0, Value.int 0 0, Value.int 0 0, Value.int 3 0, Value.ref 127, Value.bool true, Value.int 181 0, Value.ref 128, Value.none, Value.none, Value.none, Value.ref 129, Value.int 378 0, Value.int 162 0, Value.str (Str.ofString "/claim/cut.py") 379]) #[]),
  (nat_lit 131, fO (Str.ofString "_law_taken") pa_taken bo_taken sc_taken (Str.ofString "law_uq0008_01") 350 130),
  (nat_lit 135, Obj.mk (Value.type "code") none (Data.fields #[Value.str (Str.ofString "_law_mates") 381, Value.str (Str.ofString "_law_mates") 382, Value.str (Str.ofString "/claim/cut.py") 383, Value.int 173 0, Value.int 2 0, Value.int 0 0, Value.int 0 0, Value.int 3 0, Value.ref 132, Value.bool true, Value.int 181 0, Value.ref 133, Value.none, Value.none, Value.none, Value.ref 134, Value.int 384 0, Value.int 173 0, Value.str (Str.ofString "/claim/cut.py") 385]) #[]),
  (nat_lit 136, fO (Str.ofString "_law_mates") pa_mates bo_mates sc_mates (Str.ofString "law_uq0008_01") 350 135),
  (nat_lit 142, Obj.mk (Value.type "code") none (Data.fields #[Value.str (Str.ofString "_law_entry") 387, Value.str (Str.ofString "_law_entry") 388, Value.str (Str.ofString "/claim/cut.py") 389, Value.int 184 0, Value.int 3 0, Value.int 0 0, Value.int 0 0, Value.int 3 0, Value.ref 137, Value.bool true, Value.int 181 0, Value.ref 138, Value.none, Value.ref 139, Value.ref 140, Value.ref 141, Value.int 397 0, Value.int 184 0, Value.str (Str.ofString "/claim/cut.py") 398]) #[]),
  (nat_lit 143, fO (Str.ofString "_law_entry") pa_entry bo_entry sc_entry (Str.ofString "law_uq0008_01") 350 142),
  (nat_lit 149, Obj.mk (Value.type "code") none (Data.fields #[Value.str (Str.ofString "_law_minors") 400, Value.str (Str.ofString "_law_minors") 401, Value.str (Str.ofString "/claim/cut.py") 402, Value.int 208 0, Value.int 1 0, Value.int 0 0, Value.int 0 0, Value.int 3 0, Value.ref 144, Value.bool true, Value.int 181 0, Value.ref 145, Value.none, Value.ref 146, Value.ref 147, Value.ref 148, Value.int 413 0, Value.int 208 0, Value.str (Str.ofString "/claim/cut.py") 414]) #[]),
  (nat_lit 150, fO (Str.ofString "_law_minors") pa_minors bo_minors sc_minors (Str.ofString "law_uq0008_01") 350 149),
  (nat_lit 156, Obj.mk (Value.type "code") none (Data.fields #[Value.str (Str.ofString "_law_by_heights") 416, Value.str (Str.ofString "_law_by_heights") 417, Value.str (Str.ofString "/claim/cut.py") 418, Value.int 224 0, Value.int 3 0, Value.int 0 0, Value.int 0 0, Value.int 3 0, Value.ref 151, Value.bool true, Value.int 181 0, Value.ref 152, Value.none, Value.ref 153, Value.ref 154, Value.ref 155, Value.int 430 0, Value.int 224 0, Value.str (Str.ofString "/claim/cut.py") 431]) #[]),
  (nat_lit 157, fO (Str.ofString "_law_by_heights") pa_byh bo_byh sc_byh (Str.ofString "law_uq0008_01") 350 156),
  (nat_lit 161, Obj.mk (Value.type "code") none (Data.fields #[Value.str (Str.ofString "law") 433, Value.str (Str.ofString "law") 434, Value.str (Str.ofString "/claim/cut.py") 435, Value.int 240 0, Value.int 1 0, Value.int 0 0, Value.int 0 0, Value.int 3 0, Value.ref 158, Value.bool true, Value.int 181 0, Value.ref 159, Value.none, Value.none, Value.none, Value.ref 160, Value.int 436 0, Value.int 240 0, Value.str (Str.ofString "/claim/cut.py") 437]) #[]),
  (nat_lit 162, fO (Str.ofString "law") pa_law bo_law sc_law (Str.ofString "law_uq0008_01") 350 161)]
noncomputable def kfAs : List Addr := [2, 3, 20, 21, 34, 35, 41, 42, 48, 49, 55, 56, 62, 63, 69, 70, 76, 77, 83, 84, 90, 91, 97, 98, 104, 105, 111, 112, 118, 119, 125, 126, 130, 131, 135, 136, 142, 143, 149, 150, 156, 157, 161, 162]
theorem kfAs_eq : ∀ P, kfAs = (KF P).map (·.1) := fun _ => by kernel_rfl
noncomputable def lawD : DefRec := ⟨Str.ofString "law", pa_law, bo_law, sc_law, ⟨240, 0, 247, 80⟩⟩
noncomputable abbrev kHk : Hook := kmHook KF kfAs kfAs_eq [37, 30, 159]
theorem lawSaid : PySem.Challenge.rw_uq0008_01.wellSaid = true := by kernel_rfl
theorem lawLeft : LeftO PySem.Challenge.rw_uq0008_01.row.toRowW.prog viewQ [] (fun s => xlAt viewQ [] s && recOk (RowW.records PySem.Challenge.rw_uq0008_01.row.toRowW) s) kHk.obs kHk.val 1656 := by
  intro w
  kernel_rfl
theorem hd (call : WalkO viewQ [] (XL viewQ []) (kmHook KF kfAs kfAs_eq [37, 30, 159]).says PySem.Challenge.rw_uq0008_01.row.toRowW lawD [] fun f vs => PySem.call f vs) : PySem.Challenge.rw_uq0008_01.Holds := by
  w_on
  refine holds_law lawSaid fun said => ?_
  refine holds_open (q := viewQ) (loose := []) (XP := XL viewQ []) (YP := kHk.says) (N := 1656) (d := lawD) (kwd := []) lawLeft kHk.of kHk.keeps (fun s e => xl_of s (Bool.and_eq_true_iff.mp e).1) XL.keeps (by kernel_rfl) (by kernel_rfl) (by kernel_rfl) (fun s e => recFacts_of (Bool.and_eq_true_iff.mp e).2) (by kernel_rfl) said (by kernel_rfl) ⟨by kernel_rfl, by kernel_rfl, by kernel_rfl, by kernel_rfl, by kernel_rfl, by decide +kernel⟩ ?hw call
  case hw => w_witness2
end Mine
end P82
section P81
open PySem PySem.W PyProof.Rows PySem.Calls PySem.Spec
set_option maxHeartbeats 40000000
namespace Mine
theorem knG {M : Model} {A : Around} {cd : Code} {s s₁ : Shared} {cw : ClaimW} {cl : Str → Option Addr} {mean : ExcName → Option Value} {args : List WData} {tabs : List (Addr × Addr)} (hT : TabsAt tabs s₁.heap)
    (hr : ∀ cls, cw.raises args cls = false) (hv : cw.post args (ofPy (.bool true)) args = true) (hu : cw.unshared = false ∨ True)
    (h : codeAny M A cd (fun r s' => r = .ok (.ret (.bool true)) ∧ (∀ b o, (ghostOf s₁.heap tabs).get? b = some o → s'.heap.get? b = some o) ∧ s'.os = s₁.os ∧ AllBare s'.gens ∧ GrownAll tabs s'.heap) s) : codeAny M A cd (GoodWG cw cl mean args s₁) s :=
  codeAny_mono h fun r s' ⟨hc, hk, hos, hg, hgr⟩ => by
    have keep : ∀ b o, b ∉ tabs.map (·.2) → s₁.heap.get? b = some o → s'.heap.get? b = some o := fun b o hb e => hk b o (ghost_ne e hb)
    have grown : ∀ b o, b ∈ tabs.map (·.2) → s₁.heap.get? b = some o → isCodeTable s₁.heap b ∧ o = tabObj #[] ∧ ∃ ps, s'.heap.get? b = some (tabObj ps) := fun b o hb e => by
      obtain ⟨q, hq, rfl⟩ := List.mem_map.mp hb
      have e2 := (hT q hq).2
      rw [e] at e2
      exact ⟨((hT q hq).1.tab (hT q hq).2).isCodeTable, Option.some.inj e2, hgr.get q hq⟩
    refine ⟨.inl ⟨.bool true, _, [], hc, hr, .bool _, hv, fun _ => ⟨List.nodup_nil, fun a ha => nomatch ha⟩⟩, ⟨fun b o e => ?_, fun b o e => ?_⟩, hos, hg⟩
    · by_cases hb : b ∈ tabs.map (·.2)
      · obtain ⟨ht, rfl, ps, hP⟩ := grown b o hb e
        exact .inr (.inl ⟨ht, rfl, #[], ps, rfl, by rw [Array.empty_append]; exact hP⟩)
      · exact .inl (keep b o hb e)
    · by_cases hb : b ∈ tabs.map (·.2)
      · obtain ⟨_, _, ps, hP⟩ := grown b o hb e
        exact ⟨_, hP⟩
      · exact ⟨o, keep b o hb e⟩
end Mine
theorem PySem.Challenge.cw_uq0008_01_holds : PySem.Challenge.rw_uq0008_01.Holds :=
  Mine.hd (by
  k_fill
  intro w s₀ s₁ mg mb G Y fa o pm cd doc dV kV ho hd hcd hD hmg hg args vals as hpre hlay hrd hwl hlo
  have KX := km_in_of Y
  have hT8 := km_tabs_of Y
  have X := (Ground.X G).1
  have V := (Ground.X G).2
  refine Ground.open G ?_
  intro T B D TE TW
  try (refine guard_noD D (by decide +kernel) ?_; clear D)
  have hT9 : TabsAt [(41, 37), (34, 30), (161, 159)] _ := List.forall_mem_cons.mpr ⟨⟨codeHd_of_K (c := 41) (P := 37) KX (by kernel_rfl), hT8 37 (by decide)⟩, List.forall_mem_cons.mpr ⟨⟨codeHd_of_K (c := 34) (P := 30) KX (by kernel_rfl), hT8 30 (by decide)⟩, List.forall_mem_cons.mpr ⟨⟨codeHd_of_K (c := 161) (P := 159) KX (by kernel_rfl), hT8 159 (by decide)⟩, fun _ h => nomatch h⟩⟩⟩
  have he9 : cd = PySem.Value.ref 161 := law_code (x := PySem.Str.ofString "law") (c := 161) (P := 159) KX (Top.g T) (by kernel_rfl) hmg ho hd
  subst he9
  clear hmg
  wrow_args hpre hlay hrd hwl hlo
  all_goals (
    first | refine callC_kw (enter_call ?_) | refine enter_call ?_
    w_top on
    refine Mine.knG hT9 (fun _ => rfl) ?_ (.inr trivial) ?_
    · kernel_rfl
    w_call any ho hd hcd hD T F
    clear hd
    kn_ghosts F T
    k_drop
    skip)
  rename_i X' T' K' F' C1 C2 N' l0
  refine' Mine.law_main (cI := 34) (cD := 41) (PI := 30) (PD := 37) (PL := 159) ?zk ?zX ?zT ?zCI ?zCD ?zCL ?zB ?zF ?zhm ?zN ?zd3 ?zd2 ?zd1 ?zhlt ?zhne ?zhl ?zhI ?zh63 hg ?zhQ
  case zB => exact K'
  case zN => exact N'
  case zF => exact F'
  case zX => assumption
  case zT => assumption
  case zCI => assumption
  case zCD => assumption
  case zCL => assumption
  case zhlt => assumption
  case zhne => decide
  case zhl => exact lifted
  case zhI => assumption
  case zhm => kernel_rfl
  case zd3 => exact Eq.trans (by assumption) (by kernel_rfl)
  case zd2 => exact Eq.trans (by assumption) (by kernel_rfl)
  case zd1 => exact Eq.trans (by assumption) (by kernel_rfl)
  case zh63 => assumption
  case zhQ => exact fun s' h1 h2 h3 h4 h5 h6 => ⟨rfl, h1, h2, h3, h4, h5, h6, trivial⟩
  case zk => exact ⟨by kernel_rfl, by kernel_rfl, by kernel_rfl, by kernel_rfl, by kernel_rfl, by kernel_rfl, by kernel_rfl, by kernel_rfl, by kernel_rfl, by kernel_rfl, by kernel_rfl, by kernel_rfl, by kernel_rfl, ⟨by kernel_rfl, by kernel_rfl, by kernel_rfl⟩, ⟨by kernel_rfl, by kernel_rfl, by kernel_rfl⟩, ⟨by kernel_rfl, by kernel_rfl, by kernel_rfl⟩, ⟨by kernel_rfl, by kernel_rfl, by kernel_rfl⟩, ⟨by kernel_rfl, by kernel_rfl, by kernel_rfl⟩, ⟨by kernel_rfl, by kernel_rfl, by kernel_rfl⟩, ⟨by kernel_rfl, by kernel_rfl, by kernel_rfl⟩, ⟨by kernel_rfl, by kernel_rfl, by kernel_rfl⟩, ⟨by kernel_rfl, by kernel_rfl, by kernel_rfl⟩, ⟨by kernel_rfl, by kernel_rfl, by kernel_rfl⟩, ⟨by kernel_rfl, by kernel_rfl, by kernel_rfl⟩, ⟨by kernel_rfl, by kernel_rfl, by kernel_rfl⟩, ⟨by kernel_rfl, by kernel_rfl, by kernel_rfl⟩, ⟨by kernel_rfl, by kernel_rfl, by kernel_rfl⟩, ⟨by kernel_rfl, by kernel_rfl, by kernel_rfl⟩, ⟨by kernel_rfl, by kernel_rfl, by kernel_rfl⟩, ⟨by kernel_rfl, by kernel_rfl, by kernel_rfl⟩, ⟨by kernel_rfl, by kernel_rfl, by kernel_rfl⟩, ⟨by kernel_rfl, by kernel_rfl, by kernel_rfl⟩, ⟨by kernel_rfl, by kernel_rfl, by kernel_rfl⟩, by kernel_rfl, by kernel_rfl⟩
  )
end P81
